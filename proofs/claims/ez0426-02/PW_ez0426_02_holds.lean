import PyProof.Rows.All
import Wide.All
import OpenK.AllK
import Wide.FinOn
import PySem.Challenge.RW_ez0426_02
open PySem PySem.W PyProof.Rows
set_option Elab.async false
set_option maxRecDepth 100000
set_option maxHeartbeats 8000000
namespace Mine
section PartHd2
open_top hd for PySem.Challenge.rw_ez0426_02
end PartHd2
end Mine

namespace Mine
section PartRe1
theorem plainAttrs_pat : PlainAttrs "re.Pattern" :=
  ⟨⟨"object.__getattribute__", by rw [typeLookup_type, builtinLookup_eq_fast]; kernel_rfl, by decide +kernel⟩, by rw [typeLookup_type, builtinLookup_eq_fast]; kernel_rfl⟩
theorem slot_full : Slot "re.Pattern" "fullmatch" "re.Pattern.fullmatch" :=
  .of (owner := "re.Pattern") (n := "fullmatch") (by rw [typeLookup_type, builtinLookup_eq_fast]; kernel_rfl) (by decide +kernel) (by decide +kernel) (by decide +kernel)
    (by first | exact .inl (by decide +kernel) | exact .inr (by decide +kernel)) (by rw [isSubtype_type]; kernel_rfl)
theorem type_full : typeOf (.builtin "re.Pattern.fullmatch") = pure (.type "method_descriptor") := by show builtinType _ = _; rw [builtinType_eq_fast]; kernel_rfl
theorem entry_full : entryFor table "re.Pattern.fullmatch" = some Builtin.«re.Pattern.fullmatch» := entryFor_of_tree (by kernel_rfl)
theorem args_full (a b : Value) : argsOk "re.Pattern.fullmatch" ⟨[a, b], []⟩ := by
  unfold argsOk
  have h : Manifest.signature? "re.Pattern.fullmatch" = some ⟨.keywords, "Pattern.fullmatch", "fullmatch", .self, [⟨"string", .posOrKw, true⟩, ⟨"pos", .posOrKw, false⟩, ⟨"endpos", .posOrKw, false⟩]⟩ := by kernel_rfl
  rw [h]; kernel_rfl
end PartRe1
end Mine

namespace Mine
section PartRe2
open PySem (Sem)
abbrev reC : Array Nat := #[14, 4, 0, 1, 4294967295, 24, 6, 0, 1, 16, 45, 1, 24, 10, 1, 4294967295, 13, 5, 22, 48, 57, 0, 1, 1]

def digs (T : Array Nat) : Nat → Nat → Nat
  | _, 0 => 0
  | p, n + 1 => if 48 ≤ T.getD p 0 ∧ T.getD p 0 ≤ 57 then 1 + digs T (p + 1) n else 0

theorem digs_le (T : Array Nat) : ∀ n p, digs T p n ≤ n
  | 0, _ => Nat.le_refl _
  | n + 1, p => by
    unfold digs
    have := digs_le T n (p + 1)
    split <;> omega

theorem acc_dig (c : Nat) (se : PySem.Sre.Seen) : ∃ se', PySem.Sre.accepts reC 16 c se = .ok (decide (48 ≤ c ∧ c ≤ 57), se') := by
  by_cases h : 48 ≤ c ∧ c ≤ 57
  · refine ⟨se.add 22, ?_⟩
    show (if (48 ≤ c && c ≤ 57) = true then (.ok (true, se.add 22) : Except String (Bool × PySem.Sre.Seen)) else _) = _
    rw [if_pos (by simpa using h)]
    simp [h]
  · refine ⟨(se.add 22).add 0, ?_⟩
    show (if (48 ≤ c && c ≤ 57) = true then (.ok (true, se.add 22) : Except String (Bool × PySem.Sre.Seen)) else .ok (false, (se.add 22).add 0)) = _
    rw [if_neg (by simpa using h)]
    simp [h]

theorem run_dig (T : Array Nat) : ∀ n p f se, ∃ se', PySem.Sre.run reC T 16 n p f se = .ok (f + digs T p n, se')
  | 0, p, f, se => ⟨se, rfl⟩
  | n + 1, p, f, se => by
    obtain ⟨s1, h1⟩ := acc_dig (T.getD p 0) se
    unfold PySem.Sre.run digs
    by_cases h : 48 ≤ T.getD p 0 ∧ T.getD p 0 ≤ 57
    · obtain ⟨s2, h2⟩ := run_dig T n (p + 1) (f + 1) s1
      refine ⟨s2, ?_⟩
      rw [h1, if_pos h, decide_eq_true h]
      show PySem.Sre.run reC T 16 n (p + 1) (f + 1) s1 = _
      rw [h2, Nat.add_assoc]
    · refine ⟨s1, ?_⟩
      rw [h1, if_neg h, decide_eq_false h]
      rfl

structure MS where
  pc : Nat
  pos : Nat
  handed : Nat
  frames : List PySem.Sre.Frame
  weight : Nat
  answer : Option Bool

def mk (T : Array Nat) (x : MS) (se : PySem.Sre.Seen) (oc : Option PySem.Sre.Outcome) : PySem.Sre.M :=
  { code := reC, text := T, lim := T.size, start := 0, wholeText := true, pc := x.pc, pos := x.pos, handed := x.handed, marks := #[], frames := x.frames, weight := x.weight, answer := x.answer, seen := se, outcome := oc }

def fr (pc pos : Nat) (count : Int) : PySem.Sre.Frame := { wait := .giveBack, pc, pos, outermost := true, count, kept := { lastmark := -1, lastindex := -1, whole := false, marks := #[] } }

theorem start_eq (T : Array Nat) : PySem.Sre.forMatch reC T 0 0 T.size true false =
    if 0 < T.size then mk T ⟨5, 0, 0, [], 0, none⟩ (({} : PySem.Sre.Seen).add 14) none else mk T ⟨5, 0, 0, [], 0, some false⟩ (({} : PySem.Sre.Seen).add 14) none := by
  unfold PySem.Sre.forMatch
  show (if (1 != 0 && decide (0 ≤ T.size) && decide (T.size - 0 < 1)) = true then _ else _) = _
  by_cases h : 0 < T.size
  · rw [if_neg (by simp; exact fun e => by rw [e] at h; exact absurd h (by decide)), if_pos h]; rfl
  · rw [if_pos (by simp; exact Array.eq_empty_of_size_eq_zero (by omega)), if_neg h]; rfl

def Steps (n : Nat) (m m' : PySem.Sre.M) : Prop := ∀ k, PySem.Sre.M.runFor (n + k) m = PySem.Sre.M.runFor k m'
theorem Steps.trans {a b : Nat} {m1 m2 m3 : PySem.Sre.M} (h : Steps a m1 m2) (g : Steps b m2 m3) : Steps (a + b) m1 m3 := fun k => by
  rw [Nat.add_assoc, h, g]
theorem Steps.one {m m' : PySem.Sre.M} (ho : m.outcome = none) (h : m.step = m') : Steps 1 m m' := fun k => by
  rw [Nat.add_comm]
  show (if m.outcome.isSome = true then m else PySem.Sre.M.runFor k m.step) = _
  rw [ho, h]
  rfl

def To (T : Array Nat) (n : Nat) (x y : MS) : Prop := ∀ se, ∃ se', Steps n (mk T x se none) (mk T y se' none)
theorem To.trans {T : Array Nat} {a b : Nat} {x y z : MS} (h : To T a x y) (g : To T b y z) : To T (a + b) x z := fun se => by
  obtain ⟨s1, h1⟩ := h se
  obtain ⟨s2, h2⟩ := g s1
  exact ⟨s2, h1.trans h2⟩
theorem To.one {T : Array Nat} {x y : MS} (h : ∀ se, ∃ se', (mk T x se none).step = mk T y se' none) : To T 1 x y := fun se => by
  obtain ⟨s1, h1⟩ := h se
  exact ⟨s1, Steps.one rfl h1⟩

theorem at23_no (T : Array Nat) (q hd : Nat) (fs : List PySem.Sre.Frame) (w : Nat) (h : q ≠ T.size) : To T 1 ⟨23, q, hd, fs, w, none⟩ ⟨23, q, hd, fs, w, some false⟩ := To.one fun se => ⟨se.add 1, by
  show (if (true && (true && q != T.size || false && q == 0)) = true then _ else _) = _
  rw [if_pos (by simpa using h)]
  rfl⟩
theorem at23_yes (T : Array Nat) (hd : Nat) (fs : List PySem.Sre.Frame) (w : Nat) : To T 1 ⟨23, T.size, hd, fs, w, none⟩ ⟨23, T.size, T.size, fs, w, some true⟩ := To.one fun se => ⟨se.add 1, by
  show (if (true && (true && T.size != T.size || false && T.size == 0)) = true then _ else _) = _
  rw [if_neg (by simp)]
  rfl⟩
theorem at12 (T : Array Nat) (p hd : Nat) (fs : List PySem.Sre.Frame) (hp : p ≤ T.size) (hT : T.size ≤ 4294967295) :
    To T 1 ⟨12, p, hd, fs, 1, none⟩ (if digs T p (T.size - p) = 0 then (if p = T.size then ⟨12, p, hd, fs, 1, some false⟩ else ⟨12, p, hd, fs, 1, some false⟩) else ⟨23, p + digs T p (T.size - p), p + digs T p (T.size - p), fr 12 (p + digs T p (T.size - p)) ((digs T p (T.size - p) : Nat) : Int) :: fs, 2, none⟩) := To.one fun se => by
  by_cases hr : p = T.size
  · have h0 : digs T p (T.size - p) = 0 := by rw [hr, Nat.sub_self]; rfl
    rw [if_pos h0, if_pos hr]
    refine ⟨se.add 24, ?_⟩
    show (if (((1 : Nat) : Int) > ((T.size : Nat) : Int) - ((p : Nat) : Int)) then _ else _) = _
    rw [if_pos (by omega)]
    rfl
  · have hm : min 4294967295 (((T.size : Nat) : Int) - ((p : Nat) : Int)).toNat = T.size - p := by omega
    obtain ⟨s1, h1⟩ := run_dig T (T.size - p) p 0 ((se.add 24).add 13)
    rw [Nat.zero_add] at h1
    by_cases hk : digs T p (T.size - p) = 0
    · rw [if_pos hk, if_neg hr]
      refine ⟨s1, ?_⟩
      show (if (((1 : Nat) : Int) > ((T.size : Nat) : Int) - ((p : Nat) : Int)) then _ else _) = _
      rw [if_neg (by omega)]
      show (match PySem.Sre.run reC T 16 (min 4294967295 (((T.size : Nat) : Int) - ((p : Nat) : Int)).toNat) p 0 ((se.add 24).add 13) with | .error why => _ | .ok (n, seen) => _) = _
      rw [hm, h1]
      show (if digs T p (T.size - p) < 1 then _ else _) = _
      rw [if_pos (by omega)]
      rfl
    · rw [if_neg hk]
      refine ⟨s1, ?_⟩
      show (if (((1 : Nat) : Int) > ((T.size : Nat) : Int) - ((p : Nat) : Int)) then _ else _) = _
      rw [if_neg (by omega)]
      show (match PySem.Sre.run reC T 16 (min 4294967295 (((T.size : Nat) : Int) - ((p : Nat) : Int)).toNat) p 0 ((se.add 24).add 13) with | .error why => _ | .ok (n, seen) => _) = _
      rw [hm, h1]
      show (if digs T p (T.size - p) < 1 then _ else _) = _
      rw [if_neg (by omega)]
      rfl
def n1 (T : Array Nat) : Nat := if T.getD 0 0 = 45 then 1 else 0
theorem at5 (T : Array Nat) (hp : 0 < T.size) : To T 1 ⟨5, 0, 0, [], 0, none⟩ ⟨12, n1 T, n1 T, [fr 5 (n1 T) ((n1 T : Nat) : Int)], 1, none⟩ := To.one fun se => by
  have hm : min 1 (((T.size : Nat) : Int) - ((0 : Nat) : Int)).toNat = 1 := by omega
  have h1 : PySem.Sre.run reC T 9 1 0 0 ((se.add 24).add 16) = .ok (n1 T, (se.add 24).add 16) := by
    unfold n1
    by_cases h : T.getD 0 0 = 45
    · rw [if_pos h]
      unfold PySem.Sre.run
      show (Except.bind (.ok (T.getD 0 0 == 45, _)) _) = _
      rw [h]; rfl
    · rw [if_neg h]
      unfold PySem.Sre.run
      show (Except.bind (.ok (T.getD 0 0 == 45, _)) _) = _
      rw [show (T.getD 0 0 == 45) = false from by simpa using h]
      rfl
  refine ⟨(se.add 24).add 16, ?_⟩
  show (if (((0 : Nat) : Int) > ((T.size : Nat) : Int) - ((0 : Nat) : Int)) then PySem.Sre.M.say (mk T ⟨5, 0, 0, [], 0, none⟩ (se.add 24) none) false else _) = _
  rw [if_neg (by omega)]
  show (match PySem.Sre.run reC T 9 (min 1 (((T.size : Nat) : Int) - ((0 : Nat) : Int)).toNat) 0 0 ((se.add 24).add 16) with | .error why => _ | .ok (n, seen) => _) = _
  rw [hm, h1]
  generalize n1 T = a
  show (if a < 0 then _ else _) = _
  rw [if_neg (Nat.not_lt_zero a)]
  show PySem.Sre.M.afterRun (mk T ⟨5, 0 + a, 0, [], 0, none⟩ ((se.add 24).add 16) none) .giveBack ((a : Nat) : Int) { lastmark := -1, lastindex := -1, whole := false, marks := #[] } = _
  rw [Nat.zero_add]
  rfl
theorem back12 (T : Array Nat) (pc pos hd q : Nat) (c : Int) (fs : List PySem.Sre.Frame) :
    To T 1 ⟨pc, pos, hd, fr 12 q c :: fs, 2, some false⟩ (if c - 1 < 1 then ⟨12, q, hd, fs, 1, some false⟩ else ⟨23, q - 1, q - 1, fr 12 (q - 1) (c - 1) :: fs, 2, none⟩) := To.one fun se => ⟨se, by
  show (if c - 1 < ((1 : Nat) : Int) then _ else _) = _
  by_cases h : c - 1 < 1
  · rw [if_pos h, if_pos (by omega)]; rfl
  · rw [if_neg h, if_neg (by omega)]; rfl⟩
theorem back5 (T : Array Nat) (pc pos hd q : Nat) (c : Int) :
    To T 1 ⟨pc, pos, hd, [fr 5 q c], 1, some false⟩ (if c - 1 < 0 then ⟨5, q, hd, [], 0, some false⟩ else ⟨12, q - 1, q - 1, [fr 5 (q - 1) (c - 1)], 1, none⟩) := To.one fun se => ⟨se, by
  show (if c - 1 < ((0 : Nat) : Int) then _ else _) = _
  by_cases h : c - 1 < 0
  · rw [if_pos h, if_pos (by omega)]; rfl
  · rw [if_neg h, if_neg (by omega)]; rfl⟩
theorem up (T : Array Nat) (pc pos hd pc' q : Nat) (c : Int) (fs : List PySem.Sre.Frame) (w : Nat) :
    To T 1 ⟨pc, pos, hd, fr pc' q c :: fs, w, some true⟩ ⟨pc', q, hd, fs, w - 1, some true⟩ := To.one fun se => ⟨se, rfl⟩

-- the whole run
def Done (T : Array Nat) (N : Nat) (x : MS) (b : Bool) : Prop := ∃ n, n ≤ N ∧ ∃ y : MS, To T n x y ∧ y.frames = [] ∧ y.answer = some b ∧ (b = true → y.handed = T.size)
theorem Done.step {T : Array Nat} {a N : Nat} {x y : MS} {b : Bool} (h : To T a x y) (g : Done T N y b) : Done T (a + N) x b := by
  obtain ⟨n, hn, z, h1, h2⟩ := g
  exact ⟨a + n, by omega, z, h.trans h1, h2⟩
theorem Done.here {T : Array Nat} {pc q hd : Nat} {b : Bool} {w : Nat} (hb : b = true → hd = T.size) : Done T 0 ⟨pc, q, hd, [], w, some b⟩ b :=
  ⟨0, Nat.le_refl _, _, fun se => ⟨se, fun k => by rw [Nat.zero_add]⟩, rfl, rfl, hb⟩
theorem Done.mono {T : Array Nat} {N N' : Nat} {x : MS} {b : Bool} (g : Done T N x b) (h : N ≤ N') : Done T N' x b := by
  obtain ⟨n, hn, r⟩ := g
  exact ⟨n, Nat.le_trans hn h, r⟩
-- digits given back one by one: none of them ends at the text's end
theorem give12 (T : Array Nat) (fs : List PySem.Sre.Frame) : ∀ (k q : Nat), k < q → q - k = q - k → q < T.size →
    ∃ n pos hd, n ≤ 2 * k + 2 ∧ To T n ⟨23, q, q, fr 12 q ((k + 1 : Nat) : Int) :: fs, 2, none⟩ ⟨12, pos, hd, fs, 1, some false⟩
  | 0, q, _, _, hq => by
    have a := at23_no T q q (fr 12 q ((0 + 1 : Nat) : Int) :: fs) 2 (by omega)
    have b := back12 T 23 q q q ((0 + 1 : Nat) : Int) fs
    rw [if_pos (by omega)] at b
    exact ⟨2, _, _, by omega, a.trans b⟩
  | k + 1, q, hk, _, hq => by
    have a := at23_no T q q (fr 12 q ((k + 1 + 1 : Nat) : Int) :: fs) 2 (by omega)
    have b := back12 T 23 q q q ((k + 1 + 1 : Nat) : Int) fs
    rw [if_neg (by omega)] at b
    have e : ((k + 1 + 1 : Nat) : Int) - 1 = ((k + 1 : Nat) : Int) := by omega
    rw [e] at b
    obtain ⟨n, pos, hd, hn, c⟩ := give12 T fs k (q - 1) (by omega) rfl (by omega)
    exact ⟨1 + 1 + n, pos, hd, by omega, (a.trans b).trans c⟩
-- from pc 12 at p: the whole rest is digits, and there is one, or it fails
theorem run12 (T : Array Nat) (p hd : Nat) (fs : List PySem.Sre.Frame) (hp : p ≤ T.size) (hT : T.size ≤ 4294967295) :
    (0 < T.size - p ∧ digs T p (T.size - p) = T.size - p ∧ To T 2 ⟨12, p, hd, fs, 1, none⟩ ⟨23, T.size, T.size, fr 12 T.size ((T.size - p : Nat) : Int) :: fs, 2, some true⟩) ∨
    (¬ (0 < T.size - p ∧ digs T p (T.size - p) = T.size - p) ∧ ∃ n pos hd', n ≤ 2 * T.size + 3 ∧ To T n ⟨12, p, hd, fs, 1, none⟩ ⟨12, pos, hd', fs, 1, some false⟩) := by
  have a := at12 T p hd fs hp hT
  have hle := digs_le T (T.size - p) p
  by_cases h0 : digs T p (T.size - p) = 0
  · right
    refine ⟨by omega, 1, p, hd, by omega, ?_⟩
    rw [if_pos h0] at a
    by_cases e : p = T.size
    · rw [if_pos e] at a; exact a
    · rw [if_neg e] at a; exact a
  · rw [if_neg h0] at a
    by_cases hw : digs T p (T.size - p) = T.size - p
    · left
      refine ⟨by omega, hw, ?_⟩
      rw [hw] at a
      have e : p + (T.size - p) = T.size := by omega
      rw [e] at a
      exact a.trans (at23_yes T _ _ _)
    · right
      refine ⟨fun h => hw h.2, ?_⟩
      obtain ⟨k, hk⟩ : ∃ k, digs T p (T.size - p) = k + 1 := ⟨digs T p (T.size - p) - 1, by omega⟩
      rw [hk] at a
      obtain ⟨n, pos, hd', hn, c⟩ := give12 T fs k (p + (k + 1)) (by omega) rfl (by omega)
      exact ⟨1 + n, pos, hd', by omega, a.trans c⟩

/-- the text is an optional minus and one digit or more -/
def plainT (T : Array Nat) : Bool := decide (0 < T.size - n1 T ∧ digs T (n1 T) (T.size - n1 T) = T.size - n1 T)

theorem n1_le (T : Array Nat) (h : 0 < T.size) : n1 T ≤ T.size := by
  unfold n1
  by_cases e : T.getD 0 0 = 45
  · rw [if_pos e]; exact h
  · rw [if_neg e]; exact Nat.zero_le _

theorem whole (T : Array Nat) (hT : T.size ≤ 4294967295) (h : 0 < T.size) : Done T (4 * T.size + 20) ⟨5, 0, 0, [], 0, none⟩ (plainT T) := by
  have a := at5 T h
  unfold plainT
  rcases run12 T (n1 T) (n1 T) [fr 5 (n1 T) ((n1 T : Nat) : Int)] (n1_le T h) hT with ⟨h1, h2, c⟩ | ⟨h1, n, pos, hd', hn, c⟩
  · rw [decide_eq_true ⟨h1, h2⟩]
    refine Done.mono (Done.step ((a.trans c).trans ((up T 23 T.size T.size 12 T.size _ _ 2).trans (up T 12 T.size T.size 5 _ _ _ 1))) (Done.here fun _ => rfl)) (by omega)
  · rw [decide_eq_false h1]
    have b := back5 T 12 pos hd' (n1 T) ((n1 T : Nat) : Int)
    by_cases e : T.getD 0 0 = 45
    · have e1 : n1 T = 1 := if_pos e
      rw [e1] at a b c
      rw [if_neg (by decide)] at b
      have b' : To T 1 ⟨12, pos, hd', [fr 5 1 ((1 : Nat) : Int)], 1, some false⟩ ⟨12, 0, 0, [fr 5 0 ((0 : Nat) : Int)], 1, none⟩ := b
      have hz : digs T 0 (T.size - 0) = 0 := by
        obtain ⟨k, hk⟩ : ∃ k, T.size - 0 = k + 1 := ⟨T.size - 1, by omega⟩
        rw [hk]
        unfold digs
        rw [if_neg (by rw [e]; omega)]
      rcases run12 T 0 0 [fr 5 0 ((0 : Nat) : Int)] (Nat.zero_le _) hT with ⟨g1, g2, _⟩ | ⟨_, n', pos', hd'', hn', c'⟩
      · rw [hz] at g2; omega
      · have b2 := back5 T 12 pos' hd'' 0 ((0 : Nat) : Int)
        rw [if_pos (by decide)] at b2
        exact Done.mono (Done.step (((a.trans c).trans b').trans (c'.trans b2)) (Done.here fun h => Bool.noConfusion h)) (by omega)
    · have e1 : n1 T = 0 := if_neg e
      rw [e1] at a b c
      rw [if_pos (by decide)] at b
      exact Done.mono (Done.step ((a.trans c).trans b) (Done.here fun h => Bool.noConfusion h)) (by omega)

/-- what the machine comes to -/
theorem machine (T : Array Nat) (hT : T.size ≤ 4294967295) : ∃ n, n ≤ 4 * T.size + 21 ∧
    (PySem.Sre.M.runFor n (PySem.Sre.forMatch reC T 0 0 T.size true false)).outcome = some (if plainT T then .matched else .failed) ∧
    (plainT T = true → (PySem.Sre.M.runFor n (PySem.Sre.forMatch reC T 0 0 T.size true false)).lastmark = -1 ∧ (PySem.Sre.M.runFor n (PySem.Sre.forMatch reC T 0 0 T.size true false)).marks = #[] ∧ (PySem.Sre.M.runFor n (PySem.Sre.forMatch reC T 0 0 T.size true false)).lastindex = -1) := by
  rw [start_eq T]
  have key : ∃ x : MS, (if 0 < T.size then mk T ⟨5, 0, 0, [], 0, none⟩ (({} : PySem.Sre.Seen).add 14) none else mk T ⟨5, 0, 0, [], 0, some false⟩ (({} : PySem.Sre.Seen).add 14) none) = mk T x (({} : PySem.Sre.Seen).add 14) none ∧ Done T (4 * T.size + 20) x (plainT T) := by
    by_cases h : 0 < T.size
    · exact ⟨_, if_pos h, whole T hT h⟩
    · refine ⟨_, if_neg h, ?_⟩
      have e : plainT T = false := decide_eq_false fun z => by have := z.1; omega
      rw [e]
      exact Done.mono (Done.here fun h => Bool.noConfusion h) (by omega)
  obtain ⟨x, hx, n, hn, y, hto, hf, ha, _⟩ := key
  rw [hx]
  obtain ⟨se', hs⟩ := hto (({} : PySem.Sre.Seen).add 14)
  obtain ⟨pc, pos, hd, frs, w, an⟩ := y
  dsimp only at hf ha
  subst hf; subst ha
  have e : PySem.Sre.M.runFor (n + 1) (mk T x (({} : PySem.Sre.Seen).add 14) none) = mk T ⟨pc, pos, hd, [], w, some (plainT T)⟩ se' (some (if plainT T then .matched else .failed)) := by
    rw [hs 1]; rfl
  exact ⟨n + 1, by omega, by rw [e]; rfl, fun _ => by rw [e]; exact ⟨rfl, rfl, rfl⟩⟩
end PartRe2
end Mine

namespace Mine
section PartRe3
open PySem.Builtin.Re

theorem runFor_add (a : Nat) : ∀ (b : Nat) (m : Sre.M), Sre.M.runFor (a + b) m = Sre.M.runFor b (Sre.M.runFor a m) := by
  induction a with
  | zero => intro b m; rw [Nat.zero_add]; rfl
  | succ a ih =>
    intro b m
    rw [show a + 1 + b = (a + b) + 1 by omega]
    show (if m.outcome.isSome = true then m else Sre.M.runFor (a + b) m.step) = Sre.M.runFor b (if m.outcome.isSome = true then m else Sre.M.runFor a m.step)
    by_cases h : m.outcome.isSome = true
    · rw [if_pos h, if_pos h]
      cases b with
      | zero => rfl
      | succ b => show m = (if m.outcome.isSome = true then m else _); rw [if_pos h]
    · rw [if_neg h, if_neg h]; exact ih b m.step
theorem runFor_done (b : Nat) (m : Sre.M) (h : m.outcome.isSome = true) : Sre.M.runFor b m = m := by
  cases b with
  | zero => rfl
  | succ b => show (if m.outcome.isSome = true then m else _) = _; rw [if_pos h]

section
variable {M : Model} {A : Around} {E : Value → Shared → Prop} {s : Shared}
theorem wp_drive : ∀ (turns n : Nat) (m : Sre.M) (Q : Sre.M → Shared → Prop), (Sre.M.runFor n m).outcome.isSome = true → n ≤ 4 * turns → 0 < turns → Q (Sre.M.runFor n m) s → wpAny M A (reDrive turns m) Q E s
  | 0, _, _, _, _, _, h0, _ => absurd h0 (Nat.lt_irrefl _)
  | t + 1, n, m, Q, hd, hn, _, hq => by
    unfold reDrive
    show wpAny M A (if (Sre.M.runFor 4 m).outcome.isSome = true then pure (Sre.M.runFor 4 m) else do rule "sre.turn"; reDrive t (Sre.M.runFor 4 m)) Q E s
    by_cases h4 : (Sre.M.runFor 4 m).outcome.isSome = true
    · rw [if_pos h4]
      have e : Sre.M.runFor n m = Sre.M.runFor 4 m := by
        by_cases hl : n ≤ 4
        · obtain ⟨k, hk⟩ : ∃ k, 4 = n + k := ⟨4 - n, by omega⟩
          rw [hk, runFor_add, runFor_done _ _ hd]
        · obtain ⟨k, rfl⟩ : ∃ k, n = 4 + k := ⟨n - 4, by omega⟩
          rw [runFor_add, runFor_done _ _ h4]
      rw [e] at hq
      exact wpAny_pure hq
    · rw [if_neg h4]
      have hl : 4 < n := by
        rcases Nat.lt_or_ge 4 n with h | h
        · exact h
        · exfalso
          obtain ⟨k, hk⟩ : ∃ k, 4 = n + k := ⟨4 - n, by omega⟩
          apply h4
          rw [hk, runFor_add, runFor_done _ _ hd]; exact hd
      obtain ⟨k, rfl⟩ : ∃ k, n = 4 + k := ⟨n - 4, by omega⟩
      rw [runFor_add] at hd hq
      exact wpAny_bind (wpAny_rule (wp_drive t k _ Q hd (by omega) (by omega) hq))

theorem wp_rules {α : Type} (c : α → Bool) (tg : α → String) (l : List α) {Q : PUnit → Shared → Prop} (h : Q ⟨⟩ s) :
    wpAny M A (forIn l PUnit.unit fun i _ => do
      if c i then rule (tg i)
      pure (ForInStep.yield PUnit.unit)) Q E s := by
  refine wpAny_forIn_list _ (fun _ _ s' => Q ⟨⟩ s') _ (fun x rest b s hI => ?_) (fun b s hI => hI) l _ h
  dsimp only
  cases hc : c x with
  | true => rw [if_pos rfl]; exact wpAny_bind (wpAny_rule (wpAny_pure hI))
  | false => rw [if_neg Bool.false_ne_true]; exact wpAny_pure hI

theorem wp_toEnd (T : Array Nat) (hT : T.size ≤ 16777216) {Q : Option Sre.M → Shared → Prop}
    (hn : plainT T = false → Q none s) (hy : plainT T = true → ∀ m : Sre.M, m.lastmark = -1 → m.marks = #[] → Q (some m) s) :
    wpAny M A (reRunToEnd (Sre.forMatch reC T 0 0 T.size true false)) Q E s := by
  obtain ⟨n, hn1, hn2, hn3⟩ := machine T (by omega)
  have hb : n ≤ 4 * 2 ^ 64 := Nat.le_trans hn1 (Nat.le_trans (show 4 * T.size + 21 ≤ 4 * 16777216 + 21 by omega) (by decide))
  unfold reRunToEnd
  refine wpAny_bind (wp_drive _ n _ _ (by rw [hn2]; rfl) hb (by decide) ?_)
  refine wpAny_bind (wp_rules _ _ _ ?_)
  rw [hn2]
  cases hp : plainT T with
  | true => exact wpAny_pure (hy hp _ (hn3 hp).1 (hn3 hp).2.1)
  | false => exact wpAny_pure (hn hp)
end

/-- the pattern object of the text, and its words -/
structure IsPat (h : Heap) (a c : Addr) : Prop where
  pat : ∃ o fs, h.get? a = some o ∧ o.cls = .type "re.Pattern" ∧ o.dict = none ∧ o.data = .fields fs ∧ reRawNat (fs.getD 6 .none) = 0 ∧ reRawNat (fs.getD 2 .none) = 0 ∧ fs.getD 5 .none = .ref c
  words : ∃ o items n, h.get? c = some o ∧ o.data = .seq items n ∧ (items.map reRawOf).map (·.toNat) = reC

section
variable {prog : Program} {w : World} {A : Around} {E : Value → Shared → Prop} {s : Shared} {a c : Addr} {x : Str} {t : Tok}

theorem wp_target (P : IsPat s.heap a c) (hx : x.length ≤ 16777216) {Q : ReTarget → Shared → Prop}
    (h : Q { pattern := .ref a, string := .str x t, code := reC, text := x.cps, kind := 0, groups := 0, pos := 0, lim := x.cps.size } s) :
    wpAny (model prog w) A (reTarget "re.Pattern.fullmatch" "fullmatch" ⟨[.ref a, .str x t], []⟩) Q E s := by
  obtain ⟨⟨o, fs, h1, h2, h3, h4, h5, h6, h7⟩, oc, items, n, g1, g2, g3⟩ := P
  unfold reTarget
  refine wpAny_bind (wpAny_of_eq (a := [some (.str x t), none, none]) ?_ ?_)
  · rfl
  refine wpAny_bind (wpAny_pure ?_)
  refine wpAny_bind (wpAny_pure ?_)
  refine wpAny_bind (wpAny_fieldsOf h1 h4 ?_)
  refine wpAny_bind (m := reTextOf (.str x t)) (wpAny_of_eq (a := (x.cps, 0)) rfl ?_)
  dsimp only
  rw [h5, h6, h7]
  rw [if_neg (by decide), if_neg (by decide)]
  refine wpAny_bind (wpAny_of_eq (a := ()) rfl ?_)
  refine wpAny_bind (m := reRawItems (.ref c)) ?_
  unfold reRawItems
  refine wpAny_bind (wpAny_seqItems g1 g2 (wpAny_pure (wpAny_pure ?_)))
  have e0 : Array.map (fun x => x.toNat) (Array.map reRawOf ((some items).getD #[])) = reC := g3
  have e1 : min (Int.toNat 0) x.cps.size = 0 := Nat.min_eq_left (Nat.zero_le _)
  have e2 : min (2 ^ 63 - 1 : Int).toNat x.cps.size = x.cps.size := Nat.min_eq_right (Nat.le_trans hx (by decide))
  rw [e0, e1, e2]
  exact h

theorem wp_answer (P : IsPat s.heap a c) {h₀ : Heap} {L : Addr} {m : Str → Option Value} {news : List (Addr × Obj)} (F : Fr h₀ L s.heap m) (N : News h₀ L s.heap news) (hx : x.length ≤ 16777216)
    {Q : Value → Shared → Prop} (hn : plainT x.cps = false → Q .none s)
    (hy : plainT x.cps = true → ∀ D h', Fr h₀ L h' m → News h₀ L h' news → Q (.ref D) { s with heap := h' }) :
    wpAny (model prog w) A (call (.builtin "re.Pattern.fullmatch") [.ref a, .str x t]) Q E s := by
  obtain ⟨o, fs, h1, h2, h3, h4, _⟩ := P.pat
  refine wpAny_call_entry slot_full ⟨o, h1, h2⟩ entry_full ?_ (args_full _ _)
  unfold PySem.Builtin.«re.Pattern.fullmatch»
  refine wpAny_bind (wp_target P hx ?_)
  unfold reAnswer
  refine wpAny_bind (wp_toEnd x.cps hx (fun hp => ?_) fun hp M h5 h6 => ?_)
  · exact wpAny_pure ⟨_, rfl, hn hp⟩
  · refine wpAny_bind ?_
    unfold reNewMatch
    dsimp only [List.range, List.range.loop, List.flatMap_nil, List.any_nil]
    refine wpAny_ite_false rfl ?_
    rw [List.flatMap_nil]
    refine wpAny_bind (newTuple_N F N (fun h' F' N' => ?_) (by show (2 : Nat) ≤ sizeLine; decide))
    refine wpAny_newObj_type (wpAny_pure ⟨_, rfl, hy hp _ _ (F'.push _) fun q hq => (N'.push F' _ rfl) q (List.mem_cons_of_mem _ (List.mem_cons_of_mem _ hq))⟩) (by show (6 : Nat) ≤ sizeLine + 2; decide)
end
end PartRe3
end Mine

namespace Mine
section PartRe4
open PySem.NumText

def isDig (c : Nat) : Bool := decide (48 ≤ c ∧ c ≤ 57)
/-- an optional minus and one digit or more: its number -/
def plainL : List Nat → Option Int
  | [] => none
  | c :: cs => if c = 45 then (if cs ≠ [] ∧ cs.all isDig = true then some (-((digitsVal cs : Nat) : Int)) else none)
    else (if (c :: cs).all isDig = true then some ((digitsVal (c :: cs) : Nat) : Int) else none)

theorem plainL_cons (c : Nat) (cs : List Nat) : plainL (c :: cs) = if c = 45 then (if cs ≠ [] ∧ cs.all isDig = true then some (-((digitsVal cs : Nat) : Int)) else none)
    else (if (c :: cs).all isDig = true then some ((digitsVal (c :: cs) : Nat) : Int) else none) := rfl
theorem allDig_iff (l : List Nat) : l.all isDig = true ↔ AllDigits l := by
  simp [AllDigits, List.all_eq_true, isDig]

theorem digs_all (T : Array Nat) : ∀ n p, p + n = T.size → (digs T p n = n ↔ (T.toList.drop p).all isDig = true)
  | 0, p, h => by
    rw [List.drop_of_length_le (by rw [Array.length_toList]; omega)]
    simp [digs]
  | n + 1, p, h => by
    have hp : p < T.toList.length := by rw [Array.length_toList]; omega
    rw [List.drop_eq_getElem_cons hp, List.all_cons]
    have e : T.getD p 0 = T.toList[p] := by
      rw [Array.getElem_toList]
      unfold Array.getD
      rw [dif_pos (by rw [Array.length_toList] at hp; exact hp)]
      rfl
    have ih := digs_all T n (p + 1) (by omega)
    have hle := digs_le T n (p + 1)
    unfold digs
    rw [e]
    by_cases hd : 48 ≤ T.toList[p] ∧ T.toList[p] ≤ 57
    · rw [if_pos hd, show isDig T.toList[p] = true from decide_eq_true hd, Bool.true_and, ← ih]
      omega
    · rw [if_neg hd, show isDig T.toList[p] = false from decide_eq_false hd, Bool.false_and]
      simp

theorem plainT_eq (x : Str) : plainT x.cps = (plainL x.cps.toList).isSome := by
  obtain ⟨T⟩ := x
  dsimp only
  unfold plainT
  cases hl : T.toList with
  | nil =>
    have : T.size = 0 := by rw [← Array.length_toList, hl]; rfl
    rw [this]
    simp [plainL]
  | cons c cs =>
    have hs : T.size = cs.length + 1 := by rw [← Array.length_toList, hl]; rfl
    have hc : T.getD 0 0 = c := by
      unfold Array.getD
      rw [dif_pos (by omega)]
      show T[0] = c
      rw [← Array.getElem_toList]
      simp [hl]
    unfold n1
    rw [hc, plainL_cons]
    by_cases h : c = 45
    · rw [if_pos h, if_pos h]
      have d := digs_all T (T.size - 1) 1 (by omega)
      rw [hl, List.drop_succ_cons, List.drop_zero] at d
      by_cases hq : cs ≠ [] ∧ cs.all isDig = true
      · rw [if_pos hq]
        have : cs.length ≠ 0 := fun e => hq.1 (List.eq_nil_of_length_eq_zero e)
        exact decide_eq_true ⟨by omega, d.mpr hq.2⟩
      · rw [if_neg hq]
        refine decide_eq_false fun z => hq ⟨fun e => ?_, d.mp z.2⟩
        rw [e] at hs
        have := z.1
        rw [hs] at this
        exact absurd this (by decide)
    · rw [if_neg h, if_neg h]
      have d := digs_all T (T.size - 0) 0 (by omega)
      rw [hl, List.drop_zero] at d
      by_cases hq : (c :: cs).all isDig = true
      · rw [if_pos hq]
        exact decide_eq_true ⟨by omega, d.mpr hq⟩
      · rw [if_neg hq]
        exact decide_eq_false fun z => hq (d.mp z.2)

theorem plainL_reads {x : Str} {n : Int} (h : plainL x.cps.toList = some n) (hx : x.length ≤ 4300) : PySem.intText? x = some n := by
  cases hl : x.cps.toList with
  | nil => rw [hl] at h; cases h
  | cons c cs =>
    rw [hl] at h
    rw [plainL_cons] at h
    by_cases hc : c = 45
    · rw [if_pos hc] at h
      by_cases hq : cs ≠ [] ∧ cs.all isDig = true
      · rw [if_pos hq] at h
        cases h
        subst hc
        exact intText_neg hl ((allDig_iff cs).mp hq.2) hq.1 hx
      · rw [if_neg hq] at h; cases h
    · rw [if_neg hc] at h
      by_cases hq : (c :: cs).all isDig = true
      · rw [if_pos hq] at h
        cases h
        have e := intText_digits (x := x) (by rw [hl]; exact (allDig_iff _).mp hq) (by rw [hl]; exact List.cons_ne_nil _ _) hx
        rw [hl] at e
        exact e
      · rw [if_neg hq] at h; cases h

theorem digitsVal_lt : ∀ (cs : List Nat) (a : Nat), AllDigits cs → cs.foldl (fun acc c => acc * 10 + (c - 48)) a < (a + 1) * 10 ^ cs.length
  | [], a, _ => by simp
  | c :: cs, a, h => by
    have hc := h.head
    have ih := digitsVal_lt cs (a * 10 + (c - 48)) h.tail
    have e : (a * 10 + (c - 48) + 1) * 10 ^ cs.length ≤ (a + 1) * 10 ^ (cs.length + 1) := by
      rw [Nat.pow_succ, Nat.mul_comm (10 ^ cs.length) 10, ← Nat.mul_assoc]
      exact Nat.mul_le_mul_right _ (by omega)
    exact Nat.lt_of_lt_of_le ih e
theorem digitsVal_lt' {cs : List Nat} (h : AllDigits cs) : digitsVal cs < 10 ^ cs.length := by
  have := digitsVal_lt cs 0 h
  rw [Nat.zero_add, Nat.one_mul] at this
  exact this
theorem plainL_bound {l : List Nat} {n : Int} (h : plainL l = some n) : n.natAbs < 10 ^ l.length := by
  cases l with
  | nil => cases h
  | cons c cs =>
    rw [plainL_cons] at h
    by_cases hc : c = 45
    · rw [if_pos hc] at h
      by_cases hq : cs ≠ [] ∧ cs.all isDig = true
      · rw [if_pos hq] at h
        cases h
        have := digitsVal_lt' ((allDig_iff cs).mp hq.2)
        rw [Int.natAbs_neg, Int.natAbs_natCast]
        exact Nat.lt_of_lt_of_le this (Nat.pow_le_pow_right (by decide) (Nat.le_succ _))
      · rw [if_neg hq] at h; cases h
    · rw [if_neg hc] at h
      by_cases hq : (c :: cs).all isDig = true
      · rw [if_pos hq] at h
        cases h
        rw [Int.natAbs_natCast]
        exact digitsVal_lt' ((allDig_iff _).mp hq)
      · rw [if_neg hq] at h; cases h
/-- what `_plain_int_re.fullmatch` and `int` say of a text without its blanks -/
def plainS (x : Str) : Option Int := plainL x.cps.toList

section
variable {prog : Program} {w : World} {A : Around} {E : Value → Shared → Prop} {s : Shared} {a c : Addr} {x : Str} {t : Tok}
theorem isPat_keeps {h h' : Heap} (P : IsPat h a c) (k : ∀ b o, h.get? b = some o → h'.get? b = some o) : IsPat h' a c := by
  obtain ⟨⟨o, fs, h1, r⟩, oc, items, n, g1, g2⟩ := P
  exact ⟨⟨o, fs, k _ _ h1, r⟩, oc, items, n, k _ _ g1, g2⟩

theorem gm_full {M : Model} {pl : Sem Bool} {Q : Value × List Value → Shared → Prop} (P : IsPat s.heap a c) (h : Q (.builtin "re.Pattern.fullmatch", [.ref a]) s) : wpAny M A (getMethod (.ref a) "fullmatch" pl) Q E s := by
  obtain ⟨o, fs, h1, h2, h3, _⟩ := P.pat
  exact getMethod_builtin ⟨o, h1, h2⟩ plainAttrs_pat slot_full type_full (fun b e => ⟨o, by cases e; exact h1, h3⟩) h

theorem call_full (P : IsPat s.heap a c) {h₀ : Heap} {L : Addr} {m : Str → Option Value} {news : List (Addr × Obj)} (F : Fr h₀ L s.heap m) (N : News h₀ L s.heap news) (hx : x.length ≤ 100)
    {Q : Value → Shared → Prop} (hn : plainS x = none → Q .none s)
    (hy : ∀ n, plainS x = some n → PySem.intText? x = some n → -(10 ^ 100) < n ∧ n < 10 ^ 100 → ∀ D h', Fr h₀ L h' m → News h₀ L h' news → Q (.ref D) { s with heap := h' }) :
    wpAny (model prog w) A (call (.builtin "re.Pattern.fullmatch") [.ref a, .str x t]) Q E s := by
  have e := plainT_eq x
  refine wp_answer P F N (Nat.le_trans hx (by decide)) (fun hp => hn ?_) fun hp D h' F' N' => ?_
  · rw [hp] at e
    exact Option.isNone_iff_eq_none.mp (by show Option.isNone (plainL x.cps.toList) = true; cases hq : plainL x.cps.toList with | none => rfl | some n => rw [hq] at e; cases e)
  · rw [hp] at e
    cases hq : plainL x.cps.toList with
    | none => rw [hq] at e; cases e
    | some n =>
      have b := plainL_bound hq
      have b2 : (10 : Nat) ^ x.cps.toList.length ≤ 10 ^ 100 := Nat.pow_le_pow_right (by decide) (by rw [Array.length_toList]; exact hx)
      have b3 : -(10 ^ 100) < n ∧ n < 10 ^ 100 := by omega
      exact hy n hq (plainL_reads hq (Nat.le_trans hx (by decide))) b3 D h' F' N'
end
end PartRe4
end Mine

namespace Mine
section PartWr
/-- a fact that the walk does not look into -/
structure Says (p : Prop) : Prop where
  out : p
theorem says_iff {p : Prop} : Says p ↔ p := ⟨fun h => h.out, fun h => ⟨h⟩⟩
/-- an int that is no longer than a hundred signs -/
structure Bnd (n : Int) : Prop where
  lo : -(10 ^ 100) < n
  hi : n < 10 ^ 100
/-- an int whose text may be made -/
structure Txb (n : Int) : Prop where
  lo : -(10 ^ 110) < n
  hi : n < 10 ^ 110
theorem Bnd.txb {n : Int} (h : Bnd n) : Txb n := ⟨by have := h.lo; omega, by have := h.hi; omega⟩
theorem Bnd.succ {n : Int} (h : Bnd n) : Txb (n + 1) := ⟨by have := h.lo; omega, by have := h.hi; omega⟩
theorem Bnd.succ_pred {n : Int} (h : Bnd n) : Txb (n + 1 - 1) := ⟨by have := h.lo; omega, by have := h.hi; omega⟩
theorem Bnd.pred {n : Int} (h : Bnd n) : Txb (n - 1) := ⟨by have := h.lo; omega, by have := h.hi; omega⟩
/-- y stands in x -/
def has (x y : Str) : Bool := !(Builtin.Str.occurrences x y 0 x.length 1).isEmpty
section
variable {prog : Program} {w : World} {A : Around} {E : Value → Shared → Prop} {s : Shared} {x y : Str} {t u : Tok} {Q : Value → Shared → Prop}
theorem le_line {n : Nat} (h : n ≤ 100) : n ≤ sizeLine := Nat.le_trans h (by decide)
theorem my_strip (hx : x.length ≤ 100) (h : ∀ z t' k, Says (Txt.stripChars x y = z) → z.length ≤ 100 → Q (.str z t') { s with toks := k }) :
    wpAny (model prog w) A (call (.builtin "str.strip") [.str x t, .str y u]) Q E s :=
  SCL.stripChars (fun t' k hl => h _ t' k ⟨rfl⟩ (Nat.le_trans hl hx)) (le_line hx)
theorem part_len (x y : Str) (hx : x.length ≤ 100) : (Txt.partition x y).1.length ≤ 100 ∧ (Txt.partition x y).2.2.length ≤ 100 := by
  obtain ⟨T⟩ := x
  unfold Txt.partition
  have hT : T.size ≤ 100 := hx
  cases Builtin.Str.occurrences ⟨T⟩ y 0 (PySem.Str.length ⟨T⟩) 1 with
  | nil => exact ⟨hx, Nat.zero_le _⟩
  | cons i r =>
    constructor
    · show (PySem.Str.length _) ≤ 100
      simp only [PySem.Str.length]
      show Array.size _ ≤ 100
      simp [Builtin.Str.strSub]
      omega
    · show (PySem.Str.length _) ≤ 100
      simp only [PySem.Str.length]
      show Array.size _ ≤ 100
      simp [Builtin.Str.strSub]
      omega
theorem my_part {h₀ : Heap} {L : Addr} {m : Str → Option Value} {news : List (Addr × Obj)} (hx : x.length ≤ 100) (hF : Fr h₀ L s.heap m) (hN : News h₀ L s.heap news) (hy : (y.length == 0) = false)
    (h : ∀ p q r, Says (Txt.partition x y = (p, q, r)) → p.length ≤ 100 → r.length ≤ 100 → ∀ D ta tb tc h' k, Fr h₀ L h' m → News h₀ L h' ((D, { cls := .type "tuple", data := .seq [.str p ta, .str q tb, .str r tc].toArray }) :: news) → (∀ a ∈ news, a.1 < D) → Q (.ref D) { s with heap := h', toks := k }) :
    wpAny (model prog w) A (call (.builtin "str.partition") [.str x t, .str y u]) Q E s :=
  partitionN hF hN hy (fun ta tb tc h' k F N => h _ _ _ ⟨rfl⟩ (part_len x y hx).1 (part_len x y hx).2 _ ta tb tc h' k F N fun a ha => Heap.lt_size (hN a ha).1) (le_line hx)
/-- the text of an int -/
def num (n : Int) : Str := Str.ofString (toString n)
theorem len_num {n : Int} (h : Txb n) : (num n).length ≤ 111 := by
  have h1 := h.lo
  have h2 := h.hi
  unfold num
  rw [PySem.ofString_length]
  exact int_text_length_le10 (k := 110) (by decide) (by omega)
theorem my_field {n : Int} {t : Tok} {Q : Value → Shared → Prop} (hb : Txb n)
    (h : ∀ t' k, (num n).length ≤ 111 → Q (.str (num n) t') { s with toks := k }) : wpAny (model prog w) A (formatField (.int n t) Str.empty) Q E s :=
  wpAny_formatField_int (shown (N := 10 ^ 110) hb.lo hb.hi (by decide +kernel)) (h _ _ (len_num hb))
theorem my_str {n : Int} {t : Tok} {Q : Value → Shared → Prop} (hb : Txb n)
    (h : ∀ t' k, (num n).length ≤ 111 → Q (.str (num n) t') { s with toks := k }) : wpAny (model prog w) A (call (.type "str") [.int n t]) Q E s :=
  P.str_of_int (shown (N := 10 ^ 110) hb.lo hb.hi (by decide +kernel)) (h _ _ (len_num hb))
theorem le_app {a b : Str} {m n : Nat} (h1 : a.length ≤ m) (h2 : b.length ≤ n) : (a ++ b).length ≤ m + n := by
  rw [Str.length_append]; omega
theorem my_full {a c : Addr} (P : IsPat s.heap a c) {h₀ : Heap} {L : Addr} {m : Str → Option Value} {news : List (Addr × Obj)} (F : Fr h₀ L s.heap m) (N : News h₀ L s.heap news) (hx : x.length ≤ 100)
    {Q : Value → Shared → Prop} (hn : Says (plainS x = none) → Q .none s)
    (hy : ∀ n, Says (plainS x = some n) → Bnd n → ∀ D h', Fr h₀ L h' m → News h₀ L h' news → Q (.ref D) { s with heap := h' }) :
    wpAny (model prog w) A (call (.builtin "re.Pattern.fullmatch") [.ref a, .str x t]) Q E s :=
  call_full P F N hx (fun h => hn ⟨h⟩) fun n h _ hb D h' F' N' => hy n ⟨h⟩ ⟨hb.1, hb.2⟩ D h' F' N'
theorem my_int {n : Int} (hx : x.length ≤ 100) (hn : Says (plainS x = some n)) (h : ∀ t' k, Q (.int n t') { s with toks := k }) : wpAny (model prog w) A (call (.type "int") [.str x t]) Q E s :=
  KIN.call_text (plainL_reads hn.out (Nat.le_trans hx (by decide))) (Nat.le_trans hx (by decide)) (h _ _)
theorem my_eq (ht : Says (x = y) → Q (.bool true) s) (hf : Says (x ≠ y) → Q (.bool false) s) : wpAny (model prog w) A (compareOp .Eq (.str x t) (.str y u)) Q E s := by
  refine PyProof.Rows.eq_str ?_
  by_cases h : x = y
  · rw [beq_iff_eq.mpr h]; exact ht ⟨h⟩
  · rw [beq_eq_false_iff_ne.mpr h]; exact hf ⟨h⟩
theorem my_ne (ht : Says (x ≠ y) → Q (.bool true) s) (hf : Says (x = y) → Q (.bool false) s) : wpAny (model prog w) A (compareOp .NotEq (.str x t) (.str y u)) Q E s := by
  refine PyProof.Rows.ne_str ?_
  by_cases h : x = y
  · rw [show (x != y) = false from by simp [h]]; exact hf ⟨h⟩
  · rw [show (x != y) = true from by simp [h]]; exact ht ⟨h⟩
theorem my_in (ht : Says (has x y = true) → Q (.bool true) s) (hf : Says (has x y = false) → Q (.bool false) s) : wpAny (model prog w) A (compareOp .In (.str y u) (.str x t)) Q E s := by
  refine in_str ?_
  show Q (.bool (has x y)) s
  cases h : has x y with
  | true => exact ht ⟨h⟩
  | false => exact hf ⟨h⟩
theorem my_notIn (ht : Says (has x y = false) → Q (.bool true) s) (hf : Says (has x y = true) → Q (.bool false) s) : wpAny (model prog w) A (compareOp .NotIn (.str y u) (.str x t)) Q E s := by
  refine notIn_str ?_
  show Q (.bool (!(has x y))) s
  cases h : has x y with
  | true => exact hf ⟨h⟩
  | false => exact ht ⟨h⟩
end
end PartWr
end Mine

namespace Mine
section PartPu
/-- `_plain_int`: its number, or none where it raises -/
def plain (x : Str) : Option Int := plainS (Txt.stripChars x (Str.ofString " \t"))
/-- what a content range holds: units, places, length -/
abbrev CRg := Str × Option (Int × Int) × Option Int
/-- `parse_content_range_header` -/
def pcrOf (u p : Str) (l : Option Int) : Option CRg :=
  if p = Str.ofString "*" then
    match l with
    | none => some (u, none, none)
    | some c => if 0 ≤ c then some (u, none, some c) else none
  else if has p (Str.ofString "-") = false then none
  else
    match plain (Txt.partition p (Str.ofString "-")).1, plain (Txt.partition p (Str.ofString "-")).2.2, l with
    | some a, some b, none => if 0 ≤ a ∧ a < b + 1 then some (u, some (a, b + 1), none) else none
    | some a, some b, some c => if a < b + 1 ∧ 0 ≤ a ∧ a < c then some (u, some (a, b + 1), some c) else none
    | _, _, _ => none
def pcr (x : Str) : Option CRg :=
  let q := Txt.partition (Txt.stripChars x (Str.ofString " \t")) (Str.ofString " ")
  if has q.2.2 (Str.ofString "/") = false then none else
  let r := Txt.partition q.2.2 (Str.ofString "/")
  if r.2.2 = Str.ofString "*" then pcrOf q.1 r.1 none
  else match plain r.2.2 with
    | none => none
    | some c => pcrOf q.1 r.1 (some c)
/-- `to_header` -/
def hdr : CRg → Str
  | (u, none, none) => Str.empty ++ u ++ Str.ofString " */" ++ Str.ofString "*"
  | (u, none, some c) => Str.empty ++ u ++ Str.ofString " */" ++ num c
  | (u, some (a, b), none) => Str.empty ++ u ++ Str.ofString " " ++ num a ++ Str.ofString "-" ++ num (b - 1) ++ Str.ofString "/" ++ Str.ofString "*"
  | (u, some (a, b), some c) => Str.empty ++ u ++ Str.ofString " " ++ num a ++ Str.ofString "-" ++ num (b - 1) ++ Str.ofString "/" ++ num c
def toldS (x : Str) : Option Str := (pcr x).map hdr
/-- a text or None -/
def TxtV (r : Option Str) (v : Value) : Prop := (r = none ∧ v = .none) ∨ ∃ y t, r = some y ∧ v = .str y t
theorem TxtV.no {r : Option Str} (h : r = none) : TxtV r .none := .inl ⟨h, rfl⟩
theorem TxtV.yes {r : Option Str} {y : Str} {t : Tok} (h : r = some y) : TxtV r (.str y t) := .inr ⟨y, t, h, rfl⟩
section
variable {prog : Program} {w : World} {A : Around} {E : Value → Shared → Prop} {s : Shared} {x : Str} {t : Tok} {Q : Bool → Shared → Prop}
theorem my_truthy1 (hx : x.length ≤ 100) (h0 : x.length ≠ 0) (h : ∀ k, Q true { s with toks := k }) : wpAny (model prog w) A (truthy (.str x t)) Q E s := by
  refine P.truthy_str (by omega) ?_
  rw [show ((x.length : Int) != 0) = true from by simp; omega]
  exact h _
theorem my_truthy2 (hx : x.length ≤ 100) (ht : Says (x.length ≠ 0) → ∀ k, Q true { s with toks := k }) (hf : Says (x.length = 0) → ∀ k, Q false { s with toks := k }) : wpAny (model prog w) A (truthy (.str x t)) Q E s := by
  by_cases h0 : x.length = 0
  · refine P.truthy_str (by omega) ?_
    rw [show ((x.length : Int) != 0) = false from by simp; omega]
    exact hf ⟨h0⟩ _
  · exact my_truthy1 hx h0 (ht ⟨h0⟩)
end
end PartPu
end Mine

namespace Mine
section PartIt
/-- a text without the sign "{" -/
structure NB (y : Str) : Prop where
  out : (y.cps.toList.all fun c => c != 123) = true
theorem NB.app {a b : Str} (ha : NB a) (hb : NB b) : NB (a ++ b) := by
  refine ⟨?_⟩
  have e : (a ++ b).cps.toList = a.cps.toList ++ b.cps.toList := by
    show (a.cps ++ b.cps).toList = _
    exact Array.toList_append
  rw [e, List.all_append, ha.out, hb.out]; rfl
theorem isList_of {h₀ h : Heap} {L l : Addr} {news : List (Addr × Obj)} {its : Array Value} {c : Nat} (N : News h₀ L h news) (hl : (l, listOf its c) ∈ news) : h.IsList l its :=
  ⟨_, N.get hl, rfl, c, rfl⟩
theorem ints_at : ∀ {vs : List Value} {ns : List Int}, IntsAre vs ns → ∀ {k : Nat}, k < vs.length → ∃ i t, vs[k]? = some (.int i t) ∧ i ∈ ns := by
  intro vs ns h
  induction h with
  | nil => intro k hk; exact absurd hk (Nat.not_lt_zero _)
  | cons i t _ ih =>
    intro k hk
    cases k with
    | zero => exact ⟨i, t, rfl, .head _⟩
    | succ k =>
      obtain ⟨j, u, e, hm⟩ := ih (Nat.lt_of_succ_lt_succ hk)
      exact ⟨j, u, e, .tail _ hm⟩
section
variable {prog : Program} {w : World} {A : Around} {E : Value → Shared → Prop} {s : Shared} {h₀ : Heap} {L l : Addr} {m : Str → Option Value} {news : List (Addr × Obj)} {its : Array Value} {c : Nat} {k : Int} {u : Tok} {value slice : PySem.Expr} {Q : Value → Shared → Prop}
theorem my_item {v : Value} (N : News h₀ L s.heap news) (hl : (l, listOf its c) ∈ news) (h0 : 0 ≤ k) (hhi : k < 2 ^ 63) (hx : its[k.toNat]? = some v) (h : Q v s)
    (hs : subscripted slice false (.ref l) (.int k u) = operate [.ref l, .int k u] (getItem (.ref l) (.int k u))) :
    wpAny (model prog w) A (subscriptTail value slice (.ref l) (.int k u)) Q E s :=
  tail_any (isList_of N hl).typeIs slot_list_getitem.lookup (wpAny_getItem_list (isList_of N hl) h0 hhi hx h) hs
/-- an item of a list of ints of which the bounds alone are known -/
theorem my_int_item {ns : List Int} {lo hi : Int} (N : News h₀ L s.heap news) (hl : (l, listOf its c) ∈ news) (hI : IntsAre its.toList ns) (h0 : 0 ≤ k) (h1 : k < its.size) (hz : its.size ≤ 1000) (hb : ∀ v ∈ ns, lo ≤ v ∧ v < hi)
    (h : ∀ i t, lo ≤ i → i < hi → Q (.int i t) s)
    (hs : subscripted slice false (.ref l) (.int k u) = operate [.ref l, .int k u] (getItem (.ref l) (.int k u))) :
    wpAny (model prog w) A (subscriptTail value slice (.ref l) (.int k u)) Q E s := by
  obtain ⟨i, t, e, hm⟩ := ints_at hI (k := k.toNat) (by rw [Array.length_toList]; omega)
  rw [Array.getElem?_toList] at e
  exact my_item N hl h0 (by omega) e (h i t (hb i hm).1 (hb i hm).2) hs
/-- a text out of a written list of texts, at a place that is not written -/
theorem my_str_item {lo hi : Nat} (N : News h₀ L s.heap news) (hl : (l, listOf its c) ∈ news) (h0 : 0 ≤ k) (h1 : k < its.size) (hz : its.size ≤ 1000) (hb : ∀ v ∈ its.toList, ∃ y t, v = .str y t ∧ lo ≤ y.length ∧ y.length ≤ hi ∧ NB y)
    (h : ∀ y t, lo ≤ y.length → y.length ≤ hi → NB y → Q (.str y t) s)
    (hs : subscripted slice false (.ref l) (.int k u) = operate [.ref l, .int k u] (getItem (.ref l) (.int k u))) :
    wpAny (model prog w) A (subscriptTail value slice (.ref l) (.int k u)) Q E s := by
  have hk : k.toNat < its.toList.length := by rw [Array.length_toList]; omega
  obtain ⟨y, t, e, b1, b2, b3⟩ := hb its.toList[k.toNat] (List.getElem_mem hk)
  have e2 : its[k.toNat]? = some (.str y t) := by rw [← Array.getElem?_toList, List.getElem?_eq_getElem hk, e]
  exact my_item N hl h0 (by omega) e2 (h y t b1 b2 b3) hs
end
theorem updF_upd {d : Addr} {o o' : Obj} {l : List (Addr × Obj)} {g : Obj → List (Addr × Obj)} (h : UpdF d o l g) : Upd d o o' l (g o') := by
  induction h with
  | head h => exact .head h
  | tail h _ ih => exact .tail h ih
theorem updF_mem {d : Addr} {o o' : Obj} {l : List (Addr × Obj)} {g : Obj → List (Addr × Obj)} (h : UpdF d o l g) {p : Addr × Obj} (hp : p ∈ l) (hd : p.1 ≠ d) : p ∈ g o' := by
  induction h with
  | head _ =>
    rcases List.mem_cons.mp hp with rfl | hp
    · exact absurd rfl hd
    · exact .tail _ hp
  | tail _ _ ih =>
    rcases List.mem_cons.mp hp with rfl | hp
    · exact .head _
    · exact .tail _ (ih hp)
theorem updF_self {d : Addr} {o o' : Obj} {l : List (Addr × Obj)} {g : Obj → List (Addr × Obj)} (h : UpdF d o l g) : (d, o') ∈ g o' := by
  induction h with
  | head _ => exact .head _
  | tail _ _ ih => exact .tail _ ih
/-- the draws' state: the numbers and the place -/
abbrev stO (nb : Addr) (k : Int) (t : Tok) : Obj := listOf #[.ref nb, .int k t] 0
theorem my_set1 {prog : Program} {w : World} {A : Around} {E : Value → Shared → Prop} {s : Shared} {h₀ : Heap} {L S nb : Addr} {m : Str → Option Value} {news : List (Addr × Obj)} {g : Obj → List (Addr × Obj)} {ob : Obj} {k k' : Int} {t t' u : Tok} {Q : Unit → Shared → Prop}
    (F : Fr h₀ L s.heap m) (N : News h₀ L s.heap news) (hU : UpdF S (stO nb k t) news g) (hnb : (nb, ob) ∈ news) (hne : nb ≠ S)
    (h : ∀ h', Fr h₀ L h' m → News h₀ L h' (g (stO nb k' t')) → (nb, ob) ∈ g (stO nb k' t') → Q () { s with heap := h' }) :
    wpAny (model prog w) A (setItem (.ref S) (.int 1 u) (.int k' t')) Q E s :=
  ki_set F N (by decide) (by decide) rfl (updF_upd hU) fun h' F' N' => h h' F' N' (updF_mem hU hnb hne)
section
variable {prog : Program} {w : World} {A : Around} {E : Value → Shared → Prop} {s : Shared} {h₀ : Heap} {L S nb : Addr} {m : Str → Option Value} {news : List (Addr × Obj)} {k : Int} {t u : Tok} {value slice : PySem.Expr} {Q : Value → Shared → Prop}
theorem my_st0 (N : News h₀ L s.heap news) (hl : (S, stO nb k t) ∈ news) (h : Q (.ref nb) s)
    (hs : subscripted slice false (.ref S) (.int 0 u) = operate [.ref S, .int 0 u] (getItem (.ref S) (.int 0 u))) : wpAny (model prog w) A (subscriptTail value slice (.ref S) (.int 0 u)) Q E s :=
  my_item N hl (by decide) (by decide) rfl h hs
theorem my_st1 (N : News h₀ L s.heap news) (hl : (S, stO nb k t) ∈ news) (h : Q (.int k t) s)
    (hs : subscripted slice false (.ref S) (.int 1 u) = operate [.ref S, .int 1 u] (getItem (.ref S) (.int 1 u))) : wpAny (model prog w) A (subscriptTail value slice (.ref S) (.int 1 u)) Q E s :=
  my_item N hl (by decide) (by decide) rfl h hs
end
theorem my_len {prog : Program} {w : World} {A : Around} {E : Value → Shared → Prop} {s : Shared} {h₀ : Heap} {L l : Addr} {news : List (Addr × Obj)} {its : Array Value} {c : Nat} {Q : Value → Shared → Prop}
    (N : News h₀ L s.heap news) (hl : (l, listOf its c) ∈ news) (hz : its.size ≤ 1000) (h : ∀ t' k, Q (.int its.size t') { s with toks := k }) : wpAny (model prog w) A (call (.builtin "len") [.ref l]) Q E s :=
  Calls.call_len_list (isList_of N hl) (by omega) (h _ _)
theorem my_fdiv {prog : Program} {w : World} {A : Around} {E : Value → Shared → Prop} {s : Shared} {a b : Int} {t u : Tok} {Q : Value → Shared → Prop}
    (ha : 0 ≤ a) (hb : 0 < b) (hb1 : b < 1000000000) (h : ∀ q t' k, 0 ≤ q → q ≤ a → Q (.int q t') { s with toks := k }) : wpAny (model prog w) A (binaryOp .FloorDiv (.int a t) (.int b u)) Q E s := by
  refine floordiv_int (by omega) (h _ _ _ ?_ ?_) (Or.inl (PyProof.noPylong_small (by omega)))
  · rw [Int.fdiv_eq_ediv_of_nonneg _ (by omega)]; exact Int.ediv_nonneg ha (by omega)
  · rw [Int.fdiv_eq_ediv_of_nonneg _ (by omega)]; exact Int.ediv_le_self _ ha
theorem my_mod {prog : Program} {w : World} {A : Around} {E : Value → Shared → Prop} {s : Shared} {a b : Int} {t u : Tok} {Q : Value → Shared → Prop}
    (hb : 0 < b) (h : ∀ r t' k, 0 ≤ r → r < b → Q (.int r t') { s with toks := k }) : wpAny (model prog w) A (binaryOp .Mod (.int a t) (.int b u)) Q E s :=
  mod_int' (by omega) (h _ _ _ (Int.fmod_nonneg_of_pos _ hb) (Int.fmod_lt_of_pos _ hb))
theorem updF_again {d : Addr} {o o' : Obj} {l : List (Addr × Obj)} {g : Obj → List (Addr × Obj)} (h : UpdF d o l g) : UpdF d o' (g o') g := by
  induction h with
  | head h => exact .head h
  | tail h _ ih => exact .tail h ih
/-- texts whose lengths are bounded -/
inductive StrsB (lo hi : Nat) : List Value → Prop
  | nil : StrsB lo hi []
  | cons {y : Str} {t : Tok} {r : List Value} : lo ≤ y.length → y.length ≤ hi → NB y → StrsB lo hi r → StrsB lo hi (.str y t :: r)
theorem StrsB.all {lo hi : Nat} {l : List Value} (h : StrsB lo hi l) : ∀ v ∈ l, ∃ y t, v = .str y t ∧ lo ≤ y.length ∧ y.length ≤ hi ∧ NB y := by
  induction h with
  | nil => exact fun _ h => nomatch h
  | cons a b c _ ih =>
    intro v hv
    rcases List.mem_cons.mp hv with rfl | hv
    · exact ⟨_, _, rfl, a, b, c⟩
    · exact ih v hv
section
variable {prog : Program} {w : World} {A : Around} {E : Value → Shared → Prop} {s : Shared} {h₀ : Heap} {L : Addr} {m : Str → Option Value} {news : List (Addr × Obj)} {Q : Value → Shared → Prop}
theorem my_strn {n : Int} {t : Tok} (h1 : -10 < n) (h2 : n < 100) (h : ∀ z t' k, 1 ≤ z.length → z.length ≤ 3 → NB z → Q (.str z t') { s with toks := k }) : wpAny (model prog w) A (call (.type "str") [.int n t]) Q E s := by
  refine my_str ⟨by omega, by omega⟩ fun t' k _ => h _ t' k ?_ ?_ ?_
  · have e : ∀ n : Int, -10 < n → n < 100 → 1 ≤ (num n).length := by
      intro n h1 h2
      have k : ∀ i : Fin 109, 1 ≤ (num ((i.val : Int) - 9)).length := by decide +kernel
      have q := k ⟨(n + 9).toNat, by omega⟩
      have e2 : (((n + 9).toNat : Nat) : Int) - 9 = n := by omega
      rw [e2] at q
      exact q
    exact e n h1 h2
  · unfold num
    rw [PySem.ofString_length]
    exact int_text_length_le10 (k := 2) (by decide) (by omega)
  · refine ⟨?_⟩
    have k : ∀ i : Fin 109, ((num ((i.val : Int) - 9)).cps.toList.all fun c => c != 123) = true := by decide +kernel
    have q := k ⟨(n + 9).toNat, by omega⟩
    have e2 : (((n + 9).toNat : Nat) : Int) - 9 = n := by omega
    rw [e2] at q
    exact q
theorem my_addB {a b : Str} {ta tb : Tok} {ua ub : Nat} (ha : a.length ≤ ua) (hb : b.length ≤ ub) (hs : ua + ub ≤ 1000) (na : NB a) (nb : NB b) (h : ∀ z t' k, a.length ≤ z.length → b.length ≤ z.length → z.length ≤ ua + ub → NB z → Q (.str z t') { s with toks := k }) :
    wpAny (model prog w) A (binaryOp .Add (.str a ta) (.str b tb)) Q E s :=
  KXadd.add (Nat.le_refl _) (Nat.le_refl _) (by omega) fun t' k hl => h _ t' k (by omega) (by omega) (by omega) (na.app nb)
theorem my_newlist {S : Addr} {o : Obj} {vs : List Value} (F : Fr h₀ L s.heap m) (N : News h₀ L s.heap news) (hS : (S, o) ∈ news) (hz : vs.length ≤ 1000)
    (h : ∀ D h', S < D → Fr h₀ L h' m → News h₀ L h' ((D, listOf vs.toArray 0) :: news) → Q (.ref D) { s with heap := h' }) : wpAny (model prog w) A (newList vs) Q E s :=
  newList_N F N (fun h' F' N' => h _ h' (Heap.lt_size (N.get hS)) F' N') (by show vs.length ≤ sizeLine; rw [PySem.sizeLine_eq]; omega)
end
/-- ints whose bounds are known -/
inductive IntsB (lo hi : Int) : List Value → Prop
  | nil : IntsB lo hi []
  | cons {y : Int} {t : Tok} {r : List Value} : lo ≤ y → y < hi → IntsB lo hi r → IntsB lo hi (.int y t :: r)
theorem IntsB.all {lo hi : Int} {l : List Value} (h : IntsB lo hi l) : ∀ v ∈ l, ∃ y t, v = .int y t ∧ lo ≤ y ∧ y < hi := by
  induction h with
  | nil => exact fun _ h => nomatch h
  | cons a b _ ih =>
    intro v hv
    rcases List.mem_cons.mp hv with rfl | hv
    · exact ⟨_, _, rfl, a, b⟩
    · exact ih v hv
theorem my_int_menu {prog : Program} {w : World} {A : Around} {E : Value → Shared → Prop} {s : Shared} {h₀ : Heap} {L l : Addr} {news : List (Addr × Obj)} {its : Array Value} {c : Nat} {k : Int} {u : Tok} {value slice : PySem.Expr} {Q : Value → Shared → Prop} {lo hi : Int}
    (N : News h₀ L s.heap news) (hl : (l, listOf its c) ∈ news) (h0 : 0 ≤ k) (h1 : k < its.size) (hz : its.size ≤ 1000) (hb : IntsB lo hi its.toList)
    (h : ∀ y t, lo ≤ y → y < hi → Q (.int y t) s)
    (hs : subscripted slice false (.ref l) (.int k u) = operate [.ref l, .int k u] (getItem (.ref l) (.int k u))) :
    wpAny (model prog w) A (subscriptTail value slice (.ref l) (.int k u)) Q E s := by
  have hk : k.toNat < its.toList.length := by rw [Array.length_toList]; omega
  obtain ⟨y, t, e, b1, b2⟩ := hb.all its.toList[k.toNat] (List.getElem_mem hk)
  have e2 : its[k.toNat]? = some (.int y t) := by rw [← Array.getElem?_toList, List.getElem?_eq_getElem hk, e]
  exact my_item N hl h0 (by omega) e2 (h y t b1 b2) hs
end PartIt
end Mine

namespace Mine
section PartNu
open PySem.NumText
def dstr : Str := Str.ofString "0123456789"
/-- the test of the comprehension -/
abbrev notDig (a : Str) : Bool := !!(Builtin.Str.occurrences (Str.ofString "0123456789") a 0 (Str.ofString "0123456789").length 1).isEmpty
theorem mem_digits (c : Nat) : c ∈ (Str.ofString "0123456789").cps.toList ↔ isDig c = true := by
  have e : (Str.ofString "0123456789").cps.toList = [48, 49, 50, 51, 52, 53, 54, 55, 56, 57] := by decide +kernel
  rw [e]
  simp only [isDig, decide_eq_true_eq, List.mem_cons, List.not_mem_nil, or_false]
  omega
theorem notDig_one (c : Nat) : notDig ⟨#[c]⟩ = !isDig c := by
  have e := StrLaws.found_one (Str.ofString "0123456789") c
  show (!!_) = _
  rw [e]
  by_cases h : isDig c = true
  · rw [decide_eq_true ((mem_digits c).mpr h), h]
  · rw [decide_eq_false (fun q => h ((mem_digits c).mp q)), Bool.eq_false_iff.mpr h]
theorem find_digit {n : Nat} (h : isDig n = true) : ∃ r, PySem.Builtin.Str.occurrences (Str.ofString "0123456789") ⟨#[n]⟩ 0 (Str.ofString "0123456789").length 1 = (n - 48) :: r := by
  have h' : 48 ≤ n ∧ n ≤ 57 := of_decide_eq_true h
  have k : ∀ i : Fin 10, (PySem.Builtin.Str.occurrences (Str.ofString "0123456789") ⟨#[i.val + 48]⟩ 0 (Str.ofString "0123456789").length 1) = [i.val] := by decide +kernel
  have q := k ⟨n - 48, by omega⟩
  have e : n - 48 + 48 = n := by omega
  dsimp only at q
  rw [e] at q
  exact ⟨[], q⟩
theorem flt_nil {x : Str} (h : (signs x).filter notDig = []) : x.cps.toList.all isDig = true := by
  rw [List.all_eq_true]
  intro c hc
  have q := List.filter_eq_nil_iff.mp h ⟨#[c]⟩ (by unfold signs; exact List.mem_map.mpr ⟨c, hc, rfl⟩)
  rw [notDig_one] at q
  simpa using q
theorem flt_ne {x : Str} (h : (signs x).filter notDig ≠ []) : ¬ x.cps.toList.all isDig = true := by
  intro hq
  apply h
  rw [List.filter_eq_nil_iff]
  intro a ha
  unfold signs at ha
  obtain ⟨c, hc, rfl⟩ := List.mem_map.mp ha
  rw [notDig_one, List.all_eq_true.mp hq c hc]
  decide
theorem my_index {prog : Program} {w : World} {A : Around} {E : Value → Shared → Prop} {s : Shared} {n : Nat} {t u : Tok} {Q : Value → Shared → Prop} (h : isDig n = true)
    (hq : ∀ t' k, Q (.int ((n - 48 : Nat) : Int) t') { s with toks := k }) : wpAny (model prog w) A (call (.builtin "str.index") [.str (Str.ofString "0123456789") t, .str ⟨#[n]⟩ u]) Q E s := by
  obtain ⟨r, e⟩ := find_digit h
  exact SC.index e (hq _ _)
section
variable {prog : Program} {w : World} {A : Around} {E : Value → Shared → Prop} {s : Shared}
theorem carried_len : ∀ {ys : List Value} {ds : List PyData}, CarriedAll ys ds → ys.length = ds.length
  | _, _, .nil => rfl
  | _, _, .cons _ h => congrArg (· + 1) (carried_len h)
theorem my_truthy_list {l : Addr} {ys : List Value} {fs : List Str} {Q : Bool → Shared → Prop} (hl : s.heap.IsList l ys.toArray) (hc : CarriedAll ys (List.map PyData.str fs)) (hb : fs.length ≤ 100)
    (ht : Says (fs ≠ []) → ∀ k, Q true { s with toks := k }) (hf : Says (fs = []) → ∀ k, Q false { s with toks := k }) : wpAny (model prog w) A (truthy (.ref l)) Q E s := by
  have e := carried_len hc
  rw [List.length_map] at e
  refine wpAny_truthy_list hl (by rw [List.size_toArray]; omega) ?_
  cases fs with
  | nil =>
    have : ys = [] := List.eq_nil_of_length_eq_zero e
    subst this
    exact hf ⟨rfl⟩ _
  | cons a r =>
    cases ys with
    | nil => cases e
    | cons b q => exact ht ⟨List.cons_ne_nil _ _⟩ _
theorem flt_len (p : Str → Bool) (x : Str) (h : x.length ≤ 100) : ((signs x).filter p).length ≤ 100 := by
  refine Nat.le_trans (List.length_filter_le _ _) ?_
  unfold signs
  rw [List.length_map, Array.length_toList]
  exact h
end
theorem digit_here {y : Str} {pre post : List Int} {n : Nat} (h : Says ((signs y).filter notDig = [])) (e : KStt.codes y = pre ++ (n : Int) :: post) : isDig n = true := by
  have q := List.all_eq_true.mp (flt_nil h.out)
  have hm : (n : Int) ∈ KStt.codes y := by rw [e]; simp
  unfold KStt.codes at hm
  obtain ⟨c, hc, hcn⟩ := List.mem_map.mp hm
  have : c = n := by exact_mod_cast hcn
  subst this
  exact q c hc
end PartNu
end Mine

namespace Mine
section PartNu2
open PySem.NumText
theorem slice_one (z : Str) : (Txt.slice z (some 1) none).cps.toList = z.cps.toList.drop 1 := by
  by_cases h : 1 ≤ z.length
  · rw [slice_from_eq (b := (z.length : Int)) (by decide) (by omega) rfl]
    show ((z.cps.toList.drop 1).take ((z.length : Int) - 1).toNat) = _
    apply List.take_of_length_le
    rw [List.length_drop, Array.length_toList]
    show z.length - 1 ≤ _
    omega
  · rw [slice_beyond (by omega)]
    have e : z.cps.toList.length = 0 := by rw [Array.length_toList]; show z.length = 0; omega
    rw [List.eq_nil_of_length_eq_zero e]
    rfl
theorem slice_hd (z : Str) : (Txt.slice z none (some 1)).cps.toList = z.cps.toList.take 1 := by
  by_cases h : 1 ≤ z.length
  · have q := slice_closes_to (x := z) (j := 1) ⟨by decide, by rw [Array.length_toList]; show (1 : Int) ≤ (z.length : Int); omega⟩
    rw [beq_iff_eq.mp q]
    show ((z.cps.toList.drop 0).take 1) = _
    rw [List.drop_zero]
  · have l := Txt.slice_le z none (some 1)
    have e : (Txt.slice z none (some 1)).cps.toList.length = 0 := by rw [Array.length_toList]; show (Txt.slice z none (some 1)).length = 0; omega
    have e2 : z.cps.toList.length = 0 := by rw [Array.length_toList]; show z.length = 0; omega
    rw [List.eq_nil_of_length_eq_zero e, List.eq_nil_of_length_eq_zero e2]
    rfl
theorem str_ext {a b : Str} (h : a.cps.toList = b.cps.toList) : a = b := by
  cases a; cases b; congr; exact Array.toList_inj.mp h
theorem minus_cps : (Str.ofString "-").cps.toList = [45] := by decide +kernel
theorem empty_cps : (Str.ofString "").cps.toList = [] := by decide +kernel
theorem neg_hd {z : Str} (h : Says (Txt.slice z none (some 1) = Str.ofString "-")) : z.cps.toList = 45 :: (Txt.slice z (some 1) none).cps.toList := by
  have q := congrArg (fun y : Str => y.cps.toList) h.out
  rw [slice_hd, minus_cps] at q
  rw [slice_one]
  cases hz : z.cps.toList with
  | nil => rw [hz] at q; cases q
  | cons c cs =>
    rw [hz] at q
    have : c = 45 := by simpa using q
    rw [this]; rfl
theorem pos_hd {z : Str} (h : Says (Txt.slice z none (some 1) ≠ Str.ofString "-")) : ∀ c cs, z.cps.toList = c :: cs → c ≠ 45 := by
  intro c cs hz hc
  apply h.out
  apply str_ext
  rw [slice_hd, minus_cps, hz, hc]
  rfl
theorem neg_plain {z : Str} (h : Says (Txt.slice z none (some 1) = Str.ofString "-")) : plainS z = if (Txt.slice z (some 1) none).cps.toList ≠ [] ∧ (Txt.slice z (some 1) none).cps.toList.all isDig = true then some (-((digitsVal (Txt.slice z (some 1) none).cps.toList : Nat) : Int)) else none := by
  unfold plainS
  rw [neg_hd h, plainL_cons, if_pos rfl]
theorem pos_plain {z : Str} (h : Says (Txt.slice z none (some 1) ≠ Str.ofString "-")) : plainS z = if z.cps.toList ≠ [] ∧ z.cps.toList.all isDig = true then some ((digitsVal z.cps.toList : Nat) : Int) else none := by
  unfold plainS
  have q := pos_hd h
  cases hz : z.cps.toList with
  | nil => rfl
  | cons c cs =>
    rw [plainL_cons, if_neg (q c cs hz)]
    simp only [ne_eq, reduceCtorEq, not_false_eq_true, true_and]
theorem ne_cps {y : Str} (h : y ≠ Str.ofString "") : y.cps.toList ≠ [] := fun e => h (str_ext (e.trans empty_cps.symm))
theorem eq_cps {y : Str} (h : y = Str.ofString "") : y.cps.toList = [] := by rw [h]; exact empty_cps
theorem find_dig {c : Nat} (h : isDig c = true) : Txt.find (Str.ofString "0123456789") ⟨#[c]⟩ = ((c - 48 : Nat) : Int) := by
  obtain ⟨r, e⟩ := find_digit h
  simp [Txt.find, e]
theorem fold_dig : ∀ (l : List Nat) (a : Nat), l.all isDig = true → List.foldl (fun T b => 10 * T + Txt.find (Str.ofString "0123456789") b) (a : Int) (l.map fun n => (⟨#[n]⟩ : Str)) = ((l.foldl (fun acc c => acc * 10 + (c - 48)) a : Nat) : Int)
  | [], a, _ => rfl
  | c :: cs, a, h => by
    rw [List.all_cons, Bool.and_eq_true] at h
    rw [List.map_cons, List.foldl_cons, List.foldl_cons, find_dig h.1, ← fold_dig cs (a * 10 + (c - 48)) h.2]
    congr 1
    omega
theorem fold_signs {y : Str} (h : y.cps.toList.all isDig = true) : List.foldl (fun T b => 10 * T + Txt.find (Str.ofString "0123456789") b) 0 (signs y) = ((digitsVal y.cps.toList : Nat) : Int) := fold_dig _ 0 h
theorem plain_bnd {z : Str} {n : Int} (h : plainS z = some n) (hz : z.length ≤ 100) : Bnd n := by
  have b := plainL_bound h
  have b2 : (10 : Nat) ^ z.cps.toList.length ≤ 10 ^ 100 := Nat.pow_le_pow_right (by decide) (by rw [Array.length_toList]; exact hz)
  constructor <;> omega
section
variable {x z : Str} (hz : Says (Txt.stripChars x (Str.ofString " \t") = z)) (lz : z.length ≤ 100)
include hz
theorem n_plain : plain x = plainS z := by unfold plain; rw [hz.out]
theorem nm_n1 (h : Says (Txt.slice z none (some 1) = Str.ofString "-")) (h2 : Says (Txt.slice z (some 1) none = Str.ofString "")) : Says (plain x = none) := by
  refine ⟨?_⟩
  rw [n_plain hz, neg_plain h, if_neg (fun q => q.1 (eq_cps h2.out))]
theorem nm_n2 (h : Says (Txt.slice z none (some 1) = Str.ofString "-")) (h2 : Says ((signs (Txt.slice z (some 1) none)).filter notDig ≠ [])) : Says (plain x = none) := by
  refine ⟨?_⟩
  rw [n_plain hz, neg_plain h, if_neg (fun q => flt_ne h2.out q.2)]
theorem nm_p1 (h : Says (Txt.slice z none (some 1) ≠ Str.ofString "-")) (h2 : Says (z = Str.ofString "")) : Says (plain x = none) := by
  refine ⟨?_⟩
  rw [n_plain hz, pos_plain h, if_neg (fun q => q.1 (eq_cps h2.out))]
theorem nm_p2 (h : Says (Txt.slice z none (some 1) ≠ Str.ofString "-")) (h2 : Says ((signs z).filter notDig ≠ [])) : Says (plain x = none) := by
  refine ⟨?_⟩
  rw [n_plain hz, pos_plain h, if_neg (fun q => flt_ne h2.out q.2)]
include lz
theorem nm_n3 (h : Says (Txt.slice z none (some 1) = Str.ofString "-")) (h1 : Says (Txt.slice z (some 1) none ≠ Str.ofString "")) (h2 : Says ((signs (Txt.slice z (some 1) none)).filter notDig = [])) :
    Says (plain x = some (-List.foldl (fun T b => 10 * T + Txt.find (Str.ofString "0123456789") b) 0 (signs (Txt.slice z (some 1) none)))) ∧ Bnd (-List.foldl (fun T b => 10 * T + Txt.find (Str.ofString "0123456789") b) 0 (signs (Txt.slice z (some 1) none))) := by
  have e : plainS z = some (-List.foldl (fun T b => 10 * T + Txt.find (Str.ofString "0123456789") b) 0 (signs (Txt.slice z (some 1) none))) := by
    rw [neg_plain h, if_pos ⟨ne_cps h1.out, flt_nil h2.out⟩, fold_signs (flt_nil h2.out)]
  exact ⟨⟨(n_plain hz).trans e⟩, plain_bnd e lz⟩
theorem nm_p3 (h : Says (Txt.slice z none (some 1) ≠ Str.ofString "-")) (h1 : Says (z ≠ Str.ofString "")) (h2 : Says ((signs z).filter notDig = [])) :
    Says (plain x = some (List.foldl (fun T b => 10 * T + Txt.find (Str.ofString "0123456789") b) 0 (signs z))) ∧ Bnd (List.foldl (fun T b => 10 * T + Txt.find (Str.ofString "0123456789") b) 0 (signs z)) := by
  have e : plainS z = some (List.foldl (fun T b => 10 * T + Txt.find (Str.ofString "0123456789") b) 0 (signs z)) := by
    rw [pos_plain h, if_pos ⟨ne_cps h1.out, flt_nil h2.out⟩, fold_signs (flt_nil h2.out)]
  exact ⟨⟨(n_plain hz).trans e⟩, plain_bnd e lz⟩
end
theorem says_no {p : Prop} (h : Says p) (h2 : Says (¬ p)) : False := h2.out h.out
theorem sign_no {y a : Str} (h : Says ((signs y).filter notDig = [])) (ha : a ∈ signs y) (hn : (Builtin.Str.occurrences (Str.ofString "0123456789") a 0 (Str.ofString "0123456789").length 1).isEmpty = true) : False := by
  have q := List.filter_eq_nil_iff.mp h.out a ha
  apply q
  unfold notDig
  rw [hn]; rfl
end PartNu2
end Mine

namespace Mine
section PartRd1
open PySem.StrLaws PySem.Builtin PySem.Builtin.Str
theorem occ_skip (s sub : Str) (hi limit : Nat) : ∀ (l : List Nat) (st : Array Nat × Nat), (∀ j ∈ l, ¬ (j + sub.length ≤ hi ∧ subAt s sub j = true)) → (forIn l st (occBody s sub hi limit)).run = st
  | [], st, _ => rfl
  | a :: l, st, h => by
    rw [List.forIn_cons]
    have ha := h a (List.mem_cons_self ..)
    have e : occBody s sub hi limit a st = pure (ForInStep.yield (st.fst, st.snd)) := by
      unfold occBody
      rw [if_neg (fun q => ha ⟨q.1.2, q.2⟩)]
    rw [e]
    exact occ_skip s sub hi limit l st fun j hj => h j (List.mem_cons_of_mem _ hj)
theorem occ_app (s sub : Str) (hi limit : Nat) : ∀ (l r : List Nat) (st : Array Nat × Nat), (forIn (l ++ r) st (occBody s sub hi limit)).run = (forIn r (forIn l st (occBody s sub hi limit)).run (occBody s sub hi limit)).run
  | [], r, st => rfl
  | a :: l, r, st => by
    rw [List.cons_append, List.forIn_cons, List.forIn_cons]
    unfold occBody
    split
    · exact occ_app s sub hi limit l r _
    · exact occ_app s sub hi limit l r _
theorem occ_only {s sub : Str} {i limit : Nat} (hl : 0 < limit) (hi : i + sub.length ≤ s.length) (h0 : subAt s sub i = true) (h : ∀ j, j + sub.length ≤ s.length → subAt s sub j = true → j = i) :
    occurrences s sub 0 s.length limit = [i] := by
  rw [occ_eq]
  have e : List.range' 0 (s.length + 1 - 0) = List.range' 0 i ++ i :: List.range' (i + 1) (s.length - i) := by
    have e1 : s.length + 1 - 0 = i + (1 + (s.length - i)) := by omega
    rw [e1, ← List.range'_append_1, Nat.zero_add, Nat.add_comm 1, List.range'_succ]
  have k1 : (forIn (List.range' 0 i) ((#[] : Array Nat), 0) (occBody s sub s.length limit)).run = (#[], 0) := by
    apply occ_skip
    intro j hj q
    have := h j q.1 q.2
    have := (List.mem_range'_1.mp hj).2
    omega
  have k2 : (forIn (List.range' (i + 1) (s.length - i)) ((#[] : Array Nat).push i, i + sub.length) (occBody s sub s.length limit)).run = ((#[] : Array Nat).push i, i + sub.length) := by
    apply occ_skip
    intro j hj q
    have := h j q.1 q.2
    have := (List.mem_range'_1.mp hj).1
    omega
  have e2 : occBody s sub s.length limit i ((#[] : Array Nat), 0) = pure (ForInStep.yield ((#[] : Array Nat).push i, i + sub.length)) := by
    unfold occBody
    rw [if_pos ⟨⟨⟨by simpa using hl, Nat.zero_le _⟩, hi⟩, h0⟩]
  rw [e, occ_app, k1, List.forIn_cons, e2]
  show (forIn (List.range' (i + 1) (s.length - i)) ((#[] : Array Nat).push i, i + sub.length) (occBody s sub s.length limit)).run.fst.toList = [i]
  rw [k2]
  rfl
theorem replace_only {s sub z : Str} {i : Nat} (hsub : sub.length ≠ 0) (hi : i + sub.length ≤ s.length) (h0 : subAt s sub i = true) (h : ∀ j, j + sub.length ≤ s.length → subAt s sub j = true → j = i) :
    (Txt.replace s sub z).cps.toList = s.cps.toList.take i ++ z.cps.toList ++ s.cps.toList.drop (i + sub.length) := by
  unfold Txt.replace
  rw [occ_only (Nat.succ_pos _) hi h0 h, if_neg (by simp [hsub])]
  have e : s.cps.toList.length = s.length := Array.length_toList
  simp [partsBetween, glued, strSub, ← e]
  apply List.take_of_length_le
  rw [List.length_drop, Array.length_toList]
  exact Nat.le_refl _
end PartRd1
end Mine

namespace Mine
section PartRd2
open PySem.StrLaws PySem.Builtin PySem.Builtin.Str
/-- the first place of a sign, and the two sides of it -/
theorem find_part {x : Str} {c : Nat} (h : has x ⟨#[c]⟩ = true) : ∃ i : Nat, Txt.find x ⟨#[c]⟩ = (i : Int) ∧ i < x.length ∧ x.cps.toList[i]? = some c ∧
    (Txt.partition x ⟨#[c]⟩).1.cps.toList = x.cps.toList.take i ∧ (Txt.partition x ⟨#[c]⟩).2.2.cps.toList = x.cps.toList.drop (i + 1) := by
  rcases StrLaws.occ_head x ⟨#[c]⟩ 1 (Nat.le_refl 1) with ⟨h0, _⟩ | ⟨i, r, h0, hi, _⟩
  · unfold has at h
    rw [h0] at h
    cases h
  · have q := (subAt_one x c i).mp hi
    have hlt : i < x.length := hi.1
    refine ⟨i, ?_, hlt, q, ?_, ?_⟩
    · unfold Txt.find; rw [h0]
    · unfold Txt.partition; rw [h0]
      simp [strSub]
    · unfold Txt.partition; rw [h0]
      show (x.cps.extract (i + 1) x.length).toList = _
      rw [Array.toList_extract, List.extract_eq_take_drop]
      apply List.take_of_length_le
      rw [List.length_drop, Array.length_toList]
      exact Nat.le_refl _
end PartRd2
end Mine

namespace Mine
section PartRd3
open PySem.StrLaws PySem.Builtin PySem.Builtin.Str
theorem slice_to {x : Str} {i : Nat} (h : i ≤ x.length) : (Txt.slice x none (some (i : Int))).cps.toList = x.cps.toList.take i := by
  have q := slice_closes_to (x := x) (j := (i : Int)) ⟨Int.natCast_nonneg i, by rw [Array.length_toList]; exact_mod_cast h⟩
  rw [beq_iff_eq.mp q]
  simp
theorem slice_from {x : Str} {i : Nat} (h : i ≤ x.length) : (Txt.slice x (some (i : Int)) none).cps.toList = x.cps.toList.drop i := by
  rw [slice_from_eq (b := (x.length : Int)) (Int.natCast_nonneg i) (by exact_mod_cast h) rfl]
  show ((x.cps.toList.drop ((i : Int).toNat)).take ((x.length : Int) - i).toNat) = _
  rw [Int.toNat_natCast]
  apply List.take_of_length_le
  rw [List.length_drop, Array.length_toList]
  show x.length - i ≤ _
  omega
theorem has_one (x : Str) (c : Nat) : has x ⟨#[c]⟩ = decide (c ∈ x.cps.toList) := found_one x c
/-- what the reader cuts at a sign is what `partition` cuts -/
theorem cut_at {x : Str} {c : Nat} (h : has x ⟨#[c]⟩ = true) :
    0 ≤ Txt.find x ⟨#[c]⟩ ∧ Txt.find x ⟨#[c]⟩ < x.length ∧ Txt.slice x none (some (Txt.find x ⟨#[c]⟩)) = (Txt.partition x ⟨#[c]⟩).1 ∧ Txt.slice x (some (Txt.find x ⟨#[c]⟩ + 1)) none = (Txt.partition x ⟨#[c]⟩).2.2 ∧
    ∀ d, d ≠ c → has (Txt.slice x (some (Txt.find x ⟨#[c]⟩)) none) ⟨#[d]⟩ = has (Txt.partition x ⟨#[c]⟩).2.2 ⟨#[d]⟩ := by
  obtain ⟨i, e, hlt, hg, h1, h2⟩ := find_part h
  rw [e]
  refine ⟨Int.natCast_nonneg i, by exact_mod_cast hlt, str_ext ?_, str_ext ?_, ?_⟩
  · rw [slice_to (Nat.le_of_lt hlt), h1]
  · rw [h2, show ((i : Int) + 1) = ((i + 1 : Nat) : Int) by rfl, slice_from hlt]
  · intro d hd
    rw [has_one, has_one, slice_from (Nat.le_of_lt hlt), h2]
    have e2 : x.cps.toList.drop i = c :: x.cps.toList.drop (i + 1) := by
      obtain ⟨hl, hq⟩ := List.getElem?_eq_some_iff.mp hg
      rw [List.drop_eq_getElem_cons hl, hq]
    rw [e2]
    simp [hd]
end PartRd3
end Mine

namespace Mine
section PartRd4
open PySem.StrLaws PySem.Builtin PySem.Builtin.Str
theorem NB.sub {x y : Str} (h : NB x) (hs : ∀ c ∈ y.cps.toList, c ∈ x.cps.toList) : NB y :=
  ⟨List.all_eq_true.mpr fun c hc => List.all_eq_true.mp h.out c (hs c hc)⟩
theorem NB.strip {x y : Str} (h : NB x) : NB (Txt.stripChars x y) := by
  refine h.sub fun c hc => ?_
  unfold Txt.stripChars at hc
  rw [PyProof.Rows.stripBy_eq] at hc
  simp only [strSub, Array.toList_extract, List.extract_eq_take_drop] at hc
  exact List.mem_of_mem_drop (List.mem_of_mem_take hc)
/-- where a sign stands first -/
structure At (x y : Str) (i : Int) : Prop where
  one : ∃ c, y = ⟨#[c]⟩
  has : has x y = true
  eq : i = Txt.find x y
section
variable {prog : Program} {w : World} {A : Around} {E : Value → Shared → Prop} {s : Shared} {x y : Str} {t u : Tok} {h₀ : Heap} {L : Addr} {m : Str → Option Value} {news : List (Addr × Obj)} {value slice : PySem.Expr}
theorem one_of (hy : y.length = 1) : ∃ c, y = ⟨#[c]⟩ := by
  obtain ⟨⟨l⟩⟩ := y
  match l, hy with
  | [c], _ => exact ⟨c, rfl⟩
theorem my_stripB {Q : Value → Shared → Prop} (hx : x.length ≤ 100) (hn : NB x) (h : ∀ z t' k, Says (Txt.stripChars x y = z) → z.length ≤ 100 → NB z → Q (.str z t') { s with toks := k }) :
    wpAny (model prog w) A (call (.builtin "str.strip") [.str x t, .str y u]) Q E s :=
  SCL.stripChars (fun t' k hl => h _ t' k ⟨rfl⟩ (Nat.le_trans hl hx) hn.strip) (le_line hx)
theorem my_indexS {Q : Value → Shared → Prop} (hx : x.length ≤ 100) (hh : Says (has x y = true)) (hy : y.length = 1) (h : ∀ i t' k, Says (At x y i) → 0 ≤ i → i < 100 → Q (.int i t') { s with toks := k }) :
    wpAny (model prog w) A (call (.builtin "str.index") [.str x t, .str y u]) Q E s := by
  obtain ⟨c, rfl⟩ := one_of hy
  obtain ⟨h1, h2, _⟩ := cut_at hh.out
  cases ho : occurrences x ⟨#[c]⟩ 0 x.length 1 with
  | nil =>
    have e := hh.out
    unfold has at e
    rw [ho] at e
    cases e
  | cons i rest =>
    have e : Txt.find x ⟨#[c]⟩ = (i : Int) := by simp [Txt.find, ho]
    exact SC.index ho (h _ _ _ ⟨⟨c, rfl⟩, hh.out, e.symm⟩ (by omega) (by omega))
theorem my_cut_to {j : Int} {uj : Tok} {Q : Value → Shared → Prop} (F : Fr h₀ L s.heap m) (N : News h₀ L s.heap news) (hx : x.length ≤ 100) (hn : NB x) (hi : Says (At x y j))
    (h : ∀ p h' t' k, Fr h₀ L h' m → News h₀ L h' news → Says ((Txt.partition x y).1 = p) → p.length ≤ 100 → NB p → Q (.str p t') { s with heap := h', toks := k })
    (hs : subscripted slice false (.str x t) (.ref s.heap.objs.size) = operate [.ref s.heap.objs.size, .str x t] (getItem (.str x t) (.ref s.heap.objs.size)))
    (ht : ∀ r, letTemporaryGo value (.str x t) r = pure ()) :
    wpAny (model prog w) A (subscriptTail value slice (.str x t) (.ref s.heap.objs.size)) Q E { s with heap := s.heap.push { cls := .type "slice", data := .fields #[.none, .int j uj, .none] } } := by
  obtain ⟨⟨c, rfl⟩, hh, rfl⟩ := hi.out
  obtain ⟨_, _, e, _⟩ := cut_at hh
  obtain ⟨i, _, _, _, hp, _⟩ := find_part hh
  refine slice_strN_ns F N (fun h' t' k a b => ?_) hs ht (le_line hx)
  rw [e]
  refine h _ h' t' k a b ⟨rfl⟩ (part_len x _ hx).1 (hn.sub fun d hd => ?_)
  rw [hp] at hd
  exact List.mem_of_mem_take hd
theorem my_cut_from {j : Int} {uj : Tok} {Q : Value → Shared → Prop} (F : Fr h₀ L s.heap m) (N : News h₀ L s.heap news) (hx : x.length ≤ 100) (hn : NB x) (hi : Says (At x y j))
    (h : ∀ p h' t' k, Fr h₀ L h' m → News h₀ L h' news → Says ((Txt.partition x y).2.2 = p) → p.length ≤ 100 → NB p → Q (.str p t') { s with heap := h', toks := k })
    (hs : subscripted slice false (.str x t) (.ref s.heap.objs.size) = operate [.ref s.heap.objs.size, .str x t] (getItem (.str x t) (.ref s.heap.objs.size)))
    (ht : ∀ r, letTemporaryGo value (.str x t) r = pure ()) :
    wpAny (model prog w) A (subscriptTail value slice (.str x t) (.ref s.heap.objs.size)) Q E { s with heap := s.heap.push { cls := .type "slice", data := .fields #[.int (j + 1) uj, .none, .none] } } := by
  obtain ⟨⟨c, rfl⟩, hh, rfl⟩ := hi.out
  obtain ⟨_, _, _, e, _⟩ := cut_at hh
  obtain ⟨i, _, _, _, _, hp⟩ := find_part hh
  refine slice_strN_sn F N (fun h' t' k a b => ?_) hs ht (le_line hx)
  rw [e]
  refine h _ h' t' k a b ⟨rfl⟩ (part_len x _ hx).2 (hn.sub fun d hd => ?_)
  rw [hp] at hd
  exact List.mem_of_mem_drop hd
/-- from the sign on: it holds no other sign than what is behind -/
theorem my_cut_at {j : Int} {uj : Tok} {Q : Value → Shared → Prop} (F : Fr h₀ L s.heap m) (N : News h₀ L s.heap news) (hx : x.length ≤ 100) (hi : Says (At x y j))
    (h : ∀ p h' t' k, Fr h₀ L h' m → News h₀ L h' news → Says (∀ d, (⟨#[d]⟩ : Str) ≠ y → has p ⟨#[d]⟩ = has (Txt.partition x y).2.2 ⟨#[d]⟩) → p.length ≤ 100 → Q (.str p t') { s with heap := h', toks := k })
    (hs : subscripted slice false (.str x t) (.ref s.heap.objs.size) = operate [.ref s.heap.objs.size, .str x t] (getItem (.str x t) (.ref s.heap.objs.size)))
    (ht : ∀ r, letTemporaryGo value (.str x t) r = pure ()) :
    wpAny (model prog w) A (subscriptTail value slice (.str x t) (.ref s.heap.objs.size)) Q E { s with heap := s.heap.push { cls := .type "slice", data := .fields #[.int j uj, .none, .none] } } := by
  obtain ⟨⟨c, rfl⟩, hh, rfl⟩ := hi.out
  obtain ⟨_, _, _, _, e⟩ := cut_at hh
  refine slice_strN_sn F N (fun h' t' k a b => ?_) hs ht (le_line hx)
  exact h _ h' t' k a b ⟨fun d hd => e d fun q => hd (by rw [q])⟩ (Nat.le_trans (Txt.slice_le _ _ _) hx)
/-- a test of what stands behind the sign -/
theorem my_notInA {x' : Str} {Q : Value → Shared → Prop} (hp : Says (∀ d, (⟨#[d]⟩ : Str) ≠ y → has x ⟨#[d]⟩ = has x' ⟨#[d]⟩)) {z : Str} (hz : z.length = 1) (hzy : z ≠ y) (ht : Says (has x' z = false) → Q (.bool true) s) (hf : Says (has x' z = true) → Q (.bool false) s) :
    wpAny (model prog w) A (compareOp .NotIn (.str z u) (.str x t)) Q E s := by
  obtain ⟨c, rfl⟩ := one_of hz
  refine my_notIn (fun h => ht ⟨?_⟩) (fun h => hf ⟨?_⟩)
  · rw [← hp.out c hzy]; exact h.out
  · rw [← hp.out c hzy]; exact h.out
theorem num_pos (n : Int) : (num n).length ≠ 0 := by
  unfold num
  rw [PySem.ofString_length]
  intro h
  have := String.length_eq_zero_iff.mp h
  have e : toString n = (toString n) := rfl
  cases n with
  | ofNat k =>
    have q : (toString (k : Int)) = toString k := rfl
    have hp : 0 < (toString k).length := Nat.length_repr_pos
    have e1 : (toString k).length = 0 := by
      have : toString k = "" := this
      rw [this]; rfl
    omega
  | negSucc k =>
    have q : (toString (Int.negSucc k)) = "-" ++ toString (k + 1) := rfl
    rw [q] at this
    have := congrArg String.length this
    simp at this
theorem my_strT {n : Int} {t : Tok} {Q : Value → Shared → Prop} (hb : Txb n) (h : (num n).length ≤ 111 → Q (.str (num n) s.toks) { s with toks := s.toks + 1 }) : wpAny (model prog w) A (call (.type "str") [.int n t]) Q E s :=
  P.str_of_int (shown (N := 10 ^ 110) hb.lo hb.hi (by decide +kernel)) (h (len_num hb))
theorem my_addT {Q : Value → Shared → Prop} (hx : x.length ≠ 0) (hy : y.length ≠ 0) (hs : x.length ≤ 1000) (hs' : y.length ≤ 1000) (h : Q (.str (x ++ y) s.toks) { s with toks := s.toks + 1 }) :
    wpAny (model prog w) A (binaryOp .Add (.str x t) (.str y u)) Q E s := by
  refine P.add_str ?_
  rw [if_neg (by simpa using hx), if_neg (by simpa using hy)]
  refine ⟨?_, h⟩
  show (x ++ y).length ≤ sizeLine
  rw [Str.length_append, PySem.sizeLine_eq]; omega
end
end PartRd4
end Mine

namespace Mine
section PartRd5
open PySem.StrLaws PySem.Builtin PySem.Builtin.Str
theorem app_list (a b : Str) : (a ++ b).cps.toList = a.cps.toList ++ b.cps.toList := by
  show (a.cps ++ b.cps).toList = _
  exact Array.toList_append
theorem at_only {R : List Nat} (hR : 123 ∉ R) : ∀ {U : List Nat}, 123 ∉ U → ∀ {j : Nat}, (U ++ 123 :: R)[j]? = some 123 → j = U.length
  | [], _, 0, _ => rfl
  | [], _, j + 1, h => by
    exfalso
    apply hR
    exact List.mem_of_getElem? (by simpa using h)
  | a :: U, hU, 0, h => by
    exfalso
    simp only [List.cons_append, List.getElem?_cons_zero, Option.some.injEq] at h
    exact hU (by rw [h]; exact .head _)
  | a :: U, hU, j + 1, h => by
    have := at_only hR (U := U) (fun q => hU (.tail _ q)) (j := j) (by simpa using h)
    simp [this]
theorem nb_not {x : Str} (h : NB x) : 123 ∉ x.cps.toList := fun q => by
  have := List.all_eq_true.mp h.out 123 q
  exact absurd this (by decide)
theorem br_cps : (Str.ofString "{}").cps.toList = [123, 125] := by decide +kernel
theorem sp_cps : (Str.ofString " ").cps.toList = [32] := by decide +kernel
theorem brs_cps : (Str.ofString "{}/").cps.toList = [123, 125, 47] := by decide +kernel
theorem take_mid (U l : List Nat) : List.take (U.length + 1 + 2 - (U.length + 1)) (List.drop (U.length + 1) (U ++ [32] ++ 123 :: (125 :: 47 :: l))) = [123, 125] := by
  rw [show U.length + 1 = (U ++ [32]).length from by simp, List.drop_left, Nat.add_sub_cancel_left]
  rfl
theorem repl_mid (U z l : List Nat) : List.take (U.length + 1) (U ++ [32] ++ 123 :: (125 :: 47 :: l)) ++ z ++ List.drop (U.length + 1 + 2) (U ++ [32] ++ 123 :: (125 :: 47 :: l)) = U ++ 32 :: (z ++ 47 :: l) := by
  rw [← List.drop_drop, show U.length + 1 = (U ++ [32]).length from by simp, List.drop_left, List.take_left]
  simp
theorem no_mid {l : List Nat} (h : 123 ∉ l) : 123 ∉ 125 :: 47 :: l := by
  intro q
  simp only [List.mem_cons] at q
  rcases q with q | q | q
  · cases q
  · cases q
  · exact h q
theorem no_end {l : List Nat} (h : 123 ∉ l) : 123 ∉ l ++ [32] := by
  intro q
  rw [List.mem_append, List.mem_singleton] at q
  rcases q with q | q
  · exact h q
  · cases q
theorem repl_list {u l z : Str} (nu : NB u) (nl : NB l) :
    (Txt.replace (u ++ Str.ofString " " ++ Str.ofString "{}/" ++ l) (Str.ofString "{}") z).cps.toList = u.cps.toList ++ 32 :: (z.cps.toList ++ 47 :: l.cps.toList) := by
  have e : (u ++ Str.ofString " " ++ Str.ofString "{}/" ++ l).cps.toList = (u.cps.toList ++ [32]) ++ 123 :: (125 :: 47 :: l.cps.toList) := by
    simp only [app_list, sp_cps, brs_cps]
    simp
  have el : (u ++ Str.ofString " " ++ Str.ofString "{}/" ++ l).length = u.cps.toList.length + 1 + 3 + l.cps.toList.length := by
    show Array.size _ = _
    rw [← Array.length_toList, e]
    simp; omega
  have hsub : (Str.ofString "{}").length = 2 := by decide +kernel
  have h0 : subAt (u ++ Str.ofString " " ++ Str.ofString "{}/" ++ l) (Str.ofString "{}") (u.cps.toList.length + 1) = true := by
    unfold subAt
    rw [beq_iff_eq, hsub]
    apply Array.ext'
    rw [Array.toList_extract, List.extract_eq_take_drop, e, br_cps]
    exact take_mid _ _
  have hu := nb_not nu
  have hl := nb_not nl
  rw [replace_only (i := u.cps.toList.length + 1) (by rw [hsub]; decide) (by rw [hsub, el]; omega) h0 ?_]
  · rw [e, hsub]
    exact repl_mid _ _ _
  · intro j hj hs
    unfold subAt at hs
    rw [beq_iff_eq, hsub] at hs
    have q := congrArg Array.toList hs
    rw [Array.toList_extract, List.extract_eq_take_drop, br_cps] at q
    have q2 : (u ++ Str.ofString " " ++ Str.ofString "{}/" ++ l).cps.toList[j]? = some 123 := by
      have q3 := congrArg (fun l => l[0]?) q
      simp only [List.getElem?_take, List.getElem?_drop] at q3
      simpa using q3
    rw [e] at q2
    have q4 := at_only (R := 125 :: 47 :: l.cps.toList) (U := u.cps.toList ++ [32]) (no_mid hl) (no_end hu) q2
    rw [q4, List.length_append]; rfl
section
variable {prog : Program} {w : World} {A : Around} {E : Value → Shared → Prop} {s : Shared}
theorem my_replace {u l z : Str} {t a b : Tok} {Q : Value → Shared → Prop} (nu : NB u) (nl : NB l) (hu : u.length ≤ 100) (hl : l.length ≤ 111) (hz : z.length ≤ 300) (ha : a ≠ 0) (hb : b ≠ 0) (hab : a ≠ b) (hzb : (Str.ofString "{}" == z) = false)
    (h : ∀ y t' k, Says (y.cps.toList = u.cps.toList ++ 32 :: (z.cps.toList ++ 47 :: l.cps.toList)) → Q (.str y t') { s with toks := k }) :
    wpAny (model prog w) A (call (.builtin "str.replace") [.str (u ++ Str.ofString " " ++ Str.ofString "{}/" ++ l) t, .str (Str.ofString "{}") a, .str z b]) Q E s := by
  have e1 : (u ++ Str.ofString " " ++ Str.ofString "{}/" ++ l).length ≤ 220 := by
    rw [Str.length_append, Str.length_append, Str.length_append]
    have q1 : (Str.ofString " ").length = 1 := by decide +kernel
    have q2 : (Str.ofString "{}/").length = 3 := by decide +kernel
    omega
  refine SC.replace ha hb hab hzb ?_ fun t' k => h _ t' k ⟨repl_list nu nl⟩
  have e2 := Nat.mul_le_mul (show (u ++ Str.ofString " " ++ Str.ofString "{}/" ++ l).length + 1 ≤ 221 by omega) hz
  omega
end
theorem num_NB {n : Int} : NB (num n) := by
  refine ⟨List.all_eq_true.mpr fun c hc => ?_⟩
  have q := int_text_free' 123 ⟨by decide, by decide⟩ n
  rw [bne_iff_ne]
  intro e
  rw [e] at hc
  exact q hc
end PartRd5
end Mine

namespace Mine
section PartRd6
open PySem.StrLaws PySem.Builtin PySem.Builtin.Str
theorem told_yes {x y : Str} {r : CRg} (h : pcr x = some r) (hy : y.cps.toList = (hdr r).cps.toList) : toldS x = some y := by
  unfold toldS
  rw [h, str_ext hy]; rfl
theorem dash_cps : (Str.ofString "-").cps.toList = [45] := minus_cps
theorem star_cps : (Str.ofString "*").cps.toList = [42] := by decide +kernel
theorem slash_cps : (Str.ofString "/").cps.toList = [47] := by decide +kernel
theorem spst_cps : (Str.ofString " */").cps.toList = [32, 42, 47] := by decide +kernel
theorem empty_cps' : Str.empty.cps.toList = [] := rfl
theorem part_no {x y : Str} (h : has x y = false) : Txt.partition x y = (x, Str.empty, Str.empty) := by
  unfold has at h
  unfold Txt.partition
  cases ho : occurrences x y 0 x.length 1 with
  | nil => rfl
  | cons i r => rw [ho] at h; cases h
theorem has_empty : has Str.empty (Str.ofString "/") = false := by decide +kernel
section
variable {x z u r p l a b y : Str} {n i j : Int}
theorem rd_none1 (hz : Says (Txt.stripChars x (Str.ofString " \t") = z)) (h : Says (has z (Str.ofString " ") = false)) : toldS x = none := by
  have e := part_no h.out
  simp [toldS, pcr, hz.out, e, has_empty]
theorem rd_none2 (hz : Says (Txt.stripChars x (Str.ofString " \t") = z)) (h : Says (has (Txt.partition z (Str.ofString " ")).2.2 (Str.ofString "/") = false)) : toldS x = none := by
  simp [toldS, pcr, hz.out, h.out]
variable (hz : Says (Txt.stripChars x (Str.ofString " \t") = z)) (hs : Says (has (Txt.partition z (Str.ofString " ")).2.2 (Str.ofString "/") = true))
  (hu : Says ((Txt.partition z (Str.ofString " ")).1 = u)) (hr : Says ((Txt.partition z (Str.ofString " ")).2.2 = r)) (hp : Says ((Txt.partition r (Str.ofString "/")).1 = p)) (hl : Says ((Txt.partition r (Str.ofString "/")).2.2 = l))
include hz hs hu hr hp hl
/-- the length is no number -/
theorem rd_none3 (h1 : Says (l ≠ Str.ofString "*")) (h2 : Says (plain l = none)) : toldS x = none := by
  have e := hs.out; rw [hr.out] at e
  simp [toldS, pcr, hz.out, e, hr.out, hl.out, h1.out, h2.out]
theorem rd_s (h1 : Says (l = Str.ofString "*")) : pcr x = pcrOf u p none := by
  have e := hs.out; rw [hr.out] at e
  simp [pcr, hz.out, e, hu.out, hr.out, hl.out, hp.out, h1.out]
theorem rd_n (h1 : Says (l ≠ Str.ofString "*")) (h2 : Says (plain l = some n)) : pcr x = pcrOf u p (some n) := by
  have e := hs.out; rw [hr.out] at e
  simp [pcr, hz.out, e, hu.out, hr.out, hl.out, hp.out, h1.out, h2.out]
end
section
variable {u p a b y : Str} {n i j : Int} {k : Option Int}
theorem pc_s (h : Says (p = Str.ofString "*")) : pcrOf u p none = some (u, none, none) := by
  simp [pcrOf, h.out]
theorem pc_sn (h : Says (p = Str.ofString "*")) (hn : 0 ≤ n) : pcrOf u p (some n) = some (u, none, some n) := by
  simp [pcrOf, h.out, hn]
theorem pc_sx (h : Says (p = Str.ofString "*")) (hn : ¬ 0 ≤ n) : pcrOf u p (some n) = none := by
  unfold pcrOf
  rw [if_pos h.out]
  simp [hn]
theorem pc_d (h : Says (p ≠ Str.ofString "*")) (hd : Says (has p (Str.ofString "-") = false)) : pcrOf u p k = none := by
  unfold pcrOf
  rw [if_neg h.out, if_pos hd.out]
variable (h : Says (p ≠ Str.ofString "*")) (hd : Says (has p (Str.ofString "-") = true)) (ha : Says ((Txt.partition p (Str.ofString "-")).1 = a)) (hb : Says ((Txt.partition p (Str.ofString "-")).2.2 = b))
include h hd ha hb
theorem pc_a (h1 : Says (plain a = none)) : pcrOf u p k = none := by
  unfold pcrOf
  rw [if_neg h.out, if_neg (by rw [hd.out]; decide), ha.out, hb.out, h1.out]
theorem pc_b (h1 : Says (plain b = none)) : pcrOf u p k = none := by
  unfold pcrOf
  rw [if_neg h.out, if_neg (by rw [hd.out]; decide), ha.out, hb.out, h1.out]
  cases plain a <;> rfl
theorem pc_o (h1 : Says (plain a = some i)) (h2 : Says (plain b = some j)) (hx : ¬ (0 ≤ i ∧ i ≤ j)) : pcrOf u p k = none := by
  unfold pcrOf
  rw [if_neg h.out, if_neg (by rw [hd.out]; decide), ha.out, hb.out, h1.out, h2.out]
  cases k with
  | none => exact if_neg (by omega)
  | some c => exact if_neg (by omega)
theorem pc_l (h1 : Says (plain a = some i)) (h2 : Says (plain b = some j)) (hx : n ≤ i) : pcrOf u p (some n) = none := by
  unfold pcrOf
  rw [if_neg h.out, if_neg (by rw [hd.out]; decide), ha.out, hb.out, h1.out, h2.out]
  exact if_neg (by omega)
theorem pc_y (h1 : Says (plain a = some i)) (h2 : Says (plain b = some j)) (hx : 0 ≤ i) (hy : i ≤ j) : pcrOf u p none = some (u, some (i, j + 1), none) := by
  unfold pcrOf
  rw [if_neg h.out, if_neg (by rw [hd.out]; decide), ha.out, hb.out, h1.out, h2.out]
  exact if_pos (by omega)
theorem pc_yn (h1 : Says (plain a = some i)) (h2 : Says (plain b = some j)) (hx : 0 ≤ i) (hy : i ≤ j) (hn : ¬ n ≤ i) : pcrOf u p (some n) = some (u, some (i, j + 1), some n) := by
  unfold pcrOf
  rw [if_neg h.out, if_neg (by rw [hd.out]; decide), ha.out, hb.out, h1.out, h2.out]
  exact if_pos (by omega)
end
section
variable {u y : Str} {n i j : Int}
theorem hd_s (h : Says (y.cps.toList = u.cps.toList ++ 32 :: ((Str.ofString "*").cps.toList ++ 47 :: (Str.ofString "*").cps.toList))) : y.cps.toList = (hdr (u, none, none)).cps.toList := by
  rw [h.out]
  simp only [hdr, app_list, star_cps, spst_cps, empty_cps']
  simp
theorem hd_sn (h : Says (y.cps.toList = u.cps.toList ++ 32 :: ((Str.ofString "*").cps.toList ++ 47 :: (num n).cps.toList))) : y.cps.toList = (hdr (u, none, some n)).cps.toList := by
  rw [h.out]
  simp only [hdr, app_list, star_cps, spst_cps, empty_cps']
  simp
theorem hd_y (h : Says (y.cps.toList = u.cps.toList ++ 32 :: ((num i ++ Str.ofString "-" ++ num j).cps.toList ++ 47 :: (Str.ofString "*").cps.toList))) : y.cps.toList = (hdr (u, some (i, j + 1), none)).cps.toList := by
  rw [h.out]
  simp only [hdr, app_list, star_cps, slash_cps, dash_cps, sp_cps, empty_cps', show j + 1 - 1 = j by omega]
  simp
theorem hd_yn (h : Says (y.cps.toList = u.cps.toList ++ 32 :: ((num i ++ Str.ofString "-" ++ num j).cps.toList ++ 47 :: (num n).cps.toList))) : y.cps.toList = (hdr (u, some (i, j + 1), some n)).cps.toList := by
  rw [h.out]
  simp only [hdr, app_list, star_cps, slash_cps, dash_cps, sp_cps, empty_cps', show j + 1 - 1 = j by omega]
  simp
theorem told_no {x : Str} (h : pcr x = none) : toldS x = none := by unfold toldS; rw [h]; rfl
end
end PartRd6
end Mine

namespace Mine
section PartCa
open PySem.StrLaws PySem.Builtin PySem.Builtin.Str
theorem drop_tw {p : Nat → Bool} : ∀ l : List Nat, l.drop (l.takeWhile p).length = l.dropWhile p
  | [] => rfl
  | a :: l => by
    by_cases h : p a = true
    · rw [List.takeWhile_cons_of_pos h, List.dropWhile_cons_of_pos h]
      exact drop_tw l
    · rw [List.takeWhile_cons_of_neg h, List.dropWhile_cons_of_neg h]
      rfl
theorem dw_head {p : Nat → Bool} : ∀ {l : List Nat} {c : Nat} {r : List Nat}, l.dropWhile p = c :: r → p c = false
  | [], _, _, h => by cases h
  | a :: l, c, r, h => by
    by_cases ha : p a = true
    · rw [List.dropWhile_cons_of_pos ha] at h
      exact dw_head h
    · rw [List.dropWhile_cons_of_neg ha] at h
      injection h with e _
      rw [← e]; simpa using ha
/-- not a blank nor a tab -/
def NoBl (c : Nat) : Prop := c ≠ 32 ∧ c ≠ 9
theorem bl_iff (c : Nat) : (Str.ofString " \t").cps.contains c = false ↔ NoBl c := by
  have e : (Str.ofString " \t").cps = #[32, 9] := by decide +kernel
  rw [e]
  simp [NoBl]
theorem strip_head {x : Str} {c : Nat} {r : List Nat} (h : (Txt.stripChars x (Str.ofString " \t")).cps.toList = c :: r) : NoBl c := by
  unfold Txt.stripChars at h
  rw [PyProof.Rows.stripBy_eq] at h
  simp only [strSub, Array.toList_extract, List.extract_eq_take_drop, stripLo, if_true] at h
  rw [drop_tw] at h
  cases hd : x.cps.toList.dropWhile (Str.ofString " \t").cps.contains with
  | nil => rw [hd] at h; simp at h
  | cons a l =>
    rw [hd] at h
    generalize stripHi _ _ _ _ - _ = k at h
    cases k with
    | zero => cases h
    | succ k =>
      injection h with e _
      rw [← e]
      exact (bl_iff a).mp (dw_head hd)
theorem strip_id {x : Str} {c : Nat} {M A B : List Nat} (h1 : x.cps.toList = c :: M) (hc : NoBl c) (h2 : x.cps.toList = A ++ B) (hB : B ≠ []) (hb : ∀ d ∈ B, NoBl d) : Txt.stripChars x (Str.ofString " \t") = x := by
  unfold Txt.stripChars Txt.stripBy
  have e1 : stripLo (Str.ofString " \t").cps.contains true x = 0 := by
    unfold stripLo
    rw [if_pos rfl, h1, List.takeWhile_cons_of_neg (by rw [(bl_iff c).mpr hc]; decide)]
    rfl
  have e2 : stripHi (Str.ofString " \t").cps.contains true x 0 = x.length := by
    unfold stripHi
    rw [if_pos rfl, List.drop_zero, h2, List.reverse_append]
    cases hr : B.reverse with
    | nil => exact absurd (List.reverse_eq_nil_iff.mp hr) hB
    | cons d r =>
      have hd : d ∈ B := List.mem_reverse.mp (by rw [hr]; exact .head _)
      rw [List.cons_append, List.takeWhile_cons_of_neg (by rw [(bl_iff d).mpr (hb d hd)]; decide)]
      rfl
  rw [if_pos]
  unfold stripSame
  rw [e1, e2]
  simp
theorem first_at {l U R : List Nat} {c i : Nat} (h : l = U ++ c :: R) (hU : c ∉ U) (hi : l[i]? = some c) (hf : ∀ k, k < i → l[k]? ≠ some c) : i = U.length := by
  subst h
  have h1 : ¬ U.length < i := fun q => hf _ q (by simp)
  have h2 : ¬ i < U.length := fun q => by
    rw [List.getElem?_append_left q] at hi
    exact hU (List.mem_of_getElem? hi)
  omega
theorem part_eq {x : Str} {c : Nat} {U R : List Nat} (h : x.cps.toList = U ++ c :: R) (hU : c ∉ U) : has x ⟨#[c]⟩ = true ∧ (Txt.partition x ⟨#[c]⟩).1.cps.toList = U ∧ (Txt.partition x ⟨#[c]⟩).2.2.cps.toList = R := by
  have hh : has x ⟨#[c]⟩ = true := by
    rw [has_one, decide_eq_true_eq, h]
    simp
  refine ⟨hh, ?_⟩
  rcases StrLaws.occ_head x ⟨#[c]⟩ 1 (Nat.le_refl 1) with ⟨h0, _⟩ | ⟨i, r, h0, hi, hf⟩
  · unfold has at hh
    rw [h0] at hh
    cases hh
  · have q := (subAt_one x c i).mp hi
    have e := first_at h hU q fun k hk g => hf k hk ((subAt_one x c k).mpr g)
    unfold Txt.partition; rw [h0]
    constructor
    · simp [strSub, h, e]
    · show (x.cps.extract (i + 1) x.length).toList = _
      rw [Array.toList_extract, List.extract_eq_take_drop, h, e]
      have e3 : x.length = (U ++ c :: R).length := by rw [← h]; exact Array.length_toList.symm
      rw [e3, List.take_of_length_le]
      · rw [show U ++ c :: R = (U ++ [c]) ++ R from by simp, show U.length + 1 = (U ++ [c]).length from by simp, List.drop_left]
      · simp; omega
theorem split_first {c : Nat} : ∀ {l : List Nat}, c ∈ l → ∃ U R, l = U ++ c :: R ∧ c ∉ U
  | [], h => by cases h
  | a :: l, h => by
    by_cases e : a = c
    · exact ⟨[], l, by rw [e]; rfl, by simp⟩
    · obtain ⟨U, R, h1, h2⟩ := split_first (l := l) (by
        rcases List.mem_cons.mp h with q | q
        · exact absurd q.symm e
        · exact q)
      exact ⟨a :: U, R, by rw [h1]; rfl, fun q => by
        rcases List.mem_cons.mp q with q | q
        · exact e q.symm
        · exact h2 q⟩
theorem part_of {x : Str} {c : Nat} (hh : has x ⟨#[c]⟩ = true) : ∃ U R, x.cps.toList = U ++ c :: R ∧ c ∉ U ∧ (Txt.partition x ⟨#[c]⟩).1.cps.toList = U ∧ (Txt.partition x ⟨#[c]⟩).2.2.cps.toList = R := by
  rw [has_one, decide_eq_true_eq] at hh
  obtain ⟨U, R, h, hU⟩ := split_first hh
  exact ⟨U, R, h, hU, (part_eq h hU).2⟩
theorem num_digs (m : Nat) : (num (m : Int)).cps.toList = (Nat.toDigits 10 m).map Char.toNat := KIN.signs_num m
theorem num_all (m : Nat) : (num (m : Int)).cps.toList.all isDig = true := by
  rw [num_digs, List.all_eq_true]
  intro c hc
  obtain ⟨ch, hch, e⟩ := List.mem_map.mp hc
  have r := PyProof.Rows.digit_range (Nat.isDigit_of_mem_toDigits (by decide) (by decide) hch)
  rw [← e]
  simpa [isDig] using r
theorem num_ne (m : Nat) : (num (m : Int)).cps.toList ≠ [] := fun e => num_pos (m : Int) (by show Array.size _ = 0; rw [← Array.length_toList, e]; rfl)
theorem num_noBl (m : Nat) : ∀ d ∈ (num (m : Int)).cps.toList, NoBl d := by
  intro d hd
  have := List.all_eq_true.mp (num_all m) d hd
  simp only [isDig, decide_eq_true_eq] at this
  exact ⟨by omega, by omega⟩
theorem plain_num (m : Nat) : plain (num (m : Int)) = some (m : Int) := by
  have ha := num_all m
  have hn := num_ne m
  have hb := num_noBl m
  unfold plain
  cases hl : (num (m : Int)).cps.toList with
  | nil => exact absurd hl hn
  | cons c r =>
    rw [strip_id (A := []) (B := (num (m : Int)).cps.toList) hl (hb c (by rw [hl]; exact .head _)) rfl hn hb]
    unfold plainS
    rw [hl, plainL_cons]
    have hc := List.all_eq_true.mp ha c (by rw [hl]; exact .head _)
    simp only [isDig, decide_eq_true_eq] at hc
    rw [if_neg (by omega), if_pos (by rw [← hl]; exact ha), ← hl, num_digs, KIN.val_back]
end PartCa
end Mine

namespace Mine
section PartCa2
open PySem.StrLaws PySem.Builtin PySem.Builtin.Str
theorem dash_one : Str.ofString "-" = ⟨#[45]⟩ := by decide +kernel
theorem sp_one : Str.ofString " " = ⟨#[32]⟩ := by decide +kernel
theorem slash_one : Str.ofString "/" = ⟨#[47]⟩ := by decide +kernel
theorem num_free {m : Nat} {c : Nat} (h : c < 48 ∨ 57 < c) : c ∉ (num (m : Int)).cps.toList := by
  intro q
  have := List.all_eq_true.mp (num_all m) c q
  simp only [isDig, decide_eq_true_eq] at this
  omega
theorem star_noBl : ∀ d ∈ (Str.ofString "*").cps.toList, NoBl d := by
  rw [star_cps]
  intro d hd
  rw [List.mem_singleton.mp hd]
  exact ⟨by decide, by decide⟩
theorem num_not_star (m : Nat) : num (m : Int) ≠ Str.ofString "*" := by
  intro e
  have := num_all m
  rw [e, star_cps] at this
  exact absurd this (by decide)
/-- a canonical text is read as what it was made of -/
theorem pcr_canon {y u p l : Str} {c : Nat} {U : List Nat} (hy : y.cps.toList = u.cps.toList ++ 32 :: (p.cps.toList ++ 47 :: l.cps.toList)) (hu : u.cps.toList = c :: U) (hc : NoBl c) (h32 : 32 ∉ u.cps.toList) (h47 : 47 ∉ p.cps.toList)
    (hl : l.cps.toList ≠ []) (hb : ∀ d ∈ l.cps.toList, NoBl d) :
    pcr y = if l = Str.ofString "*" then pcrOf u p none else match plain l with | none => none | some k => pcrOf u p (some k) := by
  have e1 : Txt.stripChars y (Str.ofString " \t") = y := by
    refine strip_id (c := c) (M := U ++ 32 :: (p.cps.toList ++ 47 :: l.cps.toList)) (A := u.cps.toList ++ 32 :: (p.cps.toList ++ [47])) (B := l.cps.toList) ?_ hc ?_ hl hb
    · rw [hy, hu]; rfl
    · rw [hy]; simp
  obtain ⟨_, e2, e3⟩ := part_eq hy h32
  rw [← sp_one] at e2 e3
  have e2' : (Txt.partition y (Str.ofString " ")).1 = u := str_ext e2
  obtain ⟨f1, f2, f3⟩ := part_eq e3 h47
  rw [← slash_one] at f1 f2 f3
  have f2' : (Txt.partition (Txt.partition y (Str.ofString " ")).2.2 (Str.ofString "/")).1 = p := str_ext f2
  have f3' : (Txt.partition (Txt.partition y (Str.ofString " ")).2.2 (Str.ofString "/")).2.2 = l := str_ext f3
  unfold pcr
  simp only [e1, f1, f2', f3', e2', Bool.true_eq_false, if_false]
  all_goals rfl
theorem pcrOf_ab {u p : Str} {a b : Nat} {k : Option Int} (hp : p.cps.toList = (num (a : Int)).cps.toList ++ 45 :: (num (b : Int)).cps.toList) (hab : a ≤ b) (hk : ∀ n, k = some n → (a : Int) < n) :
    pcrOf u p k = some (u, some ((a : Int), (b : Int) + 1), k) := by
  obtain ⟨e1, e2, e3⟩ := part_eq hp (num_free (by decide))
  rw [← dash_one] at e1 e2 e3
  have e2' : (Txt.partition p (Str.ofString "-")).1 = num (a : Int) := str_ext e2
  have e3' : (Txt.partition p (Str.ofString "-")).2.2 = num (b : Int) := str_ext e3
  have hs : p ≠ Str.ofString "*" := by
    intro e
    have q : 45 ∈ p.cps.toList := by rw [hp]; simp
    rw [e, star_cps] at q
    cases q with
    | tail _ q => cases q
  have hx : Says (p ≠ Str.ofString "*") := ⟨hs⟩
  cases k with
  | none => exact pc_y hx ⟨e1⟩ ⟨e2'⟩ ⟨e3'⟩ ⟨plain_num a⟩ ⟨plain_num b⟩ (by omega) (by omega)
  | some n =>
    have := hk n rfl
    exact pc_yn hx ⟨e1⟩ ⟨e2'⟩ ⟨e3'⟩ ⟨plain_num a⟩ ⟨plain_num b⟩ (by omega) (by omega) (by omega)
/-- what a told range is like -/
inductive Good : CRg → Prop
  | s {u : Str} : Good (u, none, none)
  | sn {u : Str} {n : Nat} : Good (u, none, some (n : Int))
  | y {u : Str} {a b : Nat} : a ≤ b → Good (u, some ((a : Int), (b : Int) + 1), none)
  | yn {u : Str} {a b n : Nat} : a ≤ b → a < n → Good (u, some ((a : Int), (b : Int) + 1), some (n : Int))
theorem canon {r : CRg} {c : Nat} {U : List Nat} (hg : Good r) (hu : r.1.cps.toList = c :: U) (hc : NoBl c) (h32 : 32 ∉ r.1.cps.toList) : pcr (hdr r) = some r := by
  have q42 : 47 ∉ (Str.ofString "*").cps.toList := by rw [star_cps]; decide
  have qs : (Str.ofString "*").cps.toList ≠ [] := by rw [star_cps]; decide
  cases hg with
  | @s u =>
    rw [pcr_canon (u := u) (p := Str.ofString "*") (l := Str.ofString "*") ?_ hu hc h32 q42 qs star_noBl, if_pos rfl]
    · exact pc_s ⟨rfl⟩
    · simp only [hdr, app_list, star_cps, spst_cps, empty_cps']; simp
  | @sn u n =>
    rw [pcr_canon (u := u) (p := Str.ofString "*") (l := num (n : Int)) ?_ hu hc h32 q42 (num_ne n) (num_noBl n), if_neg (num_not_star n), plain_num]
    · exact pc_sn ⟨rfl⟩ (by omega)
    · simp only [hdr, app_list, star_cps, spst_cps, empty_cps']; simp
  | @y u a b hab =>
    have e : (num (a : Int) ++ Str.ofString "-" ++ num (b : Int)).cps.toList = (num (a : Int)).cps.toList ++ 45 :: (num (b : Int)).cps.toList := by
      simp only [app_list, dash_cps]; simp
    rw [pcr_canon (u := u) (p := num (a : Int) ++ Str.ofString "-" ++ num (b : Int)) (l := Str.ofString "*") ?_ hu hc h32 ?_ qs star_noBl, if_pos rfl]
    · exact pcrOf_ab e hab (fun n h => by cases h)
    · simp only [hdr, app_list, star_cps, slash_cps, dash_cps, sp_cps, empty_cps', show (b : Int) + 1 - 1 = b by omega]; simp
    · rw [e]
      intro q
      rcases List.mem_append.mp q with q | q
      · exact num_free (by decide) q
      · rcases List.mem_cons.mp q with q | q
        · cases q
        · exact num_free (by decide) q
  | @yn u a b n hab han =>
    have e : (num (a : Int) ++ Str.ofString "-" ++ num (b : Int)).cps.toList = (num (a : Int)).cps.toList ++ 45 :: (num (b : Int)).cps.toList := by
      simp only [app_list, dash_cps]; simp
    rw [pcr_canon (u := u) (p := num (a : Int) ++ Str.ofString "-" ++ num (b : Int)) (l := num (n : Int)) ?_ hu hc h32 ?_ (num_ne n) (num_noBl n), if_neg (num_not_star n), plain_num]
    · exact pcrOf_ab e hab (fun k h => by cases h; omega)
    · simp only [hdr, app_list, star_cps, slash_cps, dash_cps, sp_cps, empty_cps', show (b : Int) + 1 - 1 = b by omega]; simp
    · rw [e]
      intro q
      rcases List.mem_append.mp q with q | q
      · exact num_free (by decide) q
      · rcases List.mem_cons.mp q with q | q
        · cases q
        · exact num_free (by decide) q
/-- what is read of any text is good, and of bounded length -/
theorem plain_small {x : Str} {n : Int} {k : Nat} (h : plain x = some n) (hx : x.length ≤ k) (hk : k ≤ 24) : (num n).length ≤ k + 1 := by
  unfold plain plainS at h
  have b := plainL_bound h
  have l : (Txt.stripChars x (Str.ofString " \t")).cps.toList.length ≤ k := by
    rw [Array.length_toList]
    exact Nat.le_trans (len_stripChars x _) hx
  have b2 : n.natAbs < 10 ^ k := Nat.lt_of_lt_of_le b (Nat.pow_le_pow_right (by decide) l)
  unfold num
  rw [PySem.ofString_length]
  cases k with
  | zero =>
    have e : n = 0 := by omega
    rw [e]; decide
  | succ k => exact int_text_length_le10 (Nat.succ_pos k) b2
theorem part_le (x y : Str) {k : Nat} (hx : x.length ≤ k) : (Txt.partition x y).1.length ≤ k ∧ (Txt.partition x y).2.2.length ≤ k := by
  obtain ⟨T⟩ := x
  unfold Txt.partition
  have hT : T.size ≤ k := hx
  cases Builtin.Str.occurrences ⟨T⟩ y 0 (PySem.Str.length ⟨T⟩) 1 with
  | nil => exact ⟨hx, Nat.zero_le _⟩
  | cons i r =>
    constructor
    · show (PySem.Str.length _) ≤ k
      simp only [PySem.Str.length]
      show Array.size _ ≤ k
      simp [Builtin.Str.strSub]
      omega
    · show (PySem.Str.length _) ≤ k
      simp only [PySem.Str.length]
      show Array.size _ ≤ k
      simp [Builtin.Str.strSub]
      omega
theorem nat_of {n : Int} (h : 0 ≤ n) : ∃ m : Nat, n = (m : Int) := Int.eq_ofNat_of_zero_le h
theorem pcrOf_good {u p : Str} {k : Option Int} {r : CRg} (h : pcrOf u p k = some r) (hp : p.length ≤ 23) (hk : ∀ n, k = some n → (num n).length ≤ 24) : Good r ∧ r.1 = u ∧ (hdr r).length ≤ u.length + 77 ∧ (hdr r).length ≠ 0 := by
  have l1 : (Str.ofString " */").length = 3 := by decide +kernel
  have l2 : (Str.ofString "*").length = 1 := by decide +kernel
  have l3 : (Str.ofString "-").length = 1 := by decide +kernel
  have l4 : (Str.ofString "/").length = 1 := by decide +kernel
  have l5 : (Str.ofString " ").length = 1 := by decide +kernel
  have l6 : Str.empty.length = 0 := rfl
  have q := part_le p (Str.ofString "-") hp
  unfold pcrOf at h
  by_cases h1 : p = Str.ofString "*"
  · rw [if_pos h1] at h
    cases k with
    | none =>
      injection h with e
      subst e
      refine ⟨.s, rfl, ?_, ?_⟩ <;> simp only [hdr, Str.length_append] <;> omega
    | some n =>
      dsimp only at h
      by_cases h2 : 0 ≤ n
      · rw [if_pos h2] at h
        injection h with e
        subst e
        obtain ⟨m, rfl⟩ := nat_of h2
        have := hk _ rfl
        refine ⟨.sn, rfl, ?_, ?_⟩ <;> simp only [hdr, Str.length_append] <;> omega
      · rw [if_neg h2] at h; cases h
  · rw [if_neg h1] at h
    by_cases h2 : has p (Str.ofString "-") = false
    · rw [if_pos h2] at h; cases h
    · rw [if_neg h2] at h
      cases ha : plain (Txt.partition p (Str.ofString "-")).1 with
      | none => rw [ha] at h; cases h
      | some a =>
        cases hb : plain (Txt.partition p (Str.ofString "-")).2.2 with
        | none => rw [ha, hb] at h; cases h
        | some b =>
          rw [ha, hb] at h
          have sa := plain_small ha q.1 (by decide)
          have sb := plain_small hb q.2 (by decide)
          cases k with
          | none =>
            dsimp only at h
            by_cases h3 : 0 ≤ a ∧ a < b + 1
            · rw [if_pos h3] at h
              injection h with e
              subst e
              obtain ⟨m, rfl⟩ := nat_of h3.1
              obtain ⟨m2, rfl⟩ := nat_of (show 0 ≤ b by omega)
              refine ⟨.y (by omega), rfl, ?_, ?_⟩ <;> simp only [hdr, Str.length_append, show (m2 : Int) + 1 - 1 = m2 by omega] <;> omega
            · rw [if_neg h3] at h; cases h
          | some n =>
            dsimp only at h
            by_cases h3 : a < b + 1 ∧ 0 ≤ a ∧ a < n
            · rw [if_pos h3] at h
              injection h with e
              subst e
              obtain ⟨m, rfl⟩ := nat_of h3.2.1
              obtain ⟨m2, rfl⟩ := nat_of (show 0 ≤ b by omega)
              obtain ⟨m3, rfl⟩ := nat_of (show 0 ≤ n by omega)
              have := hk _ rfl
              refine ⟨.yn (by omega) (by omega), rfl, ?_, ?_⟩ <;> simp only [hdr, Str.length_append, show (m2 : Int) + 1 - 1 = m2 by omega] <;> omega
            · rw [if_neg h3] at h; cases h
theorem pcr_some {x : Str} {r : CRg} (h : pcr x = some r) (hx : x.length ≤ 23) : pcr (hdr r) = some r ∧ (hdr r).length ≤ 100 ∧ (hdr r).length ≠ 0 := by
  unfold pcr at h
  dsimp only at h
  generalize hz : Txt.stripChars x (Str.ofString " \t") = z at h
  have lz : z.length ≤ 23 := by rw [← hz]; exact Nat.le_trans (len_stripChars x _) hx
  by_cases h1 : has (Txt.partition z (Str.ofString " ")).2.2 (Str.ofString "/") = false
  · rw [if_pos h1] at h; cases h
  rw [if_neg h1] at h
  have hs : has z (Str.ofString " ") = true := by
    cases hc : has z (Str.ofString " ") with
    | true => rfl
    | false =>
      rw [part_no hc] at h1
      exact absurd has_empty h1
  have q1 := part_le z (Str.ofString " ") lz
  have q2 := part_le (Txt.partition z (Str.ofString " ")).2.2 (Str.ofString "/") q1.2
  have fin : ∀ k, pcrOf (Txt.partition z (Str.ofString " ")).1 (Txt.partition (Txt.partition z (Str.ofString " ")).2.2 (Str.ofString "/")).1 k = some r → (∀ n, k = some n → (num n).length ≤ 24) →
      pcr (hdr r) = some r ∧ (hdr r).length ≤ 100 ∧ (hdr r).length ≠ 0 := by
    intro k hk hn
    obtain ⟨g, e, l1, l2⟩ := pcrOf_good hk q2.1 hn
    rw [sp_one] at hs
    obtain ⟨U, R, hU, h32, e1, _⟩ := part_of hs
    rw [← sp_one] at e1
    have eu : r.1.cps.toList = U := by rw [e]; exact e1
    cases U with
    | nil =>
      exfalso
      have : NoBl 32 := strip_head (x := x) (r := R) (by rw [hz]; exact hU)
      exact this.1 rfl
    | cons c U' =>
      have hc : NoBl c := strip_head (x := x) (r := U' ++ 32 :: R) (by rw [hz]; exact hU)
      exact ⟨canon g eu hc (by rw [eu]; exact h32), by omega, l2⟩
  by_cases h2 : (Txt.partition (Txt.partition z (Str.ofString " ")).2.2 (Str.ofString "/")).2.2 = Str.ofString "*"
  · rw [if_pos h2] at h
    exact fin none h (fun n hn => by cases hn)
  · rw [if_neg h2] at h
    cases hp : plain (Txt.partition (Txt.partition z (Str.ofString " ")).2.2 (Str.ofString "/")).2.2 with
    | none => rw [hp] at h; cases h
    | some n =>
      rw [hp] at h
      exact fin (some n) h (fun k hk => by injection hk with e; rw [← e]; exact plain_small hp q2.2 (by decide))
/-- what is told is told again -/
theorem told_again {x y : Str} (h : toldS x = some y) (hx : x.length ≤ 23) : toldS y = some y ∧ y.length ≤ 100 ∧ y.length ≠ 0 := by
  unfold toldS at h
  cases hr : pcr x with
  | none => rw [hr] at h; cases h
  | some r =>
    rw [hr] at h
    injection h with e
    subst e
    obtain ⟨a, b, c⟩ := pcr_some hr hx
    exact ⟨by unfold toldS; rw [a]; rfl, b, c⟩
end PartCa2
end Mine

namespace Mine
section PartKf
open PySem.StrLaws PySem.Builtin PySem.Builtin.Str
section
variable {prog : Program} {w : World} {A : Around} {E : Value → Shared → Prop} {s : Shared} {x y z p q r : Str} {t u : Tok} {h₀ : Heap} {L : Addr} {m : Str → Option Value} {news : List (Addr × Obj)} {Q : Value → Shared → Prop}
theorem kf_strip (h : Says (Txt.stripChars x y = z)) (hx : x.length ≤ 100) (hq : ∀ t' k, Q (.str z t') { s with toks := k }) : wpAny (model prog w) A (call (.builtin "str.strip") [.str x t, .str y u]) Q E s :=
  SCL.stripChars (fun t' k _ => h.out ▸ hq t' k) (le_line hx)
theorem kf_part (h : Says (Txt.partition x y = (p, q, r))) (hx : x.length ≤ 100) (hF : Fr h₀ L s.heap m) (hN : News h₀ L s.heap news) (hy : (y.length == 0) = false)
    (hq : ∀ D ta tb tc h' k, Fr h₀ L h' m → News h₀ L h' ((D, { cls := .type "tuple", data := .seq [.str p ta, .str q tb, .str r tc].toArray }) :: news) → (∀ a ∈ news, a.1 < D) → Q (.ref D) { s with heap := h', toks := k }) :
    wpAny (model prog w) A (call (.builtin "str.partition") [.str x t, .str y u]) Q E s := by
  refine my_part hx hF hN hy fun p' q' r' hp _ _ D ta tb tc h' k F N l => ?_
  have e := hp.out
  rw [h.out] at e
  injection e with e1 e2
  injection e2 with e2 e3
  subst e1; subst e2; subst e3
  exact hq D ta tb tc h' k F N l
theorem kf_lower (h : Says (Txt.lower x = z)) (hz : z.length ≤ 100) (hq : ∀ t' k, Q (.str z t') { s with toks := k }) : wpAny (model prog w) A (call (.builtin "str.lower") [.str x t]) Q E s := by
  refine SC.lower ?_ (h.out ▸ hq _ _)
  rw [h.out]
  unfold tooLong sizeLine
  exact decide_eq_false (by omega)
theorem kf_starts {b : Bool} (h : Says (Txt.startswith x y = b)) (hq : Q (.bool b) s) : wpAny (model prog w) A (call (.builtin "str.startswith") [.str x t, .str y u]) Q E s :=
  SC.startswith (h.out ▸ hq)
theorem kf_in {b : Bool} (h : Says (has x y = b)) (hq : Q (.bool b) s) : wpAny (model prog w) A (compareOp .In (.str y u) (.str x t)) Q E s := by
  refine my_in (fun e => ?_) fun e => ?_
  · have := h.out; rw [e.out] at this; subst this; exact hq
  · have := h.out; rw [e.out] at this; subst this; exact hq
theorem kf_notIn {b : Bool} (h : Says (has x y = b)) (hq : Q (.bool (!b)) s) : wpAny (model prog w) A (compareOp .NotIn (.str y u) (.str x t)) Q E s := by
  refine my_notIn (fun e => ?_) fun e => ?_
  · have := h.out; rw [e.out] at this; subst this; exact hq
  · have := h.out; rw [e.out] at this; subst this; exact hq
theorem strValues_one {l : List (Str × Tok)} (h : l.map (·.1) = [r]) : ∃ t, strValues l = [.str r t] := by
  match l, h with
  | [(a, t)], h =>
    injection h with e _
    subst e
    exact ⟨t, rfl⟩
theorem kf_split1 (h : Says (Txt.split x y = [r])) (hx : x.length ≤ 100) (hF : Fr h₀ L s.heap m) (hN : News h₀ L s.heap news) (hy : (y.length == 0) = false)
    (hq : ∀ D t' h' k, Fr h₀ L h' m → News h₀ L h' ((D, listOf #[.str r t'] 0) :: news) → (∀ a ∈ news, a.1 < D) → Q (.ref D) { s with heap := h', toks := k }) :
    wpAny (model prog w) A (call (.builtin "str.split") [.str x t, .str y u]) Q E s := by
  refine splitN1 hF hN hy (fun l h' k e F N => ?_) (by rw [PySem.sizeLine_eq]; omega)
  rw [h.out] at e
  obtain ⟨t', e'⟩ := strValues_one e
  rw [e'] at N
  exact hq _ t' h' k F N fun a ha => Heap.lt_size (hN a ha).1
theorem kf_full {n : Int} {a c : Addr} (P : IsPat s.heap a c) (F : Fr h₀ L s.heap m) (N : News h₀ L s.heap news) (hx : x.length ≤ 100) (h : Says (plainS x = some n))
    (hy : ∀ D h', Fr h₀ L h' m → News h₀ L h' news → Q (.ref D) { s with heap := h' }) :
    wpAny (model prog w) A (call (.builtin "re.Pattern.fullmatch") [.ref a, .str x t]) Q E s := by
  refine my_full P F N hx (fun e => ?_) fun k _ _ D h' F' N' => hy D h' F' N'
  have := e.out
  rw [h.out] at this
  cases this
end
end PartKf
end Mine

namespace Mine
section PartAk
abbrev nt (a : Int) : Str := Str.ofString (toString a)
abbrev askX (a b : Int) : Str := Str.ofString "bytes=" ++ Str.ofString (toString a) ++ Str.ofString "-" ++ Str.ofString (toString b)
abbrev askR (a b : Int) : Str := Str.ofString (toString a) ++ Str.ofString "-" ++ Str.ofString (toString b)
/-- what the reader asks of the text that asks for one range -/
structure AskF (a b : Int) : Prop where
  l1 : (askX a b).length ≤ 100
  l2 : (askX a b).length ≠ 0
  l3 : (askR a b).length ≤ 100
  l4 : (Str.ofString (toString a)).length ≤ 100
  l5 : (Str.ofString (toString b)).length ≤ 100
  l6 : (Str.ofString (toString b)).length ≠ 0
  l7 : (Str.ofString "bytes").length ≤ 100
  f1 : Says (has (askX a b) (Str.ofString "=") = true)
  f2 : Says (Txt.partition (askX a b) (Str.ofString "=") = (Str.ofString "bytes", Str.ofString "=", askR a b))
  f3 : Says (Txt.stripChars (Str.ofString "bytes") (Str.ofString " \t") = Str.ofString "bytes")
  f4 : Says (Txt.lower (Str.ofString "bytes") = Str.ofString "bytes")
  f5 : Says (Txt.split (askR a b) (Str.ofString ",") = [askR a b])
  f6 : Says (Txt.stripChars (askR a b) (Str.ofString " \t") = askR a b)
  f7 : Says (has (askR a b) (Str.ofString "-") = true)
  f8 : Says (Txt.startswith (askR a b) (Str.ofString "-") = false)
  f9 : Says (Txt.partition (askR a b) (Str.ofString "-") = (Str.ofString (toString a), Str.ofString "-", Str.ofString (toString b)))
  fa : Says (Txt.stripChars (Str.ofString (toString a)) (Str.ofString " \t") = Str.ofString (toString a))
  fb : Says (Txt.stripChars (Str.ofString (toString b)) (Str.ofString " \t") = Str.ofString (toString b))
  fc : Says (plainS (Str.ofString (toString a)) = some a)
  fd : Says (plainS (Str.ofString (toString b)) = some b)
def askB (a b : Int) : Bool :=
  decide ((askX a b).length ≤ 100) && decide ((askX a b).length ≠ 0) && decide ((askR a b).length ≤ 100) && decide ((Str.ofString (toString a)).length ≤ 100) && decide ((Str.ofString (toString b)).length ≤ 100) && decide ((Str.ofString (toString b)).length ≠ 0) &&
  has (askX a b) (Str.ofString "=") && decide (Txt.partition (askX a b) (Str.ofString "=") = (Str.ofString "bytes", Str.ofString "=", askR a b)) && decide (Txt.split (askR a b) (Str.ofString ",") = [askR a b]) &&
  decide (Txt.stripChars (askR a b) (Str.ofString " \t") = askR a b) && has (askR a b) (Str.ofString "-") && !(Txt.startswith (askR a b) (Str.ofString "-")) && decide (Txt.partition (askR a b) (Str.ofString "-") = (Str.ofString (toString a), Str.ofString "-", Str.ofString (toString b))) &&
  decide (Txt.stripChars (Str.ofString (toString a)) (Str.ofString " \t") = Str.ofString (toString a)) && decide (Txt.stripChars (Str.ofString (toString b)) (Str.ofString " \t") = Str.ofString (toString b)) &&
  decide (plainS (Str.ofString (toString a)) = some a) && decide (plainS (Str.ofString (toString b)) = some b)
theorem ask_all : ∀ i : Fin 9, ∀ j : Fin 5, askB (i.val : Int) ((i.val : Int) + (j.val : Int)) = true := by decide +kernel
theorem ask_lits : Txt.stripChars (Str.ofString "bytes") (Str.ofString " \t") = Str.ofString "bytes" ∧ Txt.lower (Str.ofString "bytes") = Str.ofString "bytes" ∧ (Str.ofString "bytes").length ≤ 100 := by decide +kernel
theorem ask_facts {a d : Int} (h0 : 0 ≤ a) (h1 : a < 9) (h2 : 0 ≤ d) (h3 : d < 5) : AskF a (a + d) := by
  have q := ask_all ⟨a.toNat, by omega⟩ ⟨d.toNat, by omega⟩
  dsimp only at q
  rw [Int.toNat_of_nonneg h0, Int.toNat_of_nonneg h2] at q
  unfold askB at q
  simp only [Bool.and_eq_true, decide_eq_true_eq, Bool.not_eq_true'] at q
  obtain ⟨⟨⟨⟨⟨⟨⟨⟨⟨⟨⟨⟨⟨⟨⟨⟨a1, a2⟩, a3⟩, a4⟩, a5⟩, a6⟩, a7⟩, a8⟩, a9⟩, b1⟩, b2⟩, b3⟩, b4⟩, b5⟩, b6⟩, b7⟩, b8⟩ := q
  exact ⟨a1, a2, a3, a4, a5, a6, ask_lits.2.2, ⟨a7⟩, ⟨a8⟩, ⟨ask_lits.1⟩, ⟨ask_lits.2.1⟩, ⟨a9⟩, ⟨b1⟩, ⟨b2⟩, ⟨b3⟩, ⟨b4⟩, ⟨b5⟩, ⟨b6⟩, ⟨b7⟩, ⟨b8⟩⟩
end PartAk
end Mine

namespace Mine
section PartBo
section
variable {prog : Program} {w : World} {A : Around} {E : Value → Shared → Prop} {s : Shared} {x : Addr}
theorem bool_new_ref : MeetsIn prog w (Builtin.«bool.__new__» ⟨[.type "bool", .ref x], []⟩) (fun A R s => wpAny (model prog w) A.in1 (truthy (.ref x)) (fun b s' => R (.ok (.ret (.bool b))) s') (fun e s' => R (.error e) s') s) :=
  .of_wp fun A R s h => by
    obtain ⟨hp, g, d, tk, os⟩ := s
    have f1 := F.conv_sub_bool
    repeat (any_goals (first | assumption | (refine wpAny_bind (wpAny_mono h (fun b s' hb => ?_) (fun e s' he => he))) | wp_step))
    all_goals exact ⟨_, rfl, hb⟩
theorem call_bool_ref {Q : Value → Shared → Prop} (h : wpAny (model prog w) A.in1.in1 (truthy (.ref x)) (fun b s' => Q (.bool b) s') E s) : wpAny (model prog w) A (call (.type "bool") [.ref x]) Q E s :=
  callType_newIn F.called_bool F.newNe_bool (F.typeCall_bool_1 _) (F.newCall_bool_1 _) (fun obj => F.args_object_init_2 obj _) F.entry_bool_new bool_new_ref
    (wpAny_mono h (fun b s' hb => ⟨PySem.typeIs_bool _ _, hb⟩) (fun _ _ e => e))
end
/-- a content range beyond its length -/
structure BadF : Prop where
  l1 : (Str.ofString "bytes 5-6/5").length ≤ 100
  l2 : (Str.ofString "bytes 5-6/5").length ≠ 0
  l3 : (Str.ofString "5-6/5").length ≤ 100
  l4 : (Str.ofString "5-6").length ≤ 100
  l5 : (Str.ofString "5").length ≤ 100
  l6 : (Str.ofString "6").length ≤ 100
  f1 : Says (Txt.stripChars (Str.ofString "bytes 5-6/5") (Str.ofString " \t") = Str.ofString "bytes 5-6/5")
  f2 : Says (Txt.partition (Str.ofString "bytes 5-6/5") (Str.ofString " ") = (Str.ofString "bytes", Str.ofString " ", Str.ofString "5-6/5"))
  f3 : Says (has (Str.ofString "5-6/5") (Str.ofString "/") = true)
  f4 : Says (Txt.partition (Str.ofString "5-6/5") (Str.ofString "/") = (Str.ofString "5-6", Str.ofString "/", Str.ofString "5"))
  f5 : Says (Txt.stripChars (Str.ofString "5") (Str.ofString " \t") = Str.ofString "5")
  f6 : Says (plainS (Str.ofString "5") = some 5)
  f7 : Says (has (Str.ofString "5-6") (Str.ofString "-") = true)
  f8 : Says (Txt.partition (Str.ofString "5-6") (Str.ofString "-") = (Str.ofString "5", Str.ofString "-", Str.ofString "6"))
  f9 : Says (Txt.stripChars (Str.ofString "6") (Str.ofString " \t") = Str.ofString "6")
  fa : Says (plainS (Str.ofString "6") = some 6)
theorem bad_facts : BadF := ⟨by decide +kernel, by decide +kernel, by decide +kernel, by decide +kernel, by decide +kernel, by decide +kernel, ⟨by decide +kernel⟩, ⟨by decide +kernel⟩, ⟨by decide +kernel⟩, ⟨by decide +kernel⟩, ⟨by decide +kernel⟩, ⟨by decide +kernel⟩, ⟨by decide +kernel⟩, ⟨by decide +kernel⟩, ⟨by decide +kernel⟩, ⟨by decide +kernel⟩⟩
theorem good_told : Says (toldS (Str.ofString "bytes 4-4/5") = some (Str.ofString "bytes 4-4/5")) := ⟨by decide +kernel⟩
end PartBo
end Mine

namespace Mine
section PartPo
theorem raises_ok (w : List Int) : ∀ cls, (PySem.Challenge.rw_ez0426_02.row.claim).raises [ofPy (PyData.list (List.map PyData.int w))] cls = false := raisesW_false (by wrow_none_raised)
theorem post_ok (w : List Int) : (PySem.Challenge.rw_ez0426_02.row.claim).post [ofPy (PyData.list (List.map PyData.int w))] (.bool true) [ofPy (PyData.list (List.map PyData.int w))] = true := by wrow_post
theorem good_ok {w : List Int} {cl : Str → Option Addr} {mean : ExcName → Option Value} {s₁ s' : Shared} {L : Addr} {m : Str → Option Value} (F : Fr s₁.heap L s'.heap m) (hg : s'.gens = #[]) (hos : s'.os = s₁.os) :
    GoodW PySem.Challenge.rw_ez0426_02.row.claim cl mean [ofPy (PyData.list (List.map PyData.int w))] s₁ (.ok (.ret (.bool true))) s' :=
  goodW_bool F hg (raises_ok w) (post_ok w) hos
end PartPo
end Mine

namespace Mine
section PartV2

theorem v_nnn {w : World} {mean : ExcName → Option Value} {mg mb : Str → Option Value} {env : Env} {outer : List Env} {A₀ A : Around} {base h₀ : Heap} {L : Addr} {m : Str → Option Value} {news : List (Addr × Obj)} {s : Shared} {Q E : Value → Shared → Prop}
  (B : Below A₀ base outer h₀) (F : Fr h₀ L s.heap m) (X : (hd.heap_39 w.params).In h₀) (N : News h₀ L s.heap news) (T : Top hd.view_39 (looseW hd.view_39 [Str.ofString "_plain_int_re", Str.ofString "ContentRange", Str.ofString "parse_range_header"]) mean mg mb h₀)
  (hA : A.frames = some (env :: outer)) (hf : env.frame = some L) (hke : env.scope.kind = .function) (hroom : A.depth < recursionLimit)
  
  (hret : ∀ (_ : Tok) (h' : Heap) (tk' : Nat), Fr h₀ L h' m → News h₀ L h' news → Q (.bool (true)) { s with heap := h', toks := tk' }) :
  wpAny (model PySem.Challenge.rw_ez0426_02.row.prog w) A (call (.ref 50) [.none, .none, .none]) Q E s := by
  w_on
  revert X; k_fill; intro X
  refine wpAny_call ?_
  refine' code_def (binds := [(Str.ofString "start", .none), (Str.ofString "stop", .none), (Str.ofString "length", .none)]) B F X N T hA hf hke ?k6 ?k7 hroom ?k9 ?kB ?_ ?c2 ?c3 ?c4 ?c5
  case k6 => k_is
  case k7 => k_is
  case k9 => exact BindsTo.of_eq rfl
  case kB => exact locs rfl
  case c2 => exact rfl
  case c3 => exact rfl
  case c4 => exact rfl
  case c5 => decide
  intro g' L' h' FG' F' N' B' X' T'
  (try dsimp only)
  (try k_fold)
  k_steps
  all_goals (refine cb_retB hret ?_ ?_ ?_ <;> first | k_asm | rfl | (simp_all; done) | (simp_all; omega))

theorem v_nni {w : World} {mean : ExcName → Option Value} {mg mb : Str → Option Value} {env : Env} {outer : List Env} {A₀ A : Around} {base h₀ : Heap} {L : Addr} {m : Str → Option Value} {news : List (Addr × Obj)} {s : Shared} {Q E : Value → Shared → Prop}
  (B : Below A₀ base outer h₀) (F : Fr h₀ L s.heap m) (X : (hd.heap_39 w.params).In h₀) (N : News h₀ L s.heap news) (T : Top hd.view_39 (looseW hd.view_39 [Str.ofString "_plain_int_re", Str.ofString "ContentRange", Str.ofString "parse_range_header"]) mean mg mb h₀)
  (hA : A.frames = some (env :: outer)) (hf : env.frame = some L) (hke : env.scope.kind = .function) (hroom : A.depth < recursionLimit)
  {c : Int} {tc : Tok}
  (hret : ∀ (_ : Tok) (h' : Heap) (tk' : Nat), Fr h₀ L h' m → News h₀ L h' news → Q (.bool (decide (0 ≤ c))) { s with heap := h', toks := tk' }) :
  wpAny (model PySem.Challenge.rw_ez0426_02.row.prog w) A (call (.ref 50) [.none, .none, .int c tc]) Q E s := by
  w_on
  revert X; k_fill; intro X
  refine wpAny_call ?_
  refine' code_def (binds := [(Str.ofString "start", .none), (Str.ofString "stop", .none), (Str.ofString "length", .int c tc)]) B F X N T hA hf hke ?k6 ?k7 hroom ?k9 ?kB ?_ ?c2 ?c3 ?c4 ?c5
  case k6 => k_is
  case k7 => k_is
  case k9 => exact BindsTo.of_eq rfl
  case kB => exact locs rfl
  case c2 => exact rfl
  case c3 => exact rfl
  case c4 => exact rfl
  case c5 => decide
  intro g' L' h' FG' F' N' B' X' T'
  (try dsimp only)
  (try k_fold)
  k_steps
  all_goals (refine cb_retB hret ?_ ?_ ?_ <;> first | k_asm | rfl | (simp_all; done) | (simp_all; omega))

theorem v_iin {w : World} {mean : ExcName → Option Value} {mg mb : Str → Option Value} {env : Env} {outer : List Env} {A₀ A : Around} {base h₀ : Heap} {L : Addr} {m : Str → Option Value} {news : List (Addr × Obj)} {s : Shared} {Q E : Value → Shared → Prop}
  (B : Below A₀ base outer h₀) (F : Fr h₀ L s.heap m) (X : (hd.heap_39 w.params).In h₀) (N : News h₀ L s.heap news) (T : Top hd.view_39 (looseW hd.view_39 [Str.ofString "_plain_int_re", Str.ofString "ContentRange", Str.ofString "parse_range_header"]) mean mg mb h₀)
  (hA : A.frames = some (env :: outer)) (hf : env.frame = some L) (hke : env.scope.kind = .function) (hroom : A.depth < recursionLimit)
  {a b : Int} {ta tb : Tok}
  (hret : ∀ (_ : Tok) (h' : Heap) (tk' : Nat), Fr h₀ L h' m → News h₀ L h' news → Q (.bool (decide (0 ≤ a) && decide (a < b))) { s with heap := h', toks := tk' }) :
  wpAny (model PySem.Challenge.rw_ez0426_02.row.prog w) A (call (.ref 50) [.int a ta, .int b tb, .none]) Q E s := by
  w_on
  revert X; k_fill; intro X
  refine wpAny_call ?_
  refine' code_def (binds := [(Str.ofString "start", .int a ta), (Str.ofString "stop", .int b tb), (Str.ofString "length", .none)]) B F X N T hA hf hke ?k6 ?k7 hroom ?k9 ?kB ?_ ?c2 ?c3 ?c4 ?c5
  case k6 => k_is
  case k7 => k_is
  case k9 => exact BindsTo.of_eq rfl
  case kB => exact locs rfl
  case c2 => exact rfl
  case c3 => exact rfl
  case c4 => exact rfl
  case c5 => decide
  intro g' L' h' FG' F' N' B' X' T'
  (try dsimp only)
  (try k_fold)
  k_steps
  all_goals (refine cb_retB hret ?_ ?_ ?_ <;> first | k_asm | rfl | (simp_all; done) | (simp_all; omega))

theorem v_iii {w : World} {mean : ExcName → Option Value} {mg mb : Str → Option Value} {env : Env} {outer : List Env} {A₀ A : Around} {base h₀ : Heap} {L : Addr} {m : Str → Option Value} {news : List (Addr × Obj)} {s : Shared} {Q E : Value → Shared → Prop}
  (B : Below A₀ base outer h₀) (F : Fr h₀ L s.heap m) (X : (hd.heap_39 w.params).In h₀) (N : News h₀ L s.heap news) (T : Top hd.view_39 (looseW hd.view_39 [Str.ofString "_plain_int_re", Str.ofString "ContentRange", Str.ofString "parse_range_header"]) mean mg mb h₀)
  (hA : A.frames = some (env :: outer)) (hf : env.frame = some L) (hke : env.scope.kind = .function) (hroom : A.depth < recursionLimit)
  {a b c : Int} {ta tb tc : Tok}
  (hret : ∀ (_ : Tok) (h' : Heap) (tk' : Nat), Fr h₀ L h' m → News h₀ L h' news → Q (.bool (decide (a < b) && (decide (0 ≤ a) && decide (a < c)))) { s with heap := h', toks := tk' }) :
  wpAny (model PySem.Challenge.rw_ez0426_02.row.prog w) A (call (.ref 50) [.int a ta, .int b tb, .int c tc]) Q E s := by
  w_on
  revert X; k_fill; intro X
  refine wpAny_call ?_
  refine' code_def (binds := [(Str.ofString "start", .int a ta), (Str.ofString "stop", .int b tb), (Str.ofString "length", .int c tc)]) B F X N T hA hf hke ?k6 ?k7 hroom ?k9 ?kB ?_ ?c2 ?c3 ?c4 ?c5
  case k6 => k_is
  case k7 => k_is
  case k9 => exact BindsTo.of_eq rfl
  case kB => exact locs rfl
  case c2 => exact rfl
  case c3 => exact rfl
  case c4 => exact rfl
  case c5 => decide
  intro g' L' h' FG' F' N' B' X' T'
  (try dsimp only)
  (try k_fold)
  k_steps
  all_goals (refine cb_retB hret ?_ ?_ ?_ <;> first | k_asm | rfl | (simp_all; done) | (simp_all; omega))

inductive ValidV : Value → Value → Value → Prop
  | nnn : ValidV .none .none .none
  | nni (c : Int) (t : Tok) : 0 ≤ c → ValidV .none .none (.int c t)
  | iin (a b : Int) (ta tb : Tok) : 0 ≤ a → a < b → ValidV (.int a ta) (.int b tb) .none
  | iii (a b c : Int) (ta tb tc : Tok) : 0 ≤ a → a < b → a < c → ValidV (.int a ta) (.int b tb) (.int c tc)

theorem v_true {w : World} {mean : ExcName → Option Value} {mg mb : Str → Option Value} {env : Env} {outer : List Env} {A₀ A : Around} {base h₀ : Heap} {L : Addr} {m : Str → Option Value} {news : List (Addr × Obj)} {s : Shared} {Q E : Value → Shared → Prop}
  (B : Below A₀ base outer h₀) (F : Fr h₀ L s.heap m) (X : (hd.heap_39 w.params).In h₀) (N : News h₀ L s.heap news) (T : Top hd.view_39 (looseW hd.view_39 [Str.ofString "_plain_int_re", Str.ofString "ContentRange", Str.ofString "parse_range_header"]) mean mg mb h₀)
  (hA : A.frames = some (env :: outer)) (hf : env.frame = some L) (hke : env.scope.kind = .function) (hroom : A.depth < recursionLimit)
  {va vb vl : Value} (hv : ValidV va vb vl)
  (hret : ∀ (_ : Tok) (h' : Heap) (tk' : Nat), Fr h₀ L h' m → News h₀ L h' news → Q (.bool true) { s with heap := h', toks := tk' }) :
  wpAny (model PySem.Challenge.rw_ez0426_02.row.prog w) A (call (.ref 50) [va, vb, vl]) Q E s := by
  cases hv with
  | nnn => exact v_nnn B F X N T hA hf hke hroom hret
  | nni c t h => exact v_nni B F X N T hA hf hke hroom (by rw [decide_eq_true h]; exact hret)
  | iin a b ta tb h1 h2 => exact v_iin B F X N T hA hf hke hroom (by rw [decide_eq_true h1, decide_eq_true h2]; exact hret)
  | iii a b c ta tb tc h1 h2 h3 => exact v_iii B F X N T hA hf hke hroom (by rw [decide_eq_true h1, decide_eq_true h2, decide_eq_true h3]; exact hret)

theorem v2_nni {w : World} {mean : ExcName → Option Value} {mg mb : Str → Option Value} {env : Env} {outer : List Env} {A₀ A : Around} {base h₀ : Heap} {L : Addr} {m : Str → Option Value} {news : List (Addr × Obj)} {s : Shared} {Q E : Value → Shared → Prop}
  (B : Below A₀ base outer h₀) (F : Fr h₀ L s.heap m) (X : (hd.heap_39 w.params).In h₀) (N : News h₀ L s.heap news) (T : Top hd.view_39 (looseW hd.view_39 [Str.ofString "_plain_int_re", Str.ofString "ContentRange", Str.ofString "parse_range_header"]) mean mg mb h₀)
  (hA : A.frames = some (env :: outer)) (hf : env.frame = some L) (hke : env.scope.kind = .function) (hroom : A.depth < recursionLimit)
  {c : Int} {tc : Tok}
  (ht : Says (0 ≤ c) → ∀ (_ : Tok) (h' : Heap) (tk' : Nat), Fr h₀ L h' m → News h₀ L h' news → Q (.bool true) { s with heap := h', toks := tk' })
  (hn : Says (¬ (0 ≤ c)) → ∀ (_ : Tok) (h' : Heap) (tk' : Nat), Fr h₀ L h' m → News h₀ L h' news → Q (.bool false) { s with heap := h', toks := tk' }) :
  wpAny (model PySem.Challenge.rw_ez0426_02.row.prog w) A (call (.ref 50) [.none, .none, .int c tc]) Q E s := by
  refine v_nni B F X N T hA hf hke hroom ?_
  by_cases hv : 0 ≤ c
  · have e : (decide (0 ≤ c)) = true := by simpa using hv
    rw [e]; exact ht ⟨hv⟩
  · have e : (decide (0 ≤ c)) = false := by
      rw [← Bool.not_eq_true]
      simpa using hv
    rw [e]; exact hn ⟨hv⟩

theorem v2_iin {w : World} {mean : ExcName → Option Value} {mg mb : Str → Option Value} {env : Env} {outer : List Env} {A₀ A : Around} {base h₀ : Heap} {L : Addr} {m : Str → Option Value} {news : List (Addr × Obj)} {s : Shared} {Q E : Value → Shared → Prop}
  (B : Below A₀ base outer h₀) (F : Fr h₀ L s.heap m) (X : (hd.heap_39 w.params).In h₀) (N : News h₀ L s.heap news) (T : Top hd.view_39 (looseW hd.view_39 [Str.ofString "_plain_int_re", Str.ofString "ContentRange", Str.ofString "parse_range_header"]) mean mg mb h₀)
  (hA : A.frames = some (env :: outer)) (hf : env.frame = some L) (hke : env.scope.kind = .function) (hroom : A.depth < recursionLimit)
  {a b : Int} {ta tb : Tok}
  (ht : Says (0 ≤ a ∧ a < b) → ∀ (_ : Tok) (h' : Heap) (tk' : Nat), Fr h₀ L h' m → News h₀ L h' news → Q (.bool true) { s with heap := h', toks := tk' })
  (hn : Says (¬ (0 ≤ a ∧ a < b)) → ∀ (_ : Tok) (h' : Heap) (tk' : Nat), Fr h₀ L h' m → News h₀ L h' news → Q (.bool false) { s with heap := h', toks := tk' }) :
  wpAny (model PySem.Challenge.rw_ez0426_02.row.prog w) A (call (.ref 50) [.int a ta, .int b tb, .none]) Q E s := by
  refine v_iin B F X N T hA hf hke hroom ?_
  by_cases hv : 0 ≤ a ∧ a < b
  · have e : (decide (0 ≤ a) && decide (a < b)) = true := by simpa using hv
    rw [e]; exact ht ⟨hv⟩
  · have e : (decide (0 ≤ a) && decide (a < b)) = false := by
      rw [← Bool.not_eq_true]
      simpa using hv
    rw [e]; exact hn ⟨hv⟩

theorem v2_iii {w : World} {mean : ExcName → Option Value} {mg mb : Str → Option Value} {env : Env} {outer : List Env} {A₀ A : Around} {base h₀ : Heap} {L : Addr} {m : Str → Option Value} {news : List (Addr × Obj)} {s : Shared} {Q E : Value → Shared → Prop}
  (B : Below A₀ base outer h₀) (F : Fr h₀ L s.heap m) (X : (hd.heap_39 w.params).In h₀) (N : News h₀ L s.heap news) (T : Top hd.view_39 (looseW hd.view_39 [Str.ofString "_plain_int_re", Str.ofString "ContentRange", Str.ofString "parse_range_header"]) mean mg mb h₀)
  (hA : A.frames = some (env :: outer)) (hf : env.frame = some L) (hke : env.scope.kind = .function) (hroom : A.depth < recursionLimit)
  {a b c : Int} {ta tb tc : Tok}
  (ht : Says (a < b ∧ 0 ≤ a ∧ a < c) → ∀ (_ : Tok) (h' : Heap) (tk' : Nat), Fr h₀ L h' m → News h₀ L h' news → Q (.bool true) { s with heap := h', toks := tk' })
  (hn : Says (¬ (a < b ∧ 0 ≤ a ∧ a < c)) → ∀ (_ : Tok) (h' : Heap) (tk' : Nat), Fr h₀ L h' m → News h₀ L h' news → Q (.bool false) { s with heap := h', toks := tk' }) :
  wpAny (model PySem.Challenge.rw_ez0426_02.row.prog w) A (call (.ref 50) [.int a ta, .int b tb, .int c tc]) Q E s := by
  refine v_iii B F X N T hA hf hke hroom ?_
  by_cases hv : a < b ∧ 0 ≤ a ∧ a < c
  · have e : (decide (a < b) && (decide (0 ≤ a) && decide (a < c))) = true := by simpa using hv
    rw [e]; exact ht ⟨hv⟩
  · have e : (decide (a < b) && (decide (0 ≤ a) && decide (a < c))) = false := by
      rw [← Bool.not_eq_true]
      simpa using hv
    rw [e]; exact hn ⟨hv⟩
end PartV2
end Mine

namespace Mine
section PartC3

abbrev crD (w : World) (t1 t2 t3 t4 : Tok) (vu va vb vl : Value) : Obj := dictOf [⟨PyData.keyHash w.params (Str.ofString "_units"), .str (Str.ofString "_units") t1, vu⟩, ⟨PyData.keyHash w.params (Str.ofString "_start"), .str (Str.ofString "_start") t2, va⟩, ⟨PyData.keyHash w.params (Str.ofString "_stop"), .str (Str.ofString "_stop") t3, vb⟩, ⟨PyData.keyHash w.params (Str.ofString "_length"), .str (Str.ofString "_length") t4, vl⟩] 4

local macro_rules | `(tactic| k_room) => `(tactic| ((try simp only [depth_mark, depth_under_make, depth_under_kw, depth_in1, depth_deeper, depth_caller]); (try dsimp only [ktrTop]); (refine Nat.lt_of_lt_of_le ?_ (show 900 ≤ recursionLimit by decide)); omega))
local macro_rules | `(tactic| walk_at "eval Call") => `(tactic| (k_here; k_dflt ((with_reducible show wpAny _ _ (eval (Expr.Call (Expr.Name ("is_byte_range_valid" : Str) _) _ _ _) _) _ _ _); refine Call_Name rfl ?_)))
local macro_rules | `(tactic| walk_at "call ref") => `(tactic| (k_here; k_dflt ((show wpAny _ _ (call (Value.ref 50) [_, _, _]) _ _ _); refine' v_true ?k1 ?k2 ?k3 ?k4 ?k5 ?kA ?kF ?kK ?kr (by assumption) ?_; (case k1 => k_asm); (case k2 => k_asm); (case k3 => k_asm); (case k4 => k_asm); (case k5 => k_asm); (case kA => exact rfl); (case kF => exact rfl); (case kK => exact rfl); (case kr => k_room);  k_whole); intro _ h' tk' F' N'))

theorem c_new {w : World} {mean : ExcName → Option Value} {mg mb : Str → Option Value} {dp un : Nat} {gd : Option (List Code)} {cn : Str} {cs : Scope} {fa : Addr} {ccd : Value} {cl : List (Str × Addr)} {outer : List Env} {A₀ : Around} {base h₀ : Heap} {L : Addr} {m : Str → Option Value} {news : List (Addr × Obj)} {s : Shared} {Q E : Value → Shared → Prop}
  (B : Below A₀ base outer h₀) (F : Fr h₀ L s.heap m) (X : (hd.heap_39 w.params).In h₀) (N : News h₀ L s.heap news) (T : Top hd.view_39 (looseW hd.view_39 [Str.ofString "_plain_int_re", Str.ofString "ContentRange", Str.ofString "parse_range_header"]) mean mg mb h₀)
  (hk : cs.kind = .function) (hdp : dp ≤ 500) (hun : un ≤ 1000)
  {vu va vb vl : Value} (hv : ValidV va vb vl)
  (hret : ∀ (x d : Addr) (t1 t2 t3 t4 : Tok) (h' : Heap) (tk' : Nat), Fr h₀ L h' m → News h₀ L h' ((x, instObj 199 d) :: (d, crD w t1 t2 t3 t4 vu va vb vl) :: news) → (∀ p ∈ news, p.1 < d) → d < x → Q (.ref x) { s with heap := h', toks := tk' }) :
  wpAny (model PySem.Challenge.rw_ez0426_02.row.prog w) (ktrTop dp un gd cn cs L fa ccd cl outer) (call (.ref 199) [vu, va, vb, vl]) Q E s := by
  w_on
  revert X; k_fill; intro X
  obtain ⟨ki, nm, ig, ic, mo⟩ := cs; dsimp only at hk; subst hk
  k_steps
  all_goals exact hret _ _ _ _ _ _ _ _ (by k_asm) (by k_asm) (by assumption) (by assumption)
end PartC3
end Mine

namespace Mine
section PartC4

local macro_rules | `(tactic| k_room) => `(tactic| ((try simp only [depth_mark, depth_under_make, depth_under_kw, depth_in1, depth_deeper, depth_caller]); (try dsimp only [ktrTop]); (refine Nat.lt_of_lt_of_le ?_ (show 900 ≤ recursionLimit by decide)); omega))

local macro_rules | `(tactic| walk_at "formatField int") => `(tactic| (k_here; k_dflt ((show wpAny _ _ (formatField (Value.int _ _) Str.empty) _ _ _); (refine my_field (by first | exact Bnd.txb (by assumption) | exact Bnd.succ_pred (by assumption) | exact Bnd.succ (by assumption) | exact Bnd.pred (by assumption) | assumption | (constructor <;> omega)) ?_); intro _ _ ln')))
local macro_rules | `(tactic| walk_at "call type:str") => `(tactic| (k_here; k_dflt ((show wpAny _ _ (call (Value.type "str") [Value.int _ _]) _ _ _); (refine my_str (by first | exact Bnd.txb (by assumption) | exact Bnd.succ_pred (by assumption) | exact Bnd.succ (by assumption) | exact Bnd.pred (by assumption) | assumption | (constructor <;> omega)) ?_); intro _ _ ln')))
local macro_rules | `(tactic| kt_len) => `(tactic| assumption)
local macro_rules | `(tactic| kt_len) => `(tactic| ((with_reducible refine' le_app ?kta ?ktb); (case kta => kt_len); (case ktb => kt_len)))

theorem h_nn {w : World} {mean : ExcName → Option Value} {mg mb : Str → Option Value} {dp un : Nat} {gd : Option (List Code)} {cn : Str} {cs : Scope} {fa : Addr} {ccd : Value} {cl : List (Str × Addr)} {outer : List Env} {A₀ : Around} {base h₀ : Heap} {L : Addr} {m : Str → Option Value} {news : List (Addr × Obj)} {s : Shared} {Q E : Value → Shared → Prop}
  (B : Below A₀ base outer h₀) (F : Fr h₀ L s.heap m) (X : (hd.heap_39 w.params).In h₀) (N : News h₀ L s.heap news) (T : Top hd.view_39 (looseW hd.view_39 [Str.ofString "_plain_int_re", Str.ofString "ContentRange", Str.ofString "parse_range_header"]) mean mg mb h₀)
  (hk : cs.kind = .function) (hdp : dp ≤ 500) (hun : un ≤ 1000)
  {x d : Addr} {t1 t2 t3 t4 tu : Tok} {u : Str}  (hx : (x, instObj 199 d) ∈ news) (hd9 : (d, crD w t1 t2 t3 t4 (.str u tu) .none .none .none) ∈ news) (hu : u.length ≤ 100) 
  (hret : ∀ (t' : Tok) (h' : Heap) (tk' : Nat), Fr h₀ L h' m → News h₀ L h' news → Q (.str (Str.empty ++ u ++ Str.ofString " */" ++ Str.ofString "*") t') { s with heap := h', toks := tk' }) :
  wpAny (model PySem.Challenge.rw_ez0426_02.row.prog w) (ktrTop dp un gd cn cs L fa ccd cl outer) (call (.ref 175) [.ref x]) Q E s := by
  w_on
  revert X; k_fill; intro X
  obtain ⟨ki, nm, ig, ic, mo⟩ := cs; dsimp only at hk; subst hk
  k_steps
  all_goals (refine hret _ _ _ (by k_asm) (by k_asm))


theorem h_ni {w : World} {mean : ExcName → Option Value} {mg mb : Str → Option Value} {dp un : Nat} {gd : Option (List Code)} {cn : Str} {cs : Scope} {fa : Addr} {ccd : Value} {cl : List (Str × Addr)} {outer : List Env} {A₀ : Around} {base h₀ : Heap} {L : Addr} {m : Str → Option Value} {news : List (Addr × Obj)} {s : Shared} {Q E : Value → Shared → Prop}
  (B : Below A₀ base outer h₀) (F : Fr h₀ L s.heap m) (X : (hd.heap_39 w.params).In h₀) (N : News h₀ L s.heap news) (T : Top hd.view_39 (looseW hd.view_39 [Str.ofString "_plain_int_re", Str.ofString "ContentRange", Str.ofString "parse_range_header"]) mean mg mb h₀)
  (hk : cs.kind = .function) (hdp : dp ≤ 500) (hun : un ≤ 1000)
  {x d : Addr} {t1 t2 t3 t4 tu : Tok} {u : Str} {c : Int} {tc : Tok} (hx : (x, instObj 199 d) ∈ news) (hd9 : (d, crD w t1 t2 t3 t4 (.str u tu) .none .none (.int c tc)) ∈ news) (hu : u.length ≤ 100) (hc : Txb c)
  (hret : ∀ (t' : Tok) (h' : Heap) (tk' : Nat), Fr h₀ L h' m → News h₀ L h' news → Q (.str (Str.empty ++ u ++ Str.ofString " */" ++ num c) t') { s with heap := h', toks := tk' }) :
  wpAny (model PySem.Challenge.rw_ez0426_02.row.prog w) (ktrTop dp un gd cn cs L fa ccd cl outer) (call (.ref 175) [.ref x]) Q E s := by
  w_on
  revert X; k_fill; intro X
  obtain ⟨ki, nm, ig, ic, mo⟩ := cs; dsimp only at hk; subst hk
  k_steps
  all_goals (refine hret _ _ _ (by k_asm) (by k_asm))


theorem h_in {w : World} {mean : ExcName → Option Value} {mg mb : Str → Option Value} {dp un : Nat} {gd : Option (List Code)} {cn : Str} {cs : Scope} {fa : Addr} {ccd : Value} {cl : List (Str × Addr)} {outer : List Env} {A₀ : Around} {base h₀ : Heap} {L : Addr} {m : Str → Option Value} {news : List (Addr × Obj)} {s : Shared} {Q E : Value → Shared → Prop}
  (B : Below A₀ base outer h₀) (F : Fr h₀ L s.heap m) (X : (hd.heap_39 w.params).In h₀) (N : News h₀ L s.heap news) (T : Top hd.view_39 (looseW hd.view_39 [Str.ofString "_plain_int_re", Str.ofString "ContentRange", Str.ofString "parse_range_header"]) mean mg mb h₀)
  (hk : cs.kind = .function) (hdp : dp ≤ 500) (hun : un ≤ 1000)
  {x d : Addr} {t1 t2 t3 t4 tu : Tok} {u : Str} {a b : Int} {ta tb : Tok} (hx : (x, instObj 199 d) ∈ news) (hd9 : (d, crD w t1 t2 t3 t4 (.str u tu) (.int a ta) (.int b tb) .none) ∈ news) (hu : u.length ≤ 100) (ha : Txb a) (hb : Txb (b - 1))
  (hret : ∀ (t' : Tok) (h' : Heap) (tk' : Nat), Fr h₀ L h' m → News h₀ L h' news → Q (.str (Str.empty ++ u ++ Str.ofString " " ++ num a ++ Str.ofString "-" ++ num (b - 1) ++ Str.ofString "/" ++ Str.ofString "*") t') { s with heap := h', toks := tk' }) :
  wpAny (model PySem.Challenge.rw_ez0426_02.row.prog w) (ktrTop dp un gd cn cs L fa ccd cl outer) (call (.ref 175) [.ref x]) Q E s := by
  w_on
  revert X; k_fill; intro X
  obtain ⟨ki, nm, ig, ic, mo⟩ := cs; dsimp only at hk; subst hk
  k_steps
  all_goals (refine hret _ _ _ (by k_asm) (by k_asm))


theorem h_ii {w : World} {mean : ExcName → Option Value} {mg mb : Str → Option Value} {dp un : Nat} {gd : Option (List Code)} {cn : Str} {cs : Scope} {fa : Addr} {ccd : Value} {cl : List (Str × Addr)} {outer : List Env} {A₀ : Around} {base h₀ : Heap} {L : Addr} {m : Str → Option Value} {news : List (Addr × Obj)} {s : Shared} {Q E : Value → Shared → Prop}
  (B : Below A₀ base outer h₀) (F : Fr h₀ L s.heap m) (X : (hd.heap_39 w.params).In h₀) (N : News h₀ L s.heap news) (T : Top hd.view_39 (looseW hd.view_39 [Str.ofString "_plain_int_re", Str.ofString "ContentRange", Str.ofString "parse_range_header"]) mean mg mb h₀)
  (hk : cs.kind = .function) (hdp : dp ≤ 500) (hun : un ≤ 1000)
  {x d : Addr} {t1 t2 t3 t4 tu : Tok} {u : Str} {a b c : Int} {ta tb tc : Tok} (hx : (x, instObj 199 d) ∈ news) (hd9 : (d, crD w t1 t2 t3 t4 (.str u tu) (.int a ta) (.int b tb) (.int c tc)) ∈ news) (hu : u.length ≤ 100) (ha : Txb a) (hb : Txb (b - 1)) (hc : Txb c)
  (hret : ∀ (t' : Tok) (h' : Heap) (tk' : Nat), Fr h₀ L h' m → News h₀ L h' news → Q (.str (Str.empty ++ u ++ Str.ofString " " ++ num a ++ Str.ofString "-" ++ num (b - 1) ++ Str.ofString "/" ++ num c) t') { s with heap := h', toks := tk' }) :
  wpAny (model PySem.Challenge.rw_ez0426_02.row.prog w) (ktrTop dp un gd cn cs L fa ccd cl outer) (call (.ref 175) [.ref x]) Q E s := by
  w_on
  revert X; k_fill; intro X
  obtain ⟨ki, nm, ig, ic, mo⟩ := cs; dsimp only at hk; subst hk
  k_steps
  all_goals (refine hret _ _ _ (by k_asm) (by k_asm))

end PartC4
end Mine

namespace Mine
section PartW5

theorem in_of_fr {K : Frag} {h₀ h : Heap} {L : Addr} {m : Str → Option Value} (F : Fr h₀ L h m) (X : K.In h₀) : K.In h := X.keeps F.keep
local macro_rules | `(tactic| k_in) => `(tactic| first | with_reducible assumption | exact in_of_fr (by with_reducible assumption) (by with_reducible assumption))

theorem isPat_of {w : World} {h : Heap} (X : (hd.heap_39 w.params).In h) : IsPat h 36 35 := by
  refine ⟨⟨_, _, X 36 _ rfl, rfl, rfl, rfl, rfl, rfl, rfl⟩, _, _, _, X 35 _ rfl, rfl, by kernel_rfl⟩

local macro_rules | `(tactic| walk_at "getMethod ref") => `(tactic| (k_here; (with_reducible show wpAny _ _ (getMethod (Value.ref _) (Str.ofString "fullmatch") _) _ _ _); refine gm_full (isPat_of (by k_in)) ?_))
local macro_rules | `(tactic| walk_at "call builtin:re.Pattern.fullmatch") => `(tactic| (k_here; k_dflt ((show wpAny _ _ (call (Value.builtin "re.Pattern.fullmatch") [Value.ref _, Value.str _ _]) _ _ _); (refine my_full (isPat_of (by k_in)) (by k_asm) (by k_asm) (by assumption) (fun hp => ?_) (fun n hp hb D h' F' N' => ?_)))))
local macro_rules | `(tactic| walk_at "call builtin:str.strip") => `(tactic| (k_here; k_dflt ((show wpAny _ _ (call (Value.builtin "str.strip") [Value.str _ _, Value.str _ _]) _ _ _); (refine my_strip (by assumption) ?_); intro z' _ _ hz' lz')))
local macro_rules | `(tactic| walk_at "exec Raise some none") => `(tactic| (k_here; (with_reducible show wpAny _ _ (exec (Stmt.Raise (some (Expr.Name ("ValueError" : Str) _)) none _) _) _ _ _); (with_reducible rename Fr _ _ _ _ => kF); k_dflt (refine' Raise_classB ?hh excClass_ValueError ?hs ?hx ?_; (case hh => rfl); (case hs => (rw [isSubtype_type]; kernel_rfl)); (case hx => (refine' name_B kF ?k1 ?k2 ?k3 ?k4 ?k5 ?_; (case k1 => k_asm); (case k2 => k_asm); (case k3 => k_is); (case k4 => boot_by_name); (case k5 => decide); exact ⟨rfl, rfl⟩)); intro h' e' x')))
local macro_rules | `(tactic| walk_at "call builtin:str.partition") => `(tactic| (k_here; k_dflt ((show wpAny _ _ (call (Value.builtin "str.partition") [Value.str _ _, Value.str _ _]) _ _ _); (refine my_part (by assumption) (by k_asm) (by k_asm) (by decide) ?_); intro p' q' r' hp' lp' lr' D' _ _ _ _ _ F' N' l1); (try k_lt l1)))

local macro_rules | `(tactic| walk_at "call type:int") => `(tactic| (k_here; k_dflt ((show wpAny _ _ (call (Value.type "int") [Value.str _ _]) _ _ _); (refine my_int (by assumption) (by assumption) ?_); intro _ _)))
local macro_rules | `(tactic| walk_at "compareOp Eq str str") => `(tactic| (k_here; k_dflt (refine my_eq ?_ ?_); all_goals intro hc'))
local macro_rules | `(tactic| walk_at "compareOp NotEq str str") => `(tactic| (k_here; k_dflt (refine my_ne ?_ ?_); all_goals intro hc'))
local macro_rules | `(tactic| walk_at "compareOp In str str") => `(tactic| (k_here; k_dflt (refine my_in ?_ ?_); all_goals intro hc'))
local macro_rules | `(tactic| walk_at "compareOp NotIn str str") => `(tactic| (k_here; k_dflt (refine my_notIn ?_ ?_); all_goals intro hc'))

local macro_rules | `(tactic| walk_at "formatField int") => `(tactic| (k_here; k_dflt ((show wpAny _ _ (formatField (Value.int _ _) Str.empty) _ _ _); (refine my_field (by first | exact Bnd.txb (by assumption) | exact Bnd.succ_pred (by assumption) | exact Bnd.succ (by assumption) | exact Bnd.pred (by assumption) | assumption | (constructor <;> omega)) ?_); intro _ _ ln')))
local macro_rules | `(tactic| walk_at "call type:str") => `(tactic| (k_here; k_dflt ((show wpAny _ _ (call (Value.type "str") [Value.int _ _]) _ _ _); (refine my_str (by first | exact Bnd.txb (by assumption) | exact Bnd.succ_pred (by assumption) | exact Bnd.succ (by assumption) | exact Bnd.pred (by assumption) | assumption | (constructor <;> omega)) ?_); intro _ _ ln')))
local macro_rules | `(tactic| kt_len) => `(tactic| assumption)
local macro_rules | `(tactic| kt_len) => `(tactic| ((with_reducible refine' le_app ?kta ?ktb); (case kta => kt_len); (case ktb => kt_len)))

local macro_rules | `(tactic| walk_at "truthy str") => `(tactic| (k_here; k_dflt ((refine my_truthy2 (by assumption) ?_ ?_); all_goals intro ht' _)))
local macro_rules | `(tactic| walk_at "truthy str") => `(tactic| (k_here; k_dflt ((refine my_truthy1 (by assumption) (by assumption) ?_); intro _)))
local macro_rules | `(tactic| walk_at "eval Call") => `(tactic| (k_here; k_dflt ((with_reducible show wpAny _ _ (eval (Expr.Call (Expr.Name ("is_byte_range_valid" : Str) _) _ _ _) _) _ _ _); refine Call_Name rfl ?_)))
local macro_rules | `(tactic| walk_at "call ref") => `(tactic| (k_here; k_dflt ((show wpAny _ _ (call (Value.ref 50) [Value.none, Value.none, Value.none]) _ _ _); refine' v_nnn ?k1 ?k2 ?k3 ?k4 ?k5 ?kA ?kF ?kK ?kr  ?_; (case k1 => k_asm); (case k2 => k_asm); (case k3 => k_asm); (case k4 => k_asm); (case k5 => k_asm); (case kA => exact rfl); (case kF => exact rfl); (case kK => exact rfl); (case kr => k_room);  k_whole); intro _ h' tk' F' N'))
local macro_rules | `(tactic| walk_at "call ref") => `(tactic| (k_here; k_dflt ((show wpAny _ _ (call (Value.ref 50) [Value.none, Value.none, Value.int _ _]) _ _ _); refine' v2_nni ?k1 ?k2 ?k3 ?k4 ?k5 ?kA ?kF ?kK ?kr ?_ ?_; (case k1 => k_asm); (case k2 => k_asm); (case k3 => k_asm); (case k4 => k_asm); (case k5 => k_asm); (case kA => exact rfl); (case kF => exact rfl); (case kK => exact rfl); (case kr => k_room);  k_whole); all_goals intro hv' _ h' tk' F' N'))
local macro_rules | `(tactic| walk_at "call ref") => `(tactic| (k_here; k_dflt ((show wpAny _ _ (call (Value.ref 50) [Value.int _ _, Value.int _ _, Value.none]) _ _ _); refine' v2_iin ?k1 ?k2 ?k3 ?k4 ?k5 ?kA ?kF ?kK ?kr ?_ ?_; (case k1 => k_asm); (case k2 => k_asm); (case k3 => k_asm); (case k4 => k_asm); (case k5 => k_asm); (case kA => exact rfl); (case kF => exact rfl); (case kK => exact rfl); (case kr => k_room);  k_whole); all_goals intro hv' _ h' tk' F' N'))
local macro_rules | `(tactic| walk_at "call ref") => `(tactic| (k_here; k_dflt ((show wpAny _ _ (call (Value.ref 50) [Value.int _ _, Value.int _ _, Value.int _ _]) _ _ _); refine' v2_iii ?k1 ?k2 ?k3 ?k4 ?k5 ?kA ?kF ?kK ?kr ?_ ?_; (case k1 => k_asm); (case k2 => k_asm); (case k3 => k_asm); (case k4 => k_asm); (case k5 => k_asm); (case kA => exact rfl); (case kF => exact rfl); (case kK => exact rfl); (case kr => k_room);  k_whole); all_goals intro hv' _ h' tk' F' N'))
local macro_rules | `(tactic| walk_at "call ref") => `(tactic| (k_here; k_dflt ((show wpAny _ _ (call (Value.ref 199) [_, _, _, _]) _ _ _); refine' c_new ?k1 ?k2 ?k3 ?k4 ?k5 ?kK ?kd ?ku ?hv ?_; (case k1 => k_asm); (case k2 => k_asm); (case k3 => k_asm); (case k4 => k_asm); (case k5 => k_asm); (case kK => exact rfl); (case kd => ((try simp only [depth_mark, depth_under_make, depth_under_kw, depth_in1, depth_deeper, depth_caller]); first | decide | ((try dsimp only [ktrTop]); omega))); (case ku => ((try simp only [units_in1, units_deeper, Around.mark_units, units_caller]); first | decide | ((try dsimp only [ktrTop]); omega))); (case hv => first | exact ValidV.nnn | exact ValidV.nni _ _ (by ((with_reducible rename Says _ => hv9); have hv8 := hv9.out; omega)) | exact ValidV.iin _ _ _ _ (by ((with_reducible rename Says _ => hv9); have hv8 := hv9.out; omega)) (by ((with_reducible rename Says _ => hv9); have hv8 := hv9.out; omega)) | exact ValidV.iii _ _ _ _ _ _ (by ((with_reducible rename Says _ => hv9); have hv8 := hv9.out; omega)) (by ((with_reducible rename Says _ => hv9); have hv8 := hv9.out; omega)) (by ((with_reducible rename Says _ => hv9); have hv8 := hv9.out; omega))); k_whole); intro x' d' _ _ _ _ h' tk' F' N' l1 l2; (try k_lt l1); (try k_lt2 l2)))
local macro_rules | `(tactic| walk_at "call ref") => `(tactic| (k_here; k_dflt ((show wpAny _ _ (call (Value.ref 175) [_]) _ _ _); refine' h_nn ?k1 ?k2 ?k3 ?k4 ?k5 ?kK ?kd ?ku ?ha ?hb ?hc ?_; (case k1 => k_asm); (case k2 => k_asm); (case k3 => k_asm); (case k4 => k_asm); (case k5 => k_asm); (case kK => exact rfl); (case kd => ((try simp only [depth_mark, depth_under_make, depth_under_kw, depth_in1, depth_deeper, depth_caller]); first | decide | ((try dsimp only [ktrTop]); omega))); (case ku => ((try simp only [units_in1, units_deeper, Around.mark_units, units_caller]); first | decide | ((try dsimp only [ktrTop]); omega))); (case ha => k_mem); (case hb => k_mem); (case hc => assumption);  k_whole); intro _ h' tk' F' N'))
local macro_rules | `(tactic| walk_at "call ref") => `(tactic| (k_here; k_dflt ((show wpAny _ _ (call (Value.ref 175) [_]) _ _ _); refine' h_ni ?k1 ?k2 ?k3 ?k4 ?k5 ?kK ?kd ?ku ?ha ?hb ?hc ?hy0 ?_; (case k1 => k_asm); (case k2 => k_asm); (case k3 => k_asm); (case k4 => k_asm); (case k5 => k_asm); (case kK => exact rfl); (case kd => ((try simp only [depth_mark, depth_under_make, depth_under_kw, depth_in1, depth_deeper, depth_caller]); first | decide | ((try dsimp only [ktrTop]); omega))); (case ku => ((try simp only [units_in1, units_deeper, Around.mark_units, units_caller]); first | decide | ((try dsimp only [ktrTop]); omega))); (case ha => k_mem); (case hb => k_mem); (case hc => assumption); (case hy0 => first | exact Bnd.txb (by assumption) | exact Bnd.succ_pred (by assumption) | exact Bnd.pred (by assumption) | assumption); k_whole); intro _ h' tk' F' N'))
local macro_rules | `(tactic| walk_at "call ref") => `(tactic| (k_here; k_dflt ((show wpAny _ _ (call (Value.ref 175) [_]) _ _ _); refine' h_in ?k1 ?k2 ?k3 ?k4 ?k5 ?kK ?kd ?ku ?ha ?hb ?hc ?hy0 ?hy1 ?_; (case k1 => k_asm); (case k2 => k_asm); (case k3 => k_asm); (case k4 => k_asm); (case k5 => k_asm); (case kK => exact rfl); (case kd => ((try simp only [depth_mark, depth_under_make, depth_under_kw, depth_in1, depth_deeper, depth_caller]); first | decide | ((try dsimp only [ktrTop]); omega))); (case ku => ((try simp only [units_in1, units_deeper, Around.mark_units, units_caller]); first | decide | ((try dsimp only [ktrTop]); omega))); (case ha => k_mem); (case hb => k_mem); (case hc => assumption); (case hy0 => first | exact Bnd.txb (by assumption) | exact Bnd.succ_pred (by assumption) | exact Bnd.pred (by assumption) | assumption); (case hy1 => first | exact Bnd.txb (by assumption) | exact Bnd.succ_pred (by assumption) | exact Bnd.pred (by assumption) | assumption); k_whole); intro _ h' tk' F' N'))
local macro_rules | `(tactic| walk_at "call ref") => `(tactic| (k_here; k_dflt ((show wpAny _ _ (call (Value.ref 175) [_]) _ _ _); refine' h_ii ?k1 ?k2 ?k3 ?k4 ?k5 ?kK ?kd ?ku ?ha ?hb ?hc ?hy0 ?hy1 ?hy2 ?_; (case k1 => k_asm); (case k2 => k_asm); (case k3 => k_asm); (case k4 => k_asm); (case k5 => k_asm); (case kK => exact rfl); (case kd => ((try simp only [depth_mark, depth_under_make, depth_under_kw, depth_in1, depth_deeper, depth_caller]); first | decide | ((try dsimp only [ktrTop]); omega))); (case ku => ((try simp only [units_in1, units_deeper, Around.mark_units, units_caller]); first | decide | ((try dsimp only [ktrTop]); omega))); (case ha => k_mem); (case hb => k_mem); (case hc => assumption); (case hy0 => first | exact Bnd.txb (by assumption) | exact Bnd.succ_pred (by assumption) | exact Bnd.pred (by assumption) | assumption); (case hy1 => first | exact Bnd.txb (by assumption) | exact Bnd.succ_pred (by assumption) | exact Bnd.pred (by assumption) | assumption); (case hy2 => first | exact Bnd.txb (by assumption) | exact Bnd.succ_pred (by assumption) | exact Bnd.pred (by assumption) | assumption); k_whole); intro _ h' tk' F' N'))
local macro_rules | `(tactic| walk_at "callWith ref") => `(tactic| (k_here; k_dflt ((show wpAny _ _ (callWith _ (Value.ref 175) [Value.ref _] _ _) _ _ _); (refine' callWith_M0 ?k1 ?k2 ?_; (case k1 => k_meth); (case k2 => k_is); k_whole; try dsimp only [List.nil_append, List.cons_append]))))
local macro_rules | `(tactic| walk_at "call ref") => `(tactic| (k_here; k_dflt ((show wpAny _ _ (call (Value.ref 249) [_]) _ _ _); (refine wpAny_call ?_); kts_go; (rename Fr _ _ _ _ => kF9); (replace kF9 : Fr _ _ _ (fun y => List.lookup y [(Str.ofString "text", _)]) := kF9))))
local macro_rules | `(tactic| walk_at "call ref") => `(tactic| (k_here; k_dflt ((show wpAny _ _ (call (Value.ref 218) [_]) _ _ _); (refine wpAny_call ?_); kts_go; (rename Fr _ _ _ _ => kF9); (replace kF9 : Fr _ _ _ (fun y => List.lookup y [(Str.ofString "value", _)]) := kF9))))
local macro_rules | `(tactic| walk_at "call ref") => `(tactic| (k_here; k_dflt ((show wpAny _ _ (call (Value.ref 43) [_]) _ _ _); (refine wpAny_call ?_); k_enter; (rename Fr _ _ _ _ => kF9); (replace kF9 : Fr _ _ _ (fun y => List.lookup y [(Str.ofString "value", _)]) := kF9))))

theorem c_told {w : World} {mean : ExcName → Option Value} {mg mb : Str → Option Value} {cn : Str} {cs : Scope} {fa : Addr} {ccd : Value} {h₀ : Heap} {L : Addr} {m : Str → Option Value} {news : List (Addr × Obj)} {s : Shared} {Q E : Value → Shared → Prop}
  (B : Below callerA h₀ [] h₀) (F : Fr h₀ L s.heap m) (X : (hd.heap_39 w.params).In h₀) (N : News h₀ L s.heap news) (T : Top hd.view_39 (looseW hd.view_39 [Str.ofString "_plain_int_re", Str.ofString "ContentRange", Str.ofString "parse_range_header"]) mean mg mb h₀) (hk : cs.kind = .function)
  {x : Str} {t : Tok} (hx : x.length ≤ 100) (hx0 : x.length ≠ 0)
  (hret : ∀ (v : Value) (h' : Heap) (tk' : Nat), Says (TxtV (toldS x) v) → Fr h₀ L h' m → News h₀ L h' news → Q v { s with heap := h', toks := tk' }) :
  wpAny (model PySem.Challenge.rw_ez0426_02.row.prog w) (callerA.deeper (envOf cn cs L fa ccd)) (call (.ref 249) [.str x t]) Q E s := by
  w_on
  revert X; k_fill; intro X
  obtain ⟨ki, nm, ig, ic, mo⟩ := cs; dsimp only at hk; subst hk
  k_steps
  all_goals (simp only [says_iff] at *)
  all_goals (refine hret _ _ _ ?_ (by k_asm) (by first | k_asm | exact cb_drop (by with_reducible assumption) (by intro p9 h9; repeat first | exact h9 | refine List.mem_cons_of_mem _ ?_)))
  all_goals (first | refine TxtV.no ?_ | refine TxtV.yes ?_)
  all_goals first | (simp [toldS, pcr, pcrOf, plain, hdr, *]; done) | (simp [toldS, pcr, pcrOf, plain, hdr, *]; intros; omega)
end PartW5
end Mine

namespace Mine
section PartN6

local macro_rules | `(tactic| k_in) => `(tactic| first | with_reducible assumption | exact in_of_fr (by with_reducible assumption) (by with_reducible assumption))

local macro_rules | `(tactic| k_room) => `(tactic| ((try simp only [depth_mark, depth_under_make, depth_under_kw, depth_in1, depth_deeper, depth_caller]); (try dsimp only [ktrTop]); (refine Nat.lt_of_lt_of_le ?_ (show 900 ≤ recursionLimit by decide)); omega))

local macro_rules | `(tactic| walk_at "subscriptTail") => `(tactic| (k_here; (with_reducible show wpAny _ _ (subscriptTail _ _ (Value.ref _) (Value.int _ _)) _ _ _); k_dflt ((refine' my_int_item ?N ?l ?I ?a ?b ?z ?hb ?_ ?s; (case N => with_reducible assumption); (case l => k_mem); (case I => assumption); (case a => (first | omega | exact Int.fmod_nonneg (by omega) (by omega) | exact Int.fmod_lt_of_pos _ (by omega))); (case b => (first | omega | exact Int.fmod_nonneg (by omega) (by omega) | exact Int.fmod_lt_of_pos _ (by omega))); (case z => omega); (case hb => assumption); (case s => with_unfolding_all rfl); k_whole); intro i9 t9 hl9 hh9)))
local macro_rules | `(tactic| walk_at "subscriptTail") => `(tactic| (k_here; (with_reducible show wpAny _ _ (subscriptTail _ _ (Value.ref _) (Value.int 0 _)) _ _ _); k_dflt ((refine' my_st0 ?N ?l ?_ ?s; (case N => with_reducible assumption); (case l => ktr_member); (case s => with_unfolding_all rfl); k_whole))))
local macro_rules | `(tactic| walk_at "subscriptTail") => `(tactic| (k_here; (with_reducible show wpAny _ _ (subscriptTail _ _ (Value.ref _) (Value.int 1 _)) _ _ _); k_dflt ((refine' my_st1 ?N ?l ?_ ?s; (case N => with_reducible assumption); (case l => ktr_member); (case s => with_unfolding_all rfl); k_whole))))
local macro_rules | `(tactic| walk_at "call builtin:len") => `(tactic| (k_here; (with_reducible show wpAny _ _ (call (Value.builtin "len") [Value.ref _]) _ _ _); k_dflt ((refine' my_len ?N ?l ?z ?_; (case N => with_reducible assumption); (case l => k_mem); (case z => omega)); intro _ _)))
local macro_rules | `(tactic| walk_at "binaryOp FloorDiv int int") => `(tactic| (k_here; k_dflt ((refine my_fdiv (by omega) (by omega) (by omega) ?_); intro _ _ _ lo9 hi9)))
local macro_rules | `(tactic| walk_at "binaryOp Mod int int") => `(tactic| (k_here; k_dflt ((refine my_mod (by omega) ?_); intro _ _ _ lo9 hi9)))
local macro_rules | `(tactic| walk_at "setItem ref int") => `(tactic| (k_here; (with_reducible show wpAny _ _ (setItem (Value.ref _) (Value.int 1 _) (Value.int _ _)) _ _ _); k_dflt ( (refine' my_set1 ?F ?N ?U ?m ?n ?_; (case F => with_reducible assumption); (case U => assumption); (case N => first | with_reducible assumption | exact cb_drop (by with_reducible assumption) (by intro p9 h9; repeat first | exact h9 | refine List.mem_cons_of_mem _ ?_)); (case m => ktr_member); (case n => assumption); k_whole); intro h' F' N' M')))

theorem c_next {w : World} {mean : ExcName → Option Value} {mg mb : Str → Option Value} {dp un : Nat} {gd : Option (List Code)} {cn : Str} {cs : Scope} {fa : Addr} {ccd : Value} {cl : List (Str × Addr)} {outer : List Env} {A₀ : Around} {base h₀ : Heap} {L : Addr} {m : Str → Option Value} {news : List (Addr × Obj)} {s : Shared} {Q E : Value → Shared → Prop}
  (B : Below A₀ base outer h₀) (F : Fr h₀ L s.heap m) (X : (hd.heap_39 w.params).In h₀) (N : News h₀ L s.heap news) (T : Top hd.view_39 (looseW hd.view_39 [Str.ofString "_plain_int_re", Str.ofString "ContentRange", Str.ofString "parse_range_header"]) mean mg mb h₀)
  (hk : cs.kind = .function) (hdp : dp ≤ 500) (hun : un ≤ 1000)
  {S nb : Addr} {k many : Int} {t tm : Tok} {its : Array Value} {c : Nat} {ns : List Int} {g : Obj → List (Addr × Obj)}
  (hS : (S, stO nb k t) ∈ news) (hnb : (nb, listOf its c) ∈ news) (hU : UpdF S (stO nb k t) news g) (hne : nb ≠ S) (hI : IntsAre its.toList ns) (hlen : 1 ≤ its.size ∧ its.size ≤ 100) (hns : ∀ v ∈ ns, 0 ≤ v ∧ v < 1000003)
  (hk0 : 0 ≤ k) (hk1 : k ≤ 1000) (hm : 0 < many) (hm1 : many ≤ 1000)
  (hret : ∀ (r : Int) (t1 t2 : Tok) (h' : Heap) (tk' : Nat), 0 ≤ r → r < many → Fr h₀ L h' m → News h₀ L h' (g (stO nb (k + 1) t2)) → Q (.int r t1) { s with heap := h', toks := tk' }) :
  wpAny (model PySem.Challenge.rw_ez0426_02.row.prog w) (ktrTop dp un gd cn cs L fa ccd cl outer) (call (.ref 225) [.ref S, .int many tm]) Q E s := by
  w_on
  revert X; k_fill; intro X
  obtain ⟨ki, nm, ig, ic, mo⟩ := cs; dsimp only at hk; subst hk
  k_steps
  all_goals exact hret _ _ _ _ _ (by assumption) (by assumption) (by k_asm) (by k_asm)
end PartN6
end Mine

namespace Mine
section PartT7

local macro_rules | `(tactic| k_room) => `(tactic| ((try simp only [depth_mark, depth_under_make, depth_under_kw, depth_in1, depth_deeper, depth_caller]); (try dsimp only [ktrTop]); (refine Nat.lt_of_lt_of_le ?_ (show 900 ≤ recursionLimit by decide)); omega))
local macro_rules | `(tactic| walk_at "call ref") => `(tactic| (k_here; (with_reducible show wpAny _ _ (call (Value.ref 225) [Value.ref _, Value.int _ _]) _ _ _); k_dflt ((refine' c_next ?k1 ?k2 ?k3 ?k4 ?k5 ?kK ?kd ?ku ?hS ?hnb ?hU ?hne ?hI ?hl ?hv ?h0 ?h1 ?hm ?hm1 ?_; (case k1 => k_asm); (case k2 => k_asm); (case k3 => k_asm); (case k4 => with_reducible assumption); (case k5 => k_asm); (case kK => exact rfl); (case kd => ((try simp only [depth_mark, depth_under_make, depth_under_kw, depth_in1, depth_deeper, depth_caller]); first | decide | ((try dsimp only [ktrTop]); omega))); (case ku => ((try simp only [units_in1, units_deeper, Around.mark_units, units_caller]); first | decide | ((try dsimp only [ktrTop]); omega))); (case hS => (first | assumption | exact updF_self (by assumption) | exact updF_mem (by assumption) (by assumption) (by assumption) | (refine List.mem_cons_of_mem _ ?_; (first | assumption | exact updF_self (by assumption) | exact updF_mem (by assumption) (by assumption) (by assumption) | (refine List.mem_cons_of_mem _ ?_; (first | assumption | exact updF_self (by assumption) | exact updF_mem (by assumption) (by assumption) (by assumption) | (refine List.mem_cons_of_mem _ ?_; (first | assumption | exact updF_self (by assumption) | exact updF_mem (by assumption) (by assumption) (by assumption) | (refine List.mem_cons_of_mem _ ?_; (first | assumption | exact updF_self (by assumption) | exact updF_mem (by assumption) (by assumption) (by assumption) | (refine List.mem_cons_of_mem _ ?_; (first | assumption | exact updF_self (by assumption) | exact updF_mem (by assumption) (by assumption) (by assumption) | (refine List.mem_cons_of_mem _ ?_; (first | assumption | exact updF_self (by assumption) | exact updF_mem (by assumption) (by assumption) (by assumption) | (refine List.mem_cons_of_mem _ ?_; (first | assumption | exact updF_self (by assumption) | exact updF_mem (by assumption) (by assumption) (by assumption) | (refine List.mem_cons_of_mem _ ?_; (first | assumption | exact updF_self (by assumption) | exact updF_mem (by assumption) (by assumption) (by assumption) | (refine List.mem_cons_of_mem _ ?_; (first | assumption | exact updF_self (by assumption) | exact updF_mem (by assumption) (by assumption) (by assumption))))))))))))))))))))); (case hnb => (first | assumption | exact updF_self (by assumption) | exact updF_mem (by assumption) (by assumption) (by assumption) | (refine List.mem_cons_of_mem _ ?_; (first | assumption | exact updF_self (by assumption) | exact updF_mem (by assumption) (by assumption) (by assumption) | (refine List.mem_cons_of_mem _ ?_; (first | assumption | exact updF_self (by assumption) | exact updF_mem (by assumption) (by assumption) (by assumption) | (refine List.mem_cons_of_mem _ ?_; (first | assumption | exact updF_self (by assumption) | exact updF_mem (by assumption) (by assumption) (by assumption) | (refine List.mem_cons_of_mem _ ?_; (first | assumption | exact updF_self (by assumption) | exact updF_mem (by assumption) (by assumption) (by assumption) | (refine List.mem_cons_of_mem _ ?_; (first | assumption | exact updF_self (by assumption) | exact updF_mem (by assumption) (by assumption) (by assumption) | (refine List.mem_cons_of_mem _ ?_; (first | assumption | exact updF_self (by assumption) | exact updF_mem (by assumption) (by assumption) (by assumption) | (refine List.mem_cons_of_mem _ ?_; (first | assumption | exact updF_self (by assumption) | exact updF_mem (by assumption) (by assumption) (by assumption) | (refine List.mem_cons_of_mem _ ?_; (first | assumption | exact updF_self (by assumption) | exact updF_mem (by assumption) (by assumption) (by assumption) | (refine List.mem_cons_of_mem _ ?_; (first | assumption | exact updF_self (by assumption) | exact updF_mem (by assumption) (by assumption) (by assumption))))))))))))))))))))); (case hU => (first | assumption | exact updF_again (by assumption) | (refine' UpdF.tail ?ua9 ?ub9; (case ua9 => exact Nat.ne_of_gt (by assumption)); (case ub9 => (first | assumption | exact updF_again (by assumption) | (refine' UpdF.tail ?ua8 ?ub8; (case ua8 => exact Nat.ne_of_gt (by assumption)); (case ub8 => (first | assumption | exact updF_again (by assumption) | (refine' UpdF.tail ?ua7 ?ub7; (case ua7 => exact Nat.ne_of_gt (by assumption)); (case ub7 => (first | assumption | exact updF_again (by assumption) | (refine' UpdF.tail ?ua6 ?ub6; (case ua6 => exact Nat.ne_of_gt (by assumption)); (case ub6 => (first | assumption | exact updF_again (by assumption) | (refine' UpdF.tail ?ua5 ?ub5; (case ua5 => exact Nat.ne_of_gt (by assumption)); (case ub5 => (first | assumption | exact updF_again (by assumption) | (refine' UpdF.tail ?ua4 ?ub4; (case ua4 => exact Nat.ne_of_gt (by assumption)); (case ub4 => (first | assumption | exact updF_again (by assumption) | (refine' UpdF.tail ?ua3 ?ub3; (case ua3 => exact Nat.ne_of_gt (by assumption)); (case ub3 => (first | assumption | exact updF_again (by assumption) | (refine' UpdF.tail ?ua2 ?ub2; (case ua2 => exact Nat.ne_of_gt (by assumption)); (case ub2 => (first | assumption | exact updF_again (by assumption) | (refine' UpdF.tail ?ua1 ?ub1; (case ua1 => exact Nat.ne_of_gt (by assumption)); (case ub1 => (first | assumption | exact updF_again (by assumption)))))))))))))))))))))))))))))); (case hne => assumption); (case hI => assumption); (case hl => assumption); (case hv => assumption); (case h0 => omega); (case h1 => omega); (case hm => decide); (case hm1 => decide); k_whole); intro r9 _ t9 h' tk' lo9 hi9 F' N'); (try dsimp only at N')))

local macro_rules | `(tactic| walk_at "subscriptTail") => `(tactic| (k_here; (with_reducible show wpAny _ _ (subscriptTail _ _ (Value.ref _) (Value.int _ _)) _ _ _); k_dflt (first | (refine' my_str_item (lo := 1) (hi := 3) ?N ?l ?a ?b ?z ?hb ?_ ?s; (case N => with_reducible assumption); (case l => k_mem); (case a => omega); (case b => first | decide | (show _ < (_ : Int); simp; omega)); (case z => exact Nat.le_of_ble_eq_true rfl); (case hb => refine StrsB.all ?_; repeat (first | exact StrsB.nil | refine StrsB.cons (by first | with_reducible assumption | decide | omega) (by first | with_reducible assumption | decide | omega) (by first | with_reducible assumption | exact ⟨by decide +kernel⟩ | (refine NB.app ?_ ?_ <;> first | with_reducible assumption | exact ⟨by decide +kernel⟩)) ?_)); (case s => with_unfolding_all rfl); k_whole; intro y9 t9 lo9 hi9 nb9) | (refine' my_str_item (lo := 1) (hi := 12) ?N ?l ?a ?b ?z ?hb ?_ ?s; (case N => with_reducible assumption); (case l => k_mem); (case a => omega); (case b => first | decide | (show _ < (_ : Int); simp; omega)); (case z => exact Nat.le_of_ble_eq_true rfl); (case hb => refine StrsB.all ?_; repeat (first | exact StrsB.nil | refine StrsB.cons (by first | with_reducible assumption | decide | omega) (by first | with_reducible assumption | decide | omega) (by first | with_reducible assumption | exact ⟨by decide +kernel⟩ | (refine NB.app ?_ ?_ <;> first | with_reducible assumption | exact ⟨by decide +kernel⟩)) ?_)); (case s => with_unfolding_all rfl); k_whole; intro y9 t9 lo9 hi9 nb9) | (refine' my_str_item (lo := 0) (hi := 1) ?N ?l ?a ?b ?z ?hb ?_ ?s; (case N => with_reducible assumption); (case l => k_mem); (case a => omega); (case b => first | decide | (show _ < (_ : Int); simp; omega)); (case z => exact Nat.le_of_ble_eq_true rfl); (case hb => refine StrsB.all ?_; repeat (first | exact StrsB.nil | refine StrsB.cons (by first | with_reducible assumption | decide | omega) (by first | with_reducible assumption | decide | omega) (by first | with_reducible assumption | exact ⟨by decide +kernel⟩ | (refine NB.app ?_ ?_ <;> first | with_reducible assumption | exact ⟨by decide +kernel⟩)) ?_)); (case s => with_unfolding_all rfl); k_whole; intro y9 t9 lo9 hi9 nb9) | (refine' my_str_item (lo := 0) (hi := 7) ?N ?l ?a ?b ?z ?hb ?_ ?s; (case N => with_reducible assumption); (case l => k_mem); (case a => omega); (case b => first | decide | (show _ < (_ : Int); simp; omega)); (case z => exact Nat.le_of_ble_eq_true rfl); (case hb => refine StrsB.all ?_; repeat (first | exact StrsB.nil | refine StrsB.cons (by first | with_reducible assumption | decide | omega) (by first | with_reducible assumption | decide | omega) (by first | with_reducible assumption | exact ⟨by decide +kernel⟩ | (refine NB.app ?_ ?_ <;> first | with_reducible assumption | exact ⟨by decide +kernel⟩)) ?_)); (case s => with_unfolding_all rfl); k_whole; intro y9 t9 lo9 hi9 nb9))))
local macro_rules | `(tactic| walk_at "subscriptTail") => `(tactic| (k_here; (with_reducible show wpAny _ _ (subscriptTail _ _ (Value.ref _) (Value.int _ _)) _ _ _); k_dflt (first | (refine' my_int_menu (lo := 0) (hi := 5) ?N ?l ?a ?b ?z ?hb ?_ ?s; (case N => with_reducible assumption); (case l => k_mem); (case a => omega); (case b => first | decide | (show _ < (_ : Int); simp; omega)); (case z => exact Nat.le_of_ble_eq_true rfl); (case hb => repeat (first | exact IntsB.nil | refine IntsB.cons (by decide) (by decide) ?_)); (case s => with_unfolding_all rfl); k_whole; intro i9 t9 lo9 hi9) | (refine' my_int_menu (lo := 0) (hi := 6) ?N ?l ?a ?b ?z ?hb ?_ ?s; (case N => with_reducible assumption); (case l => k_mem); (case a => omega); (case b => first | decide | (show _ < (_ : Int); simp; omega)); (case z => exact Nat.le_of_ble_eq_true rfl); (case hb => repeat (first | exact IntsB.nil | refine IntsB.cons (by decide) (by decide) ?_)); (case s => with_unfolding_all rfl); k_whole; intro i9 t9 lo9 hi9) | (refine' my_int_menu (lo := 0) (hi := 7) ?N ?l ?a ?b ?z ?hb ?_ ?s; (case N => with_reducible assumption); (case l => k_mem); (case a => omega); (case b => first | decide | (show _ < (_ : Int); simp; omega)); (case z => exact Nat.le_of_ble_eq_true rfl); (case hb => repeat (first | exact IntsB.nil | refine IntsB.cons (by decide) (by decide) ?_)); (case s => with_unfolding_all rfl); k_whole; intro i9 t9 lo9 hi9))))
local macro_rules | `(tactic| walk_at "newList") => `(tactic| (k_here; k_dflt ((refine' my_newlist (S := ?S9) ?F ?N ?l ?z ?_; (case F => with_reducible assumption); (case N => with_reducible assumption); (case l => (first | assumption | exact updF_self (by assumption) | (refine List.mem_cons_of_mem _ ?_; (first | assumption | exact updF_self (by assumption) | (refine List.mem_cons_of_mem _ ?_; (first | assumption | exact updF_self (by assumption) | (refine List.mem_cons_of_mem _ ?_; (first | assumption | exact updF_self (by assumption) | (refine List.mem_cons_of_mem _ ?_; (first | assumption | exact updF_self (by assumption) | (refine List.mem_cons_of_mem _ ?_; (first | assumption | exact updF_self (by assumption) | (refine List.mem_cons_of_mem _ ?_; (first | assumption | exact updF_self (by assumption) | (refine List.mem_cons_of_mem _ ?_; (first | assumption | exact updF_self (by assumption) | (refine List.mem_cons_of_mem _ ?_; (first | assumption | exact updF_self (by assumption) | (refine List.mem_cons_of_mem _ ?_; (first | assumption | exact updF_self (by assumption))))))))))))))))))))); (case z => exact Nat.le_of_ble_eq_true rfl); k_whole); intro D' h' sl' F' N')))
local macro_rules | `(tactic| walk_at "binaryOp Add str str") => `(tactic| (k_here; k_dflt ((refine' my_addB ?a ?b ?c ?na ?nb ?_; (case a => (first | with_reducible assumption | exact (show PySem.Str.length _ ≤ 0 by decide) | exact (show PySem.Str.length _ ≤ 1 by decide) | exact (show PySem.Str.length _ ≤ 2 by decide) | exact (show PySem.Str.length _ ≤ 3 by decide) | exact (show PySem.Str.length _ ≤ 4 by decide) | exact (show PySem.Str.length _ ≤ 5 by decide) | exact (show PySem.Str.length _ ≤ 6 by decide) | exact (show PySem.Str.length _ ≤ 7 by decide) | exact (show PySem.Str.length _ ≤ 8 by decide))); (case b => (first | with_reducible assumption | exact (show PySem.Str.length _ ≤ 0 by decide) | exact (show PySem.Str.length _ ≤ 1 by decide) | exact (show PySem.Str.length _ ≤ 2 by decide) | exact (show PySem.Str.length _ ≤ 3 by decide) | exact (show PySem.Str.length _ ≤ 4 by decide) | exact (show PySem.Str.length _ ≤ 5 by decide) | exact (show PySem.Str.length _ ≤ 6 by decide) | exact (show PySem.Str.length _ ≤ 7 by decide) | exact (show PySem.Str.length _ ≤ 8 by decide))); (case c => decide); (case na => (first | with_reducible assumption | exact ⟨by decide +kernel⟩ | (refine NB.app ?_ ?_ <;> first | with_reducible assumption | exact ⟨by decide +kernel⟩))); (case nb => (first | with_reducible assumption | exact ⟨by decide +kernel⟩ | (refine NB.app ?_ ?_ <;> first | with_reducible assumption | exact ⟨by decide +kernel⟩))); k_whole); intro z9 _ _ la9 lb9 lc9 nb9)))
local macro_rules | `(tactic| walk_at "call type:str") => `(tactic| (k_here; (with_reducible show wpAny _ _ (call (Value.type "str") [Value.int _ _]) _ _ _); k_dflt ((refine my_strn (by omega) (by omega) ?_); intro z9 _ _ lo9 hi9 nb9)))

theorem c_text {w : World} {mean : ExcName → Option Value} {mg mb : Str → Option Value} {dp un : Nat} {gd : Option (List Code)} {cn : Str} {cs : Scope} {fa : Addr} {ccd : Value} {cl : List (Str × Addr)} {outer : List Env} {A₀ : Around} {base h₀ : Heap} {L : Addr} {m : Str → Option Value} {news : List (Addr × Obj)} {s : Shared} {Q E : Value → Shared → Prop}
  (B : Below A₀ base outer h₀) (F : Fr h₀ L s.heap m) (X : (hd.heap_39 w.params).In h₀) (N : News h₀ L s.heap news) (T : Top hd.view_39 (looseW hd.view_39 [Str.ofString "_plain_int_re", Str.ofString "ContentRange", Str.ofString "parse_range_header"]) mean mg mb h₀)
  (hk : cs.kind = .function) (hdp : dp ≤ 400) (hun : un ≤ 900)
  {S nb : Addr} {k : Int} {t : Tok} {its : Array Value} {c : Nat} {ns : List Int} {g : Obj → List (Addr × Obj)}
  (hS : (S, stO nb k t) ∈ news) (hnb : (nb, listOf its c) ∈ news) (hU : UpdF S (stO nb k t) news g) (hne : nb ≠ S) (hI : IntsAre its.toList ns) (hlen : 1 ≤ its.size ∧ its.size ≤ 100) (hns : ∀ v ∈ ns, 0 ≤ v ∧ v < 1000003)
  (hk0 : 0 ≤ k) (hk1 : k ≤ 900)
  (hret : ∀ (x : Str) (t1 t2 : Tok) (h' : Heap) (tk' : Nat), 1 ≤ x.length → x.length ≤ 23 → NB x → Fr h₀ L h' m → News h₀ L h' (g (stO nb (k + 1 + 1 + 1 + 1 + 1 + 1 + 1) t2)) → Q (.str x t1) { s with heap := h', toks := tk' }) :
  wpAny (model PySem.Challenge.rw_ez0426_02.row.prog w) (ktrTop dp un gd cn cs L fa ccd cl outer) (call (.ref 256) [.ref S]) Q E s := by
  w_on
  revert X; k_fill; intro X
  obtain ⟨ki, nm, ig, ic, mo⟩ := cs; dsimp only at hk; subst hk
  k_steps
  all_goals exact hret _ _ _ _ _ (by omega) (by omega) (by with_reducible assumption) (by k_asm) (by first | k_asm | exact cb_drop (by with_reducible assumption) (by intro p9 h9; repeat first | exact h9 | refine List.mem_cons_of_mem _ ?_))
end PartT7
end Mine

namespace Mine
section PartL8

local macro_rules | `(tactic| k_in) => `(tactic| first | with_reducible assumption | exact in_of_fr (by with_reducible assumption) (by with_reducible assumption))

local macro_rules | `(tactic| k_room) => `(tactic| ((try simp only [depth_mark, depth_under_make, depth_under_kw, depth_in1, depth_deeper, depth_caller]); (try dsimp only [ktrTop]); (refine Nat.lt_of_lt_of_le ?_ (show 900 ≤ recursionLimit by decide)); omega))

local macro_rules | `(tactic| walk_at "getMethod ref") => `(tactic| (k_here; (with_reducible show wpAny _ _ (getMethod (Value.ref _) (Str.ofString "fullmatch") _) _ _ _); refine gm_full (isPat_of (by k_in)) ?_))
local macro_rules | `(tactic| walk_at "call builtin:re.Pattern.fullmatch") => `(tactic| (k_here; k_dflt ((show wpAny _ _ (call (Value.builtin "re.Pattern.fullmatch") [Value.ref _, Value.str _ _]) _ _ _); (refine my_full (isPat_of (by k_in)) (by k_asm) (by k_asm) (by assumption) (fun hp => ?_) (fun n hp hb D h' F' N' => ?_)))))
local macro_rules | `(tactic| walk_at "call builtin:str.strip") => `(tactic| (k_here; k_dflt ((show wpAny _ _ (call (Value.builtin "str.strip") [Value.str _ _, Value.str _ _]) _ _ _); (refine my_strip (by assumption) ?_); intro z' _ _ hz' lz')))
local macro_rules | `(tactic| walk_at "exec Raise some none") => `(tactic| (k_here; (with_reducible show wpAny _ _ (exec (Stmt.Raise (some (Expr.Name ("ValueError" : Str) _)) none _) _) _ _ _); (with_reducible rename Fr _ _ _ _ => kF); k_dflt (refine' Raise_classB ?hh excClass_ValueError ?hs ?hx ?_; (case hh => rfl); (case hs => (rw [isSubtype_type]; kernel_rfl)); (case hx => (refine' name_B kF ?k1 ?k2 ?k3 ?k4 ?k5 ?_; (case k1 => k_asm); (case k2 => k_asm); (case k3 => k_is); (case k4 => boot_by_name); (case k5 => decide); exact ⟨rfl, rfl⟩)); intro h' e' x')))
local macro_rules | `(tactic| walk_at "call builtin:str.partition") => `(tactic| (k_here; k_dflt ((show wpAny _ _ (call (Value.builtin "str.partition") [Value.str _ _, Value.str _ _]) _ _ _); (refine my_part (by assumption) (by k_asm) (by k_asm) (by decide) ?_); intro p' q' r' hp' lp' lr' D' _ _ _ _ _ F' N' l1); (try k_lt l1)))

local macro_rules | `(tactic| walk_at "call type:int") => `(tactic| (k_here; k_dflt ((show wpAny _ _ (call (Value.type "int") [Value.str _ _]) _ _ _); (refine my_int (by assumption) (by assumption) ?_); intro _ _)))
local macro_rules | `(tactic| walk_at "compareOp Eq str str") => `(tactic| (k_here; k_dflt (refine my_eq ?_ ?_); all_goals intro hc'))
local macro_rules | `(tactic| walk_at "compareOp NotEq str str") => `(tactic| (k_here; k_dflt (refine my_ne ?_ ?_); all_goals intro hc'))

local macro_rules | `(tactic| walk_at "formatField int") => `(tactic| (k_here; k_dflt ((show wpAny _ _ (formatField (Value.int _ _) Str.empty) _ _ _); (refine my_field (by first | exact Bnd.txb (by assumption) | exact Bnd.succ_pred (by assumption) | exact Bnd.succ (by assumption) | exact Bnd.pred (by assumption) | assumption | (constructor <;> omega)) ?_); intro _ _ ln')))
local macro_rules | `(tactic| walk_at "call type:str") => `(tactic| (k_here; k_dflt ((show wpAny _ _ (call (Value.type "str") [Value.int _ _]) _ _ _); (refine my_str (by first | exact Bnd.txb (by assumption) | exact Bnd.succ_pred (by assumption) | exact Bnd.succ (by assumption) | exact Bnd.pred (by assumption) | assumption | (constructor <;> omega)) ?_); intro _ _ ln')))
local macro_rules | `(tactic| kt_len) => `(tactic| assumption)
local macro_rules | `(tactic| kt_len) => `(tactic| ((with_reducible refine' le_app ?kta ?ktb); (case kta => kt_len); (case ktb => kt_len)))

local macro_rules | `(tactic| walk_at "truthy ref") => `(tactic| (k_here; k_dflt ((refine' my_truthy_list (l := ?_) ?hl ?hc ?hb ?_ ?_); (case hl => assumption); (case hc => assumption); (case hb => (first | exact flt_len _ _ (by assumption) | exact flt_len _ _ (Nat.le_trans (Txt.slice_le _ _ _) (by assumption)))); all_goals intro hl9 _)))

theorem c_num {w : World} {mean : ExcName → Option Value} {mg mb : Str → Option Value} {dp un : Nat} {gd : Option (List Code)} {cn : Str} {cs : Scope} {fa : Addr} {ccd : Value} {cl : List (Str × Addr)} {outer : List Env} {A₀ : Around} {base h₀ : Heap} {L : Addr} {m : Str → Option Value} {news : List (Addr × Obj)} {s : Shared} {Q E : Value → Shared → Prop}
  (B : Below A₀ base outer h₀) (F : Fr h₀ L s.heap m) (X : (hd.heap_39 w.params).In h₀) (N : News h₀ L s.heap news) (T : Top hd.view_39 (looseW hd.view_39 [Str.ofString "_plain_int_re", Str.ofString "ContentRange", Str.ofString "parse_range_header"]) mean mg mb h₀)
  (hk : cs.kind = .function) (hdp : dp ≤ 400) (hun : un ≤ 900)
  {x : Str} {t : Tok} (hx : x.length ≤ 100)
  (hno : Says (plain x = none) → ∀ (h' : Heap) (tk' : Nat), Fr h₀ L h' m → News h₀ L h' news → Q .none { s with heap := h', toks := tk' })
  (hyes : ∀ (n : Int) (t1 : Tok), Says (plain x = some n) → Bnd n → ∀ (h' : Heap) (tk' : Nat), Fr h₀ L h' m → News h₀ L h' news → Q (.int n t1) { s with heap := h', toks := tk' }) :
  wpAny (model PySem.Challenge.rw_ez0426_02.row.prog w) (ktrTop dp un gd cn cs L fa ccd cl outer) (call (.ref 235) [.str x t]) Q E s := by
  w_on
  revert X; k_fill; intro X
  obtain ⟨ki, nm, ig, ic, mo⟩ := cs; dsimp only at hk; subst hk
  refine wpAny_call ?_
  refine' code_def (binds := [(Str.ofString "text", .str x t)]) B F X N T rfl rfl rfl ?k6 ?k7 ?kr ?k9 ?kB ?_ ?c2 ?c3 ?c4 ?c5
  case k6 => k_is
  case k7 => k_is
  case kr => k_room
  case k9 => exact BindsTo.of_eq rfl
  case kB => exact locs rfl
  case c2 => exact rfl
  case c3 => exact rfl
  case c4 => exact rfl
  case c5 => decide
  intro g' L' h' FG' F' N' B' X' T'
  (try dsimp only [List.reverse, List.reverseAux] at F' ⊢)
  (try k_fold)
  k_steps
  all_goals first
    | exact (sign_no (by assumption) (by assumption) (by assumption)).elim
    | exact (says_no (p := Txt.slice _ none (some 1) = Str.ofString "-") (by assumption) (by assumption)).elim
    | (refine hno (nm_n1 (by assumption) (by assumption) (by assumption)) _ _ (by k_asm) (by first | k_asm | exact cb_drop (by with_reducible assumption) (by intro p9 h9; repeat first | exact h9 | refine List.mem_cons_of_mem _ ?_)))
    | (refine hno (nm_n2 (by assumption) (by assumption) (by assumption)) _ _ (by k_asm) (by first | k_asm | exact cb_drop (by with_reducible assumption) (by intro p9 h9; repeat first | exact h9 | refine List.mem_cons_of_mem _ ?_)))
    | (refine hno (nm_p1 (by assumption) (by assumption) (by assumption)) _ _ (by k_asm) (by first | k_asm | exact cb_drop (by with_reducible assumption) (by intro p9 h9; repeat first | exact h9 | refine List.mem_cons_of_mem _ ?_)))
    | (refine hno (nm_p2 (by assumption) (by assumption) (by assumption)) _ _ (by k_asm) (by first | k_asm | exact cb_drop (by with_reducible assumption) (by intro p9 h9; repeat first | exact h9 | refine List.mem_cons_of_mem _ ?_)))
    | (have e9 := nm_n3 (by assumption) (by assumption) (by assumption) (by assumption) (by assumption); exact hyes _ _ e9.1 e9.2 _ _ (by k_asm) (by first | k_asm | exact cb_drop (by with_reducible assumption) (by intro p9 h9; repeat first | exact h9 | refine List.mem_cons_of_mem _ ?_)))
    | (have e9 := nm_p3 (by assumption) (by assumption) (by assumption) (by assumption) (by assumption); exact hyes _ _ e9.1 e9.2 _ _ (by k_asm) (by first | k_asm | exact cb_drop (by with_reducible assumption) (by intro p9 h9; repeat first | exact h9 | refine List.mem_cons_of_mem _ ?_)))
end PartL8
end Mine

namespace Mine
section PartR9
local macro_rules | `(tactic| k_in) => `(tactic| first | with_reducible assumption | exact in_of_fr (by with_reducible assumption) (by with_reducible assumption))

local macro_rules | `(tactic| k_room) => `(tactic| ((try simp only [depth_mark, depth_under_make, depth_under_kw, depth_in1, depth_deeper, depth_caller]); (try dsimp only [ktrTop]); (refine Nat.lt_of_lt_of_le ?_ (show 900 ≤ recursionLimit by decide)); omega))

section
variable {prog : Program} {w : World} {A : Around} {E : Value → Shared → Prop} {s : Shared} {x y : Str} {t u : Tok}
theorem my_ne_t {Q : Value → Shared → Prop} (h : Says (x ≠ y)) (hq : Q (.bool true) s) : wpAny (model prog w) A (compareOp .NotEq (.str x t) (.str y u)) Q E s :=
  my_ne (fun _ => hq) fun q => absurd q.out h.out
theorem my_ne_f {Q : Value → Shared → Prop} (h : Says (x = y)) (hq : Q (.bool false) s) : wpAny (model prog w) A (compareOp .NotEq (.str x t) (.str y u)) Q E s :=
  my_ne (fun q => absurd h.out q.out) fun _ => hq
theorem has_of {a b y : Str} (h : Says (a = b)) (h2 : Says (has a y = true)) : Says (has b y = true) := ⟨h.out ▸ h2.out⟩
theorem gen_pos {α : Type} {M : Model} {A : Around} {c : Sem α} {Q : α → Shared → Prop} {E : Value → Shared → Prop} {h gs d o} {k : Nat} (hh : ∀ tk, 0 < tk → wpAny M A c Q E (Shared.mk h gs d tk o)) : wpAny M A c Q E (Shared.mk h gs d (k + 1) o) := hh _ (Nat.succ_pos _)
theorem lead_ne {a b : Int} : (Str.ofString "{}" == (num a ++ Str.ofString "-" ++ num b)) = false := by
  rw [beq_eq_false_iff_ne]
  intro e
  have e2 := congrArg Str.length e
  rw [Str.length_append, Str.length_append] at e2
  have h1 := num_pos a
  have h2 := num_pos b
  have q : (Str.ofString "-").length = 1 := by decide +kernel
  have q2 : (Str.ofString "{}").length = 2 := by decide +kernel
  omega
theorem len_num3 {a b : Int} (ha : Bnd a) (hb : Bnd b) : (num a ++ Str.ofString "-" ++ num b).length ≤ 300 := by
  rw [Str.length_append, Str.length_append]
  have h1 := len_num ha.txb
  have h2 := len_num hb.txb
  have q : (Str.ofString "-").length = 1 := by decide +kernel
  omega
theorem NB.star : NB (Str.ofString "*") := ⟨by decide +kernel⟩
theorem len_star : (Str.ofString "*").length ≤ 111 := by decide +kernel
theorem len_star' : (Str.ofString "*").length ≤ 300 := by decide +kernel
theorem star_ne : (Str.ofString "{}" == Str.ofString "*") = false := by decide +kernel
theorem app_pos {a b : Str} (h : a.length ≠ 0) : (a ++ b).length ≠ 0 := by rw [Str.length_append]; omega
theorem len_num' {n : Int} (h : Bnd n) : (num n).length ≤ 1000 := Nat.le_trans (len_num h.txb) (by decide)
theorem len_num2 {n : Int} (h : Bnd n) : (num n ++ Str.ofString "-").length ≤ 1000 := by
  rw [Str.length_append]
  have := len_num h.txb
  have q : (Str.ofString "-").length = 1 := by decide +kernel
  omega
end

local macro_rules | `(tactic| walk_at "call builtin:str.strip") => `(tactic| (k_here; k_dflt ((show wpAny _ _ (call (Value.builtin "str.strip") [Value.str _ _, Value.str _ _]) _ _ _); (refine my_stripB (by assumption) (by assumption) ?_); intro z' _ _ hz' lz' nz')))
local macro_rules | `(tactic| walk_at "call builtin:str.index") => `(tactic| (k_here; k_dflt ((show wpAny _ _ (call (Value.builtin "str.index") [Value.str _ _, Value.str _ _]) _ _ _); (refine my_indexS (by assumption) (by first | assumption | exact has_of (by assumption) (by assumption)) (by decide) ?_); intro i9 _ _ hi9 _ _)))
local macro_rules | `(tactic| walk_at "subscriptTail Name Slice str ref") => `(tactic| (k_here; k_dflt ((with_reducible show wpAny _ _ (subscriptTail _ (Expr.Slice none (some _) none _) _ _) _ _ _); (with_reducible rename Fr _ _ _ _ => kF9); (with_reducible rename News _ _ _ _ => kN9); (refine' my_cut_to (s := ⟨_, _, _, _, _⟩) kF9 kN9 ?hx ?hn ?hi ?_ ?hs ?ht); (case hx => assumption); (case hn => assumption); (case hi => assumption); (case hs => with_unfolding_all rfl); (case ht => intro _; with_unfolding_all rfl); intro p' h' _ tk' F' N' hp' lp' np9)))
local macro_rules | `(tactic| walk_at "subscriptTail Name Slice str ref") => `(tactic| (k_here; k_dflt ((with_reducible show wpAny _ _ (subscriptTail _ (Expr.Slice (some _) none none _) _ _) _ _ _); (with_reducible rename Fr _ _ _ _ => kF9); (with_reducible rename News _ _ _ _ => kN9); (refine' my_cut_at (s := ⟨_, _, _, _, _⟩) kF9 kN9 ?hx  ?hi ?_ ?hs ?ht); (case hx => assumption);  (case hi => assumption); (case hs => with_unfolding_all rfl); (case ht => intro _; with_unfolding_all rfl); intro p' h' _ tk' F' N' hp' lp')))
local macro_rules | `(tactic| walk_at "subscriptTail Name Slice str ref") => `(tactic| (k_here; k_dflt ((with_reducible show wpAny _ _ (subscriptTail _ (Expr.Slice (some _) none none _) _ _) _ _ _); (with_reducible rename Fr _ _ _ _ => kF9); (with_reducible rename News _ _ _ _ => kN9); (refine' my_cut_from (s := ⟨_, _, _, _, _⟩) kF9 kN9 ?hx ?hn ?hi ?_ ?hs ?ht); (case hx => assumption); (case hn => assumption); (case hi => assumption); (case hs => with_unfolding_all rfl); (case ht => intro _; with_unfolding_all rfl); intro p' h' _ tk' F' N' hp' lp' np9)))

local macro_rules | `(tactic| walk_at "call type:int") => `(tactic| (k_here; k_dflt ((show wpAny _ _ (call (Value.type "int") [Value.str _ _]) _ _ _); (refine my_int (by assumption) (by assumption) ?_); intro _ _)))
local macro_rules | `(tactic| walk_at "compareOp Eq str str") => `(tactic| (k_here; k_dflt (refine my_eq ?_ ?_); all_goals intro hc'))
local macro_rules | `(tactic| walk_at "compareOp NotEq str str") => `(tactic| (k_here; k_dflt (refine my_ne ?_ ?_); all_goals intro hc'))
local macro_rules | `(tactic| walk_at "compareOp In str str") => `(tactic| (k_here; k_dflt (refine my_in ?_ ?_); all_goals intro hc'))
local macro_rules | `(tactic| walk_at "compareOp NotIn str str") => `(tactic| (k_here; k_dflt (refine my_notIn ?_ ?_); all_goals intro hc'))

local macro_rules | `(tactic| walk_at "compareOp NotIn str str") => `(tactic| (k_here; k_dflt (refine my_notInA (by assumption) (by decide) (by decide) ?_ ?_); all_goals intro hc'))
local macro_rules | `(tactic| walk_at "compareOp NotEq str str") => `(tactic| (k_here; k_dflt (first | refine my_ne_f (by assumption) ?_ | refine my_ne_t (by assumption) ?_)))
local macro_rules | `(tactic| walk_at "call type:str") => `(tactic| (k_here; k_dflt ((show wpAny _ _ (call (Value.type "str") [Value.int _ _]) _ _ _); (refine my_strT (Bnd.txb (by assumption)) ?_); intro ln')))
local macro_rules | `(tactic| walk_at "binaryOp Add str str") => `(tactic| (k_here; k_dflt ((with_reducible show wpAny _ _ (binaryOp _ (Value.str (num _) _) (Value.str (Str.ofString "-") _)) _ _ _); (refine my_addT (num_pos _) (by decide) (len_num' (by assumption)) (by decide) ?_))))
local macro_rules | `(tactic| walk_at "binaryOp Add str str") => `(tactic| (k_here; k_dflt ((with_reducible show wpAny _ _ (binaryOp _ (Value.str (num _ ++ Str.ofString "-") _) (Value.str (num _) _)) _ _ _); (refine my_addT (app_pos (num_pos _)) (num_pos _) (len_num2 (by assumption)) (len_num' (by assumption)) ?_))))

local macro_rules | `(tactic| walk_at "execs cons") => `(tactic| (k_here; (with_reducible refine gen_pos ?_); intro tk9 hpos9))
local macro_rules | `(tactic| walk_at "execs nil") => `(tactic| (k_here; (with_reducible refine gen_pos ?_); intro tk9 hpos9))
local macro_rules | `(tactic| walk_at "call builtin:str.replace") => `(tactic| (k_here; k_dflt ((show wpAny _ _ (call (Value.builtin "str.replace") [Value.str _ _, Value.str (Str.ofString "{}") _, Value.str _ _]) _ _ _); (refine' my_replace ?nu ?nl ?lu ?ll ?lz ?ha ?hb ?hab ?hzb ?_); (case nu => with_reducible assumption); (case nl => first | exact num_NB | exact NB.star); (case lu => with_reducible assumption); (case ll => first | exact len_star | exact len_num (Bnd.txb (by assumption))); (case lz => first | exact len_star' | exact len_num3 (by assumption) (by assumption)); (case ha => (show @Ne Nat _ _); omega); (case hb => (show @Ne Nat _ _); omega); (case hab => (show @Ne Nat _ _); omega); (case hzb => first | exact star_ne | exact lead_ne); intro y9 _ _ hy9)))
local macro_rules | `(tactic| walk_at "call ref") => `(tactic| (k_here; k_dflt ((show wpAny _ _ (call (Value.ref 235) [Value.str _ _]) _ _ _); refine' c_num ?k1 ?k2 ?k3 ?k4 ?k5 ?kK ?kd ?ku ?hx ?_ ?_; (case k1 => k_asm); (case k2 => k_asm); (case k3 => k_asm); (case k4 => k_asm); (case k5 => k_asm); (case kK => exact rfl); (case kd => ((try simp only [depth_mark, depth_under_make, depth_under_kw, depth_in1, depth_deeper, depth_caller]); first | decide | ((try dsimp only [ktrTop]); omega))); (case ku => ((try simp only [units_in1, units_deeper, Around.mark_units, units_caller]); first | decide | ((try dsimp only [ktrTop]); omega))); (case hx => assumption); k_whole); (all_goals first | intro n' t' hp' hb' h' tk' F' N' | intro hp' h' tk' F' N')))

theorem c_read {w : World} {mean : ExcName → Option Value} {mg mb : Str → Option Value} {cn : Str} {cs : Scope} {fa : Addr} {ccd : Value} {h₀ : Heap} {L : Addr} {m : Str → Option Value} {news : List (Addr × Obj)} {s : Shared} {Q E : Value → Shared → Prop}
  (B : Below callerA h₀ [] h₀) (F : Fr h₀ L s.heap m) (X : (hd.heap_39 w.params).In h₀) (N : News h₀ L s.heap news) (T : Top hd.view_39 (looseW hd.view_39 [Str.ofString "_plain_int_re", Str.ofString "ContentRange", Str.ofString "parse_range_header"]) mean mg mb h₀) (hk : cs.kind = .function)
  {x : Str} {t : Tok} (hx : x.length ≤ 100) (hx0 : NB x)
  (hret : ∀ (v : Value) (h' : Heap) (tk' : Nat), Says (TxtV (toldS x) v) → Fr h₀ L h' m → News h₀ L h' news → Q v { s with heap := h', toks := tk' }) :
  wpAny (model PySem.Challenge.rw_ez0426_02.row.prog w) (callerA.deeper (envOf cn cs L fa ccd)) (call (.ref 242) [.str x t]) Q E s := by
  w_on
  revert X; k_fill; intro X
  obtain ⟨ki, nm, ig, ic, mo⟩ := cs; dsimp only at hk; subst hk
  refine wpAny_call ?_
  refine' code_def (binds := [(Str.ofString "text", .str x t)]) B F X N T rfl rfl rfl ?k6 ?k7 ?kr ?k9 ?kB ?_ ?c2 ?c3 ?c4 ?c5
  case k6 => k_is
  case k7 => k_is
  case kr => k_room
  case k9 => exact BindsTo.of_eq rfl
  case kB => exact locs rfl
  case c2 => exact rfl
  case c3 => exact rfl
  case c4 => exact rfl
  case c5 => decide
  intro g' L' h' FG' F' N' B' X' T'
  (try dsimp only [List.reverse, List.reverseAux] at F' ⊢)
  (try k_fold)
  k_steps
  all_goals refine hret _ _ _ ?_ (by k_asm) (by first | k_asm | exact cb_drop (by with_reducible assumption) (by intro p9 h9; repeat first | exact h9 | refine List.mem_cons_of_mem _ ?_))
  all_goals constructor
  all_goals first
    | exact TxtV.no (rd_none1 (by with_reducible assumption) (by with_reducible assumption))
    | exact TxtV.no (rd_none2 (by with_reducible assumption) (by with_reducible assumption))
    | exact TxtV.no (rd_none3 (by with_reducible assumption) (by with_reducible assumption) (by with_reducible assumption) (by with_reducible assumption) (by with_reducible assumption) (by with_reducible assumption) (by with_reducible assumption) (by with_reducible assumption))
    | exact TxtV.yes (told_yes ((rd_s (by with_reducible assumption) (by with_reducible assumption) (by with_reducible assumption) (by with_reducible assumption) (by with_reducible assumption) (by with_reducible assumption) (by with_reducible assumption)).trans (pc_s (by with_reducible assumption))) (hd_s (by with_reducible assumption)))
    | exact TxtV.yes (told_yes ((rd_s (by with_reducible assumption) (by with_reducible assumption) (by with_reducible assumption) (by with_reducible assumption) (by with_reducible assumption) (by with_reducible assumption) (by with_reducible assumption)).trans (pc_y (by with_reducible assumption) (by with_reducible assumption) (by with_reducible assumption) (by with_reducible assumption) (by with_reducible assumption) (by with_reducible assumption) (by with_reducible assumption) (by with_reducible assumption))) (hd_y (by with_reducible assumption)))
    | exact TxtV.no (told_no ((rd_s (by with_reducible assumption) (by with_reducible assumption) (by with_reducible assumption) (by with_reducible assumption) (by with_reducible assumption) (by with_reducible assumption) (by with_reducible assumption)).trans (pc_d (by with_reducible assumption) (by with_reducible assumption))))
    | exact TxtV.no (told_no ((rd_s (by with_reducible assumption) (by with_reducible assumption) (by with_reducible assumption) (by with_reducible assumption) (by with_reducible assumption) (by with_reducible assumption) (by with_reducible assumption)).trans (pc_a (by with_reducible assumption) (by with_reducible assumption) (by with_reducible assumption) (by with_reducible assumption) (by with_reducible assumption))))
    | exact TxtV.no (told_no ((rd_s (by with_reducible assumption) (by with_reducible assumption) (by with_reducible assumption) (by with_reducible assumption) (by with_reducible assumption) (by with_reducible assumption) (by with_reducible assumption)).trans (pc_b (by with_reducible assumption) (by with_reducible assumption) (by with_reducible assumption) (by with_reducible assumption) (by with_reducible assumption))))
    | exact TxtV.no (told_no ((rd_s (by with_reducible assumption) (by with_reducible assumption) (by with_reducible assumption) (by with_reducible assumption) (by with_reducible assumption) (by with_reducible assumption) (by with_reducible assumption)).trans (pc_o (by with_reducible assumption) (by with_reducible assumption) (by with_reducible assumption) (by with_reducible assumption) (by with_reducible assumption) (by with_reducible assumption) (by omega))))
    | exact TxtV.yes (told_yes ((rd_n (by with_reducible assumption) (by with_reducible assumption) (by with_reducible assumption) (by with_reducible assumption) (by with_reducible assumption) (by with_reducible assumption) (by with_reducible assumption) (by with_reducible assumption)).trans (pc_sn (by with_reducible assumption) (by with_reducible assumption))) (hd_sn (by with_reducible assumption)))
    | exact TxtV.yes (told_yes ((rd_n (by with_reducible assumption) (by with_reducible assumption) (by with_reducible assumption) (by with_reducible assumption) (by with_reducible assumption) (by with_reducible assumption) (by with_reducible assumption) (by with_reducible assumption)).trans (pc_yn (by with_reducible assumption) (by with_reducible assumption) (by with_reducible assumption) (by with_reducible assumption) (by with_reducible assumption) (by with_reducible assumption) (by with_reducible assumption) (by with_reducible assumption) (by with_reducible assumption))) (hd_yn (by with_reducible assumption)))
    | exact TxtV.no (told_no ((rd_n (by with_reducible assumption) (by with_reducible assumption) (by with_reducible assumption) (by with_reducible assumption) (by with_reducible assumption) (by with_reducible assumption) (by with_reducible assumption) (by with_reducible assumption)).trans (pc_d (by with_reducible assumption) (by with_reducible assumption))))
    | exact TxtV.no (told_no ((rd_n (by with_reducible assumption) (by with_reducible assumption) (by with_reducible assumption) (by with_reducible assumption) (by with_reducible assumption) (by with_reducible assumption) (by with_reducible assumption) (by with_reducible assumption)).trans (pc_a (by with_reducible assumption) (by with_reducible assumption) (by with_reducible assumption) (by with_reducible assumption) (by with_reducible assumption))))
    | exact TxtV.no (told_no ((rd_n (by with_reducible assumption) (by with_reducible assumption) (by with_reducible assumption) (by with_reducible assumption) (by with_reducible assumption) (by with_reducible assumption) (by with_reducible assumption) (by with_reducible assumption)).trans (pc_b (by with_reducible assumption) (by with_reducible assumption) (by with_reducible assumption) (by with_reducible assumption) (by with_reducible assumption))))
    | exact TxtV.no (told_no ((rd_n (by with_reducible assumption) (by with_reducible assumption) (by with_reducible assumption) (by with_reducible assumption) (by with_reducible assumption) (by with_reducible assumption) (by with_reducible assumption) (by with_reducible assumption)).trans (pc_o (by with_reducible assumption) (by with_reducible assumption) (by with_reducible assumption) (by with_reducible assumption) (by with_reducible assumption) (by with_reducible assumption) (by omega))))
    | exact TxtV.no (told_no ((rd_n (by with_reducible assumption) (by with_reducible assumption) (by with_reducible assumption) (by with_reducible assumption) (by with_reducible assumption) (by with_reducible assumption) (by with_reducible assumption) (by with_reducible assumption)).trans (pc_sx (by with_reducible assumption) (by with_reducible assumption))))
    | exact TxtV.no (told_no ((rd_n (by with_reducible assumption) (by with_reducible assumption) (by with_reducible assumption) (by with_reducible assumption) (by with_reducible assumption) (by with_reducible assumption) (by with_reducible assumption) (by with_reducible assumption)).trans (pc_l (by with_reducible assumption) (by with_reducible assumption) (by with_reducible assumption) (by with_reducible assumption) (by with_reducible assumption) (by with_reducible assumption) (by with_reducible assumption))))
end PartR9
end Mine

namespace Mine
section PartL10
local macro_rules | `(tactic| k_in) => `(tactic| first | with_reducible assumption | exact in_of_fr (by with_reducible assumption) (by with_reducible assumption))

local macro_rules | `(tactic| k_room) => `(tactic| ((try simp only [depth_mark, depth_under_make, depth_under_kw, depth_in1, depth_deeper, depth_caller]); (try dsimp only [ktrTop]); (refine Nat.lt_of_lt_of_le ?_ (show 900 ≤ recursionLimit by decide)); omega))

theorem isPat_of9 {w : World} {h : Heap} (X : (hd.heap_39 w.params).In h) : IsPat h 36 35 := by
  refine ⟨⟨_, _, X 36 _ rfl, rfl, rfl, rfl, rfl, rfl, rfl⟩, _, _, _, X 35 _ rfl, rfl, by kernel_rfl⟩

local macro_rules | `(tactic| walk_at "getMethod ref") => `(tactic| (k_here; (with_reducible show wpAny _ _ (getMethod (Value.ref _) (Str.ofString "fullmatch") _) _ _ _); refine gm_full (isPat_of9 (by k_in)) ?_))
local macro_rules | `(tactic| walk_at "call builtin:re.Pattern.fullmatch") => `(tactic| (k_here; k_dflt ((show wpAny _ _ (call (Value.builtin "re.Pattern.fullmatch") [Value.ref _, Value.str _ _]) _ _ _); (refine kf_full (isPat_of9 (by k_in)) (by k_asm) (by k_asm) (by assumption) (by with_reducible assumption) (fun D h' F' N' => ?_)))))
local macro_rules | `(tactic| walk_at "call builtin:str.strip") => `(tactic| (k_here; k_dflt ((show wpAny _ _ (call (Value.builtin "str.strip") [Value.str _ _, Value.str _ _]) _ _ _); (refine kf_strip (by with_reducible assumption) (by assumption) ?_); intro _ _)))
local macro_rules | `(tactic| walk_at "call builtin:str.lower") => `(tactic| (k_here; k_dflt ((show wpAny _ _ (call (Value.builtin "str.lower") [Value.str _ _]) _ _ _); (refine kf_lower (by with_reducible assumption) (by first | assumption | decide) ?_); intro _ _)))
local macro_rules | `(tactic| walk_at "call builtin:str.startswith") => `(tactic| (k_here; k_dflt ((show wpAny _ _ (call (Value.builtin "str.startswith") [Value.str _ _, Value.str _ _]) _ _ _); (refine kf_starts (by with_reducible assumption) ?_))))
local macro_rules | `(tactic| walk_at "call builtin:str.partition") => `(tactic| (k_here; k_dflt ((show wpAny _ _ (call (Value.builtin "str.partition") [Value.str _ _, Value.str _ _]) _ _ _); (refine kf_part (by with_reducible assumption) (by assumption) (by k_asm) (by k_asm) (by decide) ?_); intro D' _ _ _ _ _ F' N' l1); (try k_lt l1)))
local macro_rules | `(tactic| walk_at "call builtin:str.split") => `(tactic| (k_here; k_dflt ((show wpAny _ _ (call (Value.builtin "str.split") [Value.str _ _, Value.str _ _]) _ _ _); (refine kf_split1 (by with_reducible assumption) (by assumption) (by k_asm) (by k_asm) (by decide) ?_); intro D' _ _ _ F' N' l1); (try k_lt l1)))
local macro_rules | `(tactic| walk_at "compareOp In str str") => `(tactic| (k_here; k_dflt (refine kf_in (by with_reducible assumption) ?_)))
local macro_rules | `(tactic| walk_at "compareOp NotIn str str") => `(tactic| (k_here; k_dflt (refine kf_notIn (by with_reducible assumption) ?_)))
local macro_rules | `(tactic| walk_at "truthy str") => `(tactic| (k_here; k_dflt ((refine my_truthy1 (by assumption) (by assumption) ?_); intro _)))
local macro_rules | `(tactic| walk_at "call type:int") => `(tactic| (k_here; k_dflt ((show wpAny _ _ (call (Value.type "int") [Value.str _ _]) _ _ _); (refine my_int (by assumption) (by with_reducible assumption) ?_); intro _ _)))

theorem state_len {ws : List Value} {w : List Int} {f : Int → Int} (h : IntsAre ws (List.map f (List.take 24 w) ++ [5, 0, 11])) : 1 ≤ ws.toArray.size ∧ ws.toArray.size ≤ 100 := by
  have e : ∀ {vs : List Value} {ns : List Int}, IntsAre vs ns → vs.length = ns.length := by
    intro vs ns h
    induction h with
    | nil => rfl
    | cons i t _ ih => simp [ih]
  have q := e h
  rw [List.length_append, List.length_map, List.length_take] at q
  simp at q
  rw [List.size_toArray]
  omega
theorem state_ns {w : List Int} : ∀ v ∈ List.map (fun k' => (if k' < 0 then -k' else k').fmod 1000003) (List.take 24 w) ++ [5, 0, 11], 0 ≤ v ∧ v < 1000003 := by
  intro v hv
  rcases List.mem_append.mp hv with h | h
  · obtain ⟨k, _, rfl⟩ := List.mem_map.mp h
    exact ⟨Int.fmod_nonneg (by split <;> omega) (by omega), Int.fmod_lt_of_pos _ (by omega)⟩
  · simp at h
    omega
structure TurnEnd (s : Shared) (h₀ : Heap) (L : Addr) (m : Str → Option Value) (news : List (Addr × Obj)) (b : Bool) (s' : Shared) : Prop where
  no : b = false
  out : ∃ h' k, s' = { s with heap := h', toks := k } ∧ Fr h₀ L h' m ∧ News h₀ L h' news
theorem v_iii_no {w : World} {mean : ExcName → Option Value} {mg mb : Str → Option Value} {env : Env} {outer : List Env} {A₀ A : Around} {base h₀ : Heap} {L : Addr} {m : Str → Option Value} {news : List (Addr × Obj)} {s : Shared} {Q E : Value → Shared → Prop}
  (B : Below A₀ base outer h₀) (F : Fr h₀ L s.heap m) (X : (hd.heap_39 w.params).In h₀) (N : News h₀ L s.heap news) (T : Top hd.view_39 (looseW hd.view_39 [Str.ofString "_plain_int_re", Str.ofString "ContentRange", Str.ofString "parse_range_header"]) mean mg mb h₀)
  (hA : A.frames = some (env :: outer)) (hf : env.frame = some L) (hke : env.scope.kind = .function) (hroom : A.depth < recursionLimit)
  {a b c : Int} {ta tb tc : Tok} (hv : ¬ (a < b ∧ 0 ≤ a ∧ a < c))
  (hret : ∀ (_ : Tok) (h' : Heap) (tk' : Nat), Fr h₀ L h' m → News h₀ L h' news → Q (.bool false) { s with heap := h', toks := tk' }) :
  wpAny (model PySem.Challenge.rw_ez0426_02.row.prog w) A (call (.ref 50) [.int a ta, .int b tb, .int c tc]) Q E s := by
  refine v_iii B F X N T hA hf hke hroom ?_
  have e : (decide (a < b) && (decide (0 ≤ a) && decide (a < c))) = false := by
    rw [← Bool.not_eq_true]
    simpa using hv
  rw [e]
  exact hret
theorem turn_cut {M : Model} {A : Around} {t : Sem Bool} {Q : Bool → Shared → Prop} {E : Value → Shared → Prop} {s : Shared} {h₀ : Heap} {L : Addr} {m : Str → Option Value} {news : List (Addr × Obj)} (_ : Fr h₀ L s.heap m) (_ : News h₀ L s.heap news)
    (h1 : wpAny M A t (fun b s' => TurnEnd s h₀ L m news b s') E s) (h2 : ∀ h' k, Fr h₀ L h' m → News h₀ L h' news → Q false { s with heap := h', toks := k }) : wpAny M A t Q E s :=
  wpAny_mono h1 (fun b s' q => by
    obtain ⟨h', k, e, F, N⟩ := q.out
    rw [q.no, e]
    exact h2 h' k F N) (fun _ _ e => e)
theorem txt_cases {x : Str} {v : Value} (h : Says (TxtV (toldS x) v)) (hx : x.length ≤ 23) : (Says (toldS x = none) ∧ v = .none) ∨ ∃ y t, Says (toldS x = some y) ∧ v = .str y t ∧ Says (toldS y = some y) ∧ y.length ≤ 100 ∧ y.length ≠ 0 := by
  rcases h.out with ⟨a, b⟩ | ⟨y, t, a, b⟩
  · exact .inl ⟨⟨a⟩, b⟩
  · obtain ⟨c, d, e⟩ := told_again a hx
    exact .inr ⟨y, t, ⟨a⟩, b, ⟨c⟩, d, e⟩
theorem hdr_due {a M k len : Int} (h : M - 1 = k) : Str.empty ++ Str.ofString "bytes" ++ Str.ofString " " ++ num a ++ Str.ofString "-" ++ num (M - 1) ++ Str.ofString "/" ++ num len = Str.ofString "bytes " ++ Str.ofString (toString a) ++ Str.ofString "-" ++ Str.ofString (toString k) ++ Str.ofString "/" ++ Str.ofString (toString len) := by
  subst h
  have e : Str.empty ++ Str.ofString "bytes" ++ Str.ofString " " = Str.ofString "bytes " := by decide +kernel
  rw [e]
  rfl
theorem my_eq_t {prog : Program} {w : World} {A : Around} {E : Value → Shared → Prop} {s : Shared} {x y : Str} {t u : Tok} {Q : Value → Shared → Prop} (h : Says (x = y)) (hq : Q (.bool true) s) : wpAny (model prog w) A (compareOp .Eq (.str x t) (.str y u)) Q E s :=
  my_eq (fun _ => hq) fun q => absurd h.out q.out
theorem told_y {w : World} {mean : ExcName → Option Value} {mg mb : Str → Option Value} {cn : Str} {cs : Scope} {fa : Addr} {ccd : Value} {h₀ : Heap} {L : Addr} {m : Str → Option Value} {news : List (Addr × Obj)} {s : Shared} {Q E : Value → Shared → Prop}
  (B : Below callerA h₀ [] h₀) (F : Fr h₀ L s.heap m) (X : (hd.heap_39 w.params).In h₀) (N : News h₀ L s.heap news) (T : Top hd.view_39 (looseW hd.view_39 [Str.ofString "_plain_int_re", Str.ofString "ContentRange", Str.ofString "parse_range_header"]) mean mg mb h₀) (hk : cs.kind = .function)
  {x y : Str} {t : Tok} (hx : x.length ≤ 100) (hx0 : x.length ≠ 0) (hq : Says (toldS x = some y))
  (hret : ∀ (t' : Tok) (h' : Heap) (tk' : Nat), Fr h₀ L h' m → News h₀ L h' news → Q (.str y t') { s with heap := h', toks := tk' }) :
  wpAny (model PySem.Challenge.rw_ez0426_02.row.prog w) (callerA.deeper (envOf cn cs L fa ccd)) (call (.ref 249) [.str x t]) Q E s := by
  refine c_told B F X N T hk hx hx0 fun v h' tk' hv F' N' => ?_
  rcases hv.out with ⟨a, _⟩ | ⟨z, t', a, rfl⟩
  · rw [hq.out] at a; cases a
  · rw [hq.out] at a; injection a with e; subst e; exact hret _ _ _ F' N'
theorem told_n {w : World} {mean : ExcName → Option Value} {mg mb : Str → Option Value} {cn : Str} {cs : Scope} {fa : Addr} {ccd : Value} {h₀ : Heap} {L : Addr} {m : Str → Option Value} {news : List (Addr × Obj)} {s : Shared} {Q E : Value → Shared → Prop}
  (B : Below callerA h₀ [] h₀) (F : Fr h₀ L s.heap m) (X : (hd.heap_39 w.params).In h₀) (N : News h₀ L s.heap news) (T : Top hd.view_39 (looseW hd.view_39 [Str.ofString "_plain_int_re", Str.ofString "ContentRange", Str.ofString "parse_range_header"]) mean mg mb h₀) (hk : cs.kind = .function)
  {x : Str} {t : Tok} (hx : x.length ≤ 100) (hx0 : x.length ≠ 0) (hq : Says (toldS x = none))
  (hret : ∀ (h' : Heap) (tk' : Nat), Fr h₀ L h' m → News h₀ L h' news → Q .none { s with heap := h', toks := tk' }) :
  wpAny (model PySem.Challenge.rw_ez0426_02.row.prog w) (callerA.deeper (envOf cn cs L fa ccd)) (call (.ref 249) [.str x t]) Q E s := by
  refine c_told B F X N T hk hx hx0 fun v h' tk' hv F' N' => ?_
  rcases hv.out with ⟨_, rfl⟩ | ⟨z, t', a, _⟩
  · exact hret _ _ F' N'
  · rw [hq.out] at a; cases a

structure AskOn : Prop where
  a : True
theorem ask_at {prog : Program} {w : World} {A : Around} {E : Value → Shared → Prop} {s : Shared} {Q : Value → Shared → Prop} {t : Tok} {ad : Addr} {a d : Int} (h0 : 0 ≤ a) (h1 : a < 9) (h2 : 0 ≤ d) (h3 : d < 5)
    (k : AskOn → AskF a (a + d) → wpAny (model prog w) A (call (.ref ad) [.str (Str.ofString "bytes=" ++ Str.ofString (toString a) ++ Str.ofString "-" ++ Str.ofString (toString (a + d))) t]) Q E s) :
    wpAny (model prog w) A (call (.ref ad) [.str (Str.ofString "bytes=" ++ Str.ofString (toString a) ++ Str.ofString "-" ++ Str.ofString (toString (a + d))) t]) Q E s := k ⟨trivial⟩ (ask_facts h0 h1 h2 h3)
local macro_rules | `(tactic| walk_at "call ref") => `(tactic| (k_here; (fail_if_success (with_reducible rename AskOn => hon9)); k_dflt ((refine ask_at (ad := 211) (by omega) (by omega) (by omega) (by omega) ?_); intro hon9 hf9; obtain ⟨_, _, _, _, _, _, _, _, _, _, _, _, _, _, _, _, _, _, _, _⟩ := hf9)))
local macro_rules | `(tactic| wrow_close) => `(tactic| (w_end; (with_reducible rename (_ = #[]) => hg9); (with_reducible rename Fr _ _ _ _ => kF9); k_dflt (refine good_ok kF9 hg9 rfl)))
local macro_rules | `(tactic| walk_at "call ref") => `(tactic| (k_here; (with_reducible show wpAny _ _ (call (Value.ref 256) [Value.ref _]) _ _ _); k_dflt ((refine' c_text ?k1 ?k2 ?k3 ?k4 ?k5 ?kK ?kd ?ku ?hS ?hnb ?hU ?hne ?hI ?hl ?hv ?h0 ?h1 ?_; (case k1 => k_asm); (case k2 => k_asm); (case k3 => k_asm); (case k4 => first | with_reducible assumption | k_asm); (case k5 => k_asm); (case kK => exact rfl); (case kd => ((try simp only [depth_mark, depth_under_make, depth_under_kw, depth_in1, depth_deeper, depth_caller]); first | decide | ((try dsimp only [ktrTop]); omega))); (case ku => ((try simp only [units_in1, units_deeper, Around.mark_units, units_caller]); first | decide | ((try dsimp only [ktrTop]); omega)));(case hS => k_mem); (case hnb => k_mem); (case hU => k_updF); (case hne => exact Nat.ne_of_lt (by omega)); (case hI => first | assumption | (show IntsAre _ _; assumption)); (case hl => exact state_len (by assumption)); (case hv => exact state_ns); (case h0 => omega); (case h1 => omega); k_whole); intro x9 _ _ h' tk' lo9 hi9 nb9 F' N'; (try dsimp only at N'))))
local macro_rules | `(tactic| walk_at "call ref") => `(tactic| (k_here; (with_reducible show wpAny _ _ (call (Value.ref 225) [Value.ref _, Value.int _ _]) _ _ _); k_dflt ((refine' c_next ?k1 ?k2 ?k3 ?k4 ?k5 ?kK ?kd ?ku ?hS ?hnb ?hU ?hne ?hI ?hl ?hv ?h0 ?h1 ?hm ?hm1 ?_; (case k1 => k_asm); (case k2 => k_asm); (case k3 => k_asm); (case k4 => first | with_reducible assumption | k_asm); (case k5 => k_asm); (case kK => exact rfl); (case kd => ((try simp only [depth_mark, depth_under_make, depth_under_kw, depth_in1, depth_deeper, depth_caller]); first | decide | ((try dsimp only [ktrTop]); omega))); (case ku => ((try simp only [units_in1, units_deeper, Around.mark_units, units_caller]); first | decide | ((try dsimp only [ktrTop]); omega)));(case hS => k_mem); (case hnb => k_mem); (case hU => k_updF); (case hne => exact Nat.ne_of_lt (by omega)); (case hI => first | assumption | (show IntsAre _ _; assumption)); (case hl => exact state_len (by assumption)); (case hv => exact state_ns); (case h0 => omega); (case h1 => omega); (case hm => decide); (case hm1 => decide); k_whole); intro r9 _ _ h' tk' lo9 hi9 F' N'; (try dsimp only at N'))))
local macro_rules | `(tactic| walk_at "call ref") => `(tactic| (k_here; (with_reducible show wpAny _ _ (call (Value.ref 242) [Value.str _ _]) _ _ _); k_dflt ((refine' c_read ?k1 ?k2 ?k3 ?k4 ?k5 ?kK ?hx ?hn ?_; (case k1 => k_asm); (case k2 => k_asm); (case k3 => k_asm); (case k4 => first | with_reducible assumption | k_asm); (case k5 => k_asm); (case kK => exact rfl); (case hx => omega); (case hn => assumption); k_whole); intro v9 h' tk' hv9 F' N')))
local macro_rules | `(tactic| walk_at "call ref") => `(tactic| (k_here; (with_reducible show wpAny _ _ (call (Value.ref 249) [Value.str _ _]) _ _ _); k_dflt ((refine' told_y ?k1 ?k2 ?k3 ?k4 ?k5 ?kK ?hx ?hn ?hq ?_; (case k1 => k_asm); (case k2 => k_asm); (case k3 => k_asm); (case k4 => first | with_reducible assumption | k_asm); (case k5 => k_asm); (case kK => exact rfl); (case hx => omega); (case hn => omega); (case hq => assumption); k_whole); intro _ h' tk' F' N')))
local macro_rules | `(tactic| walk_at "call ref") => `(tactic| (k_here; (with_reducible show wpAny _ _ (call (Value.ref 249) [Value.str (Str.ofString "bytes 4-4/5") _]) _ _ _); k_dflt ((refine' (told_y (y := Str.ofString "bytes 4-4/5")) ?k1 ?k2 ?k3 ?k4 ?k5 ?kK ?hx ?hn ?hq ?_; (case k1 => k_asm); (case k2 => k_asm); (case k3 => k_asm); (case k4 => first | with_reducible assumption | k_asm); (case k5 => k_asm); (case kK => exact rfl); (case hx => decide); (case hn => decide); (case hq => exact good_told); k_whole); intro _ h' tk' F' N')))
local macro_rules | `(tactic| walk_at "call type:bool") => `(tactic| (k_here; (with_reducible show wpAny _ _ (call (Value.type "bool") [Value.ref _]) _ _ _); k_dflt (refine call_bool_ref ?_)))
local macro_rules | `(tactic| walk_at "call ref") => `(tactic| (k_here; (with_reducible show wpAny _ _ (call (Value.ref 249) [Value.str _ _]) _ _ _); k_dflt ((refine' told_n ?k1 ?k2 ?k3 ?k4 ?k5 ?kK ?hx ?hn ?hq ?_; (case k1 => k_asm); (case k2 => k_asm); (case k3 => k_asm); (case k4 => first | with_reducible assumption | k_asm); (case k5 => k_asm); (case kK => exact rfl); (case hx => omega); (case hn => omega); (case hq => assumption); k_whole); intro h' tk' F' N')))
local macro_rules | `(tactic| walk_at "eval Call") => `(tactic| (k_here; k_dflt ((with_reducible show wpAny _ _ (eval (Expr.Call (Expr.Name ("is_byte_range_valid" : Str) _) _ _ _) _) _ _ _); refine Call_Name rfl ?_)))
local macro_rules | `(tactic| walk_at "call ref") => `(tactic| (k_here; k_dflt ((show wpAny _ _ (call (Value.ref 50) [Value.int _ _, Value.int _ _, Value.int _ _]) _ _ _); refine' v_iii_no ?k1 ?k2 ?k3 ?k4 ?k5 ?kA ?kF ?kK ?kr (by omega) ?_; (case k1 => k_asm); (case k2 => k_asm); (case k3 => k_asm); (case k4 => k_asm); (case k5 => k_asm); (case kA => exact rfl); (case kF => exact rfl); (case kK => exact rfl); (case kr => k_room);  k_whole); intro _ h' tk' F' N'))
local macro_rules | `(tactic| walk_at "call ref") => `(tactic| (k_here; k_dflt ((show wpAny _ _ (call (Value.ref 50) [Value.int _ _, Value.int _ _, Value.int _ _]) _ _ _); refine' v_true ?k1 ?k2 ?k3 ?k4 ?k5 ?kA ?kF ?kK ?kr (ValidV.iii _ _ _ _ _ _ (by omega) (by omega) (by omega)) ?_; (case k1 => k_asm); (case k2 => k_asm); (case k3 => k_asm); (case k4 => k_asm); (case k5 => k_asm); (case kA => exact rfl); (case kF => exact rfl); (case kK => exact rfl); (case kr => k_room);  k_whole); intro _ h' tk' F' N'))
local macro_rules | `(tactic| walk_at "call ref") => `(tactic| (k_here; k_dflt ((show wpAny _ _ (call (Value.ref 50) [Value.none, Value.none, Value.none]) _ _ _); refine' v_true ?k1 ?k2 ?k3 ?k4 ?k5 ?kA ?kF ?kK ?kr ValidV.nnn ?_; (case k1 => k_asm); (case k2 => k_asm); (case k3 => k_asm); (case k4 => k_asm); (case k5 => k_asm); (case kA => exact rfl); (case kF => exact rfl); (case kK => exact rfl); (case kr => k_room);  k_whole); intro _ h' tk' F' N'))
local macro_rules | `(tactic| walk_at "call ref") => `(tactic| (k_here; k_dflt ((show wpAny _ _ (call (Value.ref 199) [_, _, _, _]) _ _ _); refine' c_new ?k1 ?k2 ?k3 ?k4 ?k5 ?kK ?kd ?ku ?hv ?_; (case k1 => k_asm); (case k2 => k_asm); (case k3 => k_asm); (case k4 => k_asm); (case k5 => k_asm); (case kK => exact rfl); (case kd => ((try simp only [depth_mark, depth_under_make, depth_under_kw, depth_in1, depth_deeper, depth_caller]); first | decide | ((try dsimp only [ktrTop]); omega))); (case ku => ((try simp only [units_in1, units_deeper, Around.mark_units, units_caller]); first | decide | ((try dsimp only [ktrTop]); omega))); (case hv => exact ValidV.iii _ _ _ _ _ _ (by omega) (by omega) (by omega)); k_whole); intro x' d' _ _ _ _ h' tk' F' N' l1 l2; (try k_lt l1); (try k_lt2 l2)))
local macro_rules | `(tactic| walk_at "callWith ref") => `(tactic| (k_here; k_dflt ((show wpAny _ _ (callWith _ (Value.ref 175) [Value.ref _] _ _) _ _ _); (refine' callWith_M0 ?k1 ?k2 ?_; (case k1 => k_meth); (case k2 => k_is); k_whole; try dsimp only [List.nil_append, List.cons_append]))))
local macro_rules | `(tactic| walk_at "call ref") => `(tactic| (k_here; k_dflt ((show wpAny _ _ (call (Value.ref 175) [_]) _ _ _); refine' h_ii ?k1 ?k2 ?k3 ?k4 ?k5 ?kK ?kd ?ku ?ha ?hb ?hc ?hy0 ?hy1 ?hy2 ?_; (case k1 => k_asm); (case k2 => k_asm); (case k3 => k_asm); (case k4 => k_asm); (case k5 => k_asm); (case kK => exact rfl); (case kd => ((try simp only [depth_mark, depth_under_make, depth_under_kw, depth_in1, depth_deeper, depth_caller]); first | decide | ((try dsimp only [ktrTop]); omega))); (case ku => ((try simp only [units_in1, units_deeper, Around.mark_units, units_caller]); first | decide | ((try dsimp only [ktrTop]); omega))); (case ha => k_mem); (case hb => k_mem); (case hc => assumption); (case hy0 => constructor <;> omega); (case hy1 => constructor <;> omega); (case hy2 => constructor <;> omega);  k_whole); intro _ h' tk' F' N'))

local macro_rules | `(tactic| walk_at "isTrue BoolOp") => `(tactic| (k_here; (with_reducible show wpAny _ _ (PySem.isTrue (PySem.Expr.BoolOp BoolOp.Or [_, PySem.Expr.BoolOp BoolOp.And _ _] _) _ _) _ _ _); (with_reducible rename Says (TxtV _ _) => hv9); k_dflt ((refine' turn_cut ?kF ?kN ?ka ?_); (case kF => k_asm); (case kN => k_asm); (case ka => ((have hc9 := txt_cases hv9 (by omega)); clear hv9; rcases hc9 with ⟨hr9, he9⟩ | ⟨y9, t9, hr9, he9, hr8, hl8, hl7⟩; all_goals (subst he9; k_steps; all_goals exact ⟨rfl, _, _, rfl, by k_asm, by k_asm⟩))); k_whole; clear hv9; intro h' tk' F' N')))
local macro_rules | `(tactic| walk_at "compareOp NotEq str str") => `(tactic| (k_here; k_dflt (refine my_ne_f ⟨rfl⟩ ?_)))
local macro_rules | `(tactic| walk_at "compareOp Eq str str") => `(tactic| (k_here; k_dflt (with_reducible refine my_eq_t ⟨rfl⟩ ?_)))
local macro_rules | `(tactic| walk_at "compareOp NotEq str str") => `(tactic| (k_here; k_dflt (refine my_ne_f ⟨hdr_due (by (repeat' split) <;> omega)⟩ ?_)))

theorem fin : PySem.Challenge.rw_ez0426_02.Holds := hd (by
  k_go0; (all_goals try k_fold)
  all_goals (have hbad9 := bad_facts; obtain ⟨_, _, _, _, _, _, _, _, _, _, _, _, _, _, _, _⟩ := hbad9)
  k_steps)
end PartL10
end Mine

set_option maxRecDepth 100000 in
set_option maxHeartbeats 8000000 in
theorem PySem.Challenge.cw_ez0426_02_holds : PySem.Challenge.rw_ez0426_02.Holds := by
  exact Mine.fin
