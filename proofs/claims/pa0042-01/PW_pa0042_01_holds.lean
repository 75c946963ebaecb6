import PyProof.Rows.All
import Wide.All
import OpenK.AllK
import Wide.FinOn
import Lean
import PySem.Challenge.RW_pa0042_01
open PySem PySem.W PyProof.Rows
set_option Elab.async false
set_option maxRecDepth 100000
set_option maxHeartbeats 8000000
local macro_rules | `(tactic| k_all) => `(tactic| assumption)
namespace Mine
open_top hd for PySem.Challenge.rw_pa0042_01
end Mine
namespace Mine
/-- behind the head the walk's ways are set back, as where a text stands alone -/
theorem afresh : True := by
  w_top off
  trivial
end Mine
namespace Mine
open PySem PySem.W PyProof.Rows PySem.Calls

theorem slot_bytes_lt : Slot "bytes" (cmpInfo .Lt).2.1 "bytes.__lt__" :=
  .of (owner := "bytes") (n := "__lt__") (by rw [typeLookup_type, builtinLookup_eq_fast]; kernel_rfl) (by decide +kernel) (by decide +kernel) (by decide +kernel)
    (by first | exact .inl (by decide +kernel) | exact .inr (by decide +kernel)) (by rw [isSubtype_type]; kernel_rfl)
theorem entry_bytes_lt : entryFor table "bytes.__lt__" = some Builtin.«bytes.__lt__» := entryFor_of_tree (by kernel_rfl)
theorem args_bytes_lt (a b : Value) : argsOk "bytes.__lt__" ⟨[a, b], []⟩ := by
  unfold argsOk; rw [signature?_of (id := "bytes.__lt__") (n := ['_', '_', 't', 'l', '_', '_']) (o := ['s', 'e', 't', 'y', 'b']) (by kernel_rfl) FB.owner_bytes]; kernel_rfl
theorem slot_bytes_gt : Slot "bytes" (cmpInfo .Gt).2.1 "bytes.__gt__" :=
  .of (owner := "bytes") (n := "__gt__") (by rw [typeLookup_type, builtinLookup_eq_fast]; kernel_rfl) (by decide +kernel) (by decide +kernel) (by decide +kernel)
    (by first | exact .inl (by decide +kernel) | exact .inr (by decide +kernel)) (by rw [isSubtype_type]; kernel_rfl)
theorem entry_bytes_gt : entryFor table "bytes.__gt__" = some Builtin.«bytes.__gt__» := entryFor_of_tree (by kernel_rfl)
theorem args_bytes_gt (a b : Value) : argsOk "bytes.__gt__" ⟨[a, b], []⟩ := by
  unfold argsOk; rw [signature?_of (id := "bytes.__gt__") (n := ['_', '_', 't', 'g', '_', '_']) (o := ['s', 'e', 't', 'y', 'b']) (by kernel_rfl) FB.owner_bytes]; kernel_rfl

/-- the order of two octet rows, as a number row's -/
theorem order_lt : ∀ a b : List UInt8, (Builtin.Bytes.order a b == .lt) = decide (a < b)
  | [], [] => by simp [Builtin.Bytes.order]
  | [], _ :: _ => by simp [Builtin.Bytes.order]
  | _ :: _, [] => by simp [Builtin.Bytes.order]
  | x :: a, y :: b => by
    simp only [Builtin.Bytes.order]
    by_cases h1 : x < y
    · simp [h1, List.cons_lt_cons_iff]
    · by_cases h2 : x > y
      · have h3 : x ≠ y := fun e => by subst e; exact absurd h2 (UInt8.lt_irrefl _)
        simp [h1, h2, h3, List.cons_lt_cons_iff]
      · have h3 : x = y := UInt8.le_antisymm (UInt8.not_lt.mp h2) (UInt8.not_lt.mp h1)
        subst h3
        have ih := order_lt a b
        simp [h1, List.cons_lt_cons_iff, ih]
theorem order_gt : ∀ a b : List UInt8, (Builtin.Bytes.order a b == .gt) = decide (b < a)
  | [], [] => by simp [Builtin.Bytes.order]
  | [], _ :: _ => by simp [Builtin.Bytes.order]
  | _ :: _, [] => by simp [Builtin.Bytes.order]
  | x :: a, y :: b => by
    simp only [Builtin.Bytes.order]
    by_cases h1 : x < y
    · have h3 : y ≠ x := fun e => by subst e; exact absurd h1 (UInt8.lt_irrefl _)
      have h4 : ¬ y < x := fun e => absurd (UInt8.lt_trans h1 e) (UInt8.lt_irrefl _)
      simp [h1, h3, h4, List.cons_lt_cons_iff]
    · by_cases h2 : x > y
      · have h5 : y < x := h2
        simp [h1, h5, List.cons_lt_cons_iff]
      · have h3 : x = y := UInt8.le_antisymm (UInt8.not_lt.mp h2) (UInt8.not_lt.mp h1)
        subst h3
        have ih := order_gt a b
        simp [h1, List.cons_lt_cons_iff, ih]

theorem gives_bytes_lt (b c : Array UInt8) (t u : Tok) : Gives (Builtin.«bytes.__lt__» ⟨[.bytes b t, .bytes c u], []⟩) (.val (.bool (decide (b.toList < c.toList)))) := by
  refine .of_wp fun M A E s Q hq => ?_
  show wpAny M A (isInstance (.bytes c u) (.type "bytes") >>= fun r => _) _ E s
  refine wpAny_bind (wpAny_isInstance (typeIs_bytes s c u) F.sub_bytes_bytes ?_)
  exact wpAny_pure ⟨_, rfl, by rw [← order_lt] at hq; exact hq⟩
theorem gives_bytes_gt (b c : Array UInt8) (t u : Tok) : Gives (Builtin.«bytes.__gt__» ⟨[.bytes b t, .bytes c u], []⟩) (.val (.bool (decide (c.toList < b.toList)))) := by
  refine .of_wp fun M A E s Q hq => ?_
  show wpAny M A (isInstance (.bytes c u) (.type "bytes") >>= fun r => _) _ E s
  refine wpAny_bind (wpAny_isInstance (typeIs_bytes s c u) F.sub_bytes_bytes ?_)
  exact wpAny_pure ⟨_, rfl, by rw [← order_gt] at hq; exact hq⟩
section
variable {prog : Program} {w : World} {A : Around} {E : Value → Shared → Prop} {s : Shared} {b c : Array UInt8} {t u : Tok}
theorem lt_bytes {Q : Value → Shared → Prop} (h : Q (.bool (decide (b.toList < c.toList))) s) : wpAny (model prog w) A (compareOp .Lt (.bytes b t) (.bytes c u)) Q E s :=
  compareOp_gives (op := .Lt) (typeIs_bytes s b t) (typeIs_bytes s c u) slot_bytes_lt entry_bytes_lt (args_bytes_lt _ _) (gives_bytes_lt b c t u) (fun e => nomatch e) h
theorem gt_bytes {Q : Value → Shared → Prop} (h : Q (.bool (decide (c.toList < b.toList))) s) : wpAny (model prog w) A (compareOp .Gt (.bytes b t) (.bytes c u)) Q E s :=
  compareOp_gives (op := .Gt) (typeIs_bytes s b t) (typeIs_bytes s c u) slot_bytes_gt entry_bytes_gt (args_bytes_gt _ _) (gives_bytes_gt b c t u) (fun e => nomatch e) h
end
end Mine
namespace Mine
open PySem PySem.W PyProof.Rows PySem.Calls

/-- a row of octets as a number to the base 256 -/
noncomputable def num : List UInt8 → Nat
  | [] => 0
  | x :: r => x.toNat * 256 ^ r.length + num r
theorem num_lt : ∀ l : List UInt8, num l < 256 ^ l.length
  | [] => by simp [num]
  | x :: r => by
    have h := num_lt r
    have hx : x.toNat < 256 := x.toNat_lt
    simp only [num, List.length_cons, Nat.pow_succ]
    have h2 : x.toNat * 256 ^ r.length + 256 ^ r.length ≤ 256 ^ r.length * 256 := by
      have : (x.toNat + 1) * 256 ^ r.length ≤ 256 * 256 ^ r.length := Nat.mul_le_mul_right _ (by lia)
      rw [Nat.add_mul] at this
      lia
    lia
theorem num_lt_iff : ∀ (a b : List UInt8), a.length = b.length → (num a < num b ↔ a < b)
  | [], [], _ => by simp [num]
  | [], _ :: _, h => by simp at h
  | _ :: _, [], h => by simp at h
  | x :: a, y :: b, h => by
    have hl : a.length = b.length := by simpa using h
    have ih := num_lt_iff a b hl
    have ha := num_lt a
    have hb := num_lt b
    rw [List.cons_lt_cons_iff]
    simp only [num]
    rw [hl] at ha ⊢
    by_cases h1 : x < y
    · have : x.toNat < y.toNat := h1
      have h2 : (x.toNat + 1) * 256 ^ b.length ≤ y.toNat * 256 ^ b.length := Nat.mul_le_mul_right _ (by lia)
      rw [Nat.add_mul] at h2
      constructor
      · intro _; exact .inl h1
      · intro _; lia
    · by_cases h2 : y < x
      · have : y.toNat < x.toNat := h2
        have h3 : (y.toNat + 1) * 256 ^ b.length ≤ x.toNat * 256 ^ b.length := Nat.mul_le_mul_right _ (by lia)
        rw [Nat.add_mul] at h3
        constructor
        · intro _; lia
        · rintro (q | ⟨q, _⟩)
          · exact absurd q h1
          · subst q; exact absurd h2 (UInt8.lt_irrefl _)
      · have e : x = y := UInt8.le_antisymm (UInt8.not_lt.mp h2) (UInt8.not_lt.mp h1)
        subst e
        constructor
        · intro q; exact .inr ⟨rfl, ih.mp (by lia)⟩
        · rintro (q | ⟨_, q⟩)
          · exact absurd q h1
          · have := ih.mpr q; lia
theorem num_inj : ∀ (a b : List UInt8), a.length = b.length → num a = num b → a = b
  | [], [], _, _ => rfl
  | [], _ :: _, h, _ => by simp at h
  | _ :: _, [], h, _ => by simp at h
  | x :: a, y :: b, h, e => by
    have hl : a.length = b.length := by simpa using h
    have ha := num_lt a
    have hb := num_lt b
    simp only [num] at e
    rw [hl] at ha e
    have hxy : x.toNat = y.toNat := by
      rcases Nat.lt_trichotomy x.toNat y.toNat with q | q | q
      · have h2 : (x.toNat + 1) * 256 ^ b.length ≤ y.toNat * 256 ^ b.length := Nat.mul_le_mul_right _ (by lia)
        rw [Nat.add_mul] at h2; lia
      · exact q
      · have h2 : (y.toNat + 1) * 256 ^ b.length ≤ x.toNat * 256 ^ b.length := Nat.mul_le_mul_right _ (by lia)
        rw [Nat.add_mul] at h2; lia
    have hx : x = y := UInt8.toNat_inj.mp hxy
    subst hx
    rw [num_inj a b hl (by lia)]

/-- a value's key: of a bytes its number -/
noncomputable def vn : Value → Nat
  | .bytes b _ => num b.toList
  | _ => 0
/-- a bytes of four -/
noncomputable def By (v : Value) : Prop := ∃ (b : Array UInt8) (t : Tok), v = .bytes b t ∧ b.toList.length = 4
noncomputable def AllBy (vs : List Value) : Prop := ∀ v ∈ vs, By v
theorem AllBy.perm {vs ws : List Value} (h : AllBy vs) (p : ws.Perm vs) : AllBy ws := fun v hv => h v (p.mem_iff.mp hv)
theorem AllBy.get {vs : List Value} (h : AllBy vs) {i : Nat} (hi : i < vs.length) : ∃ b t, vs[i]? = some (.bytes b t) ∧ b.toList.length = 4 := by
  obtain ⟨b, t, e, hl⟩ := h vs[i] (List.getElem_mem hi)
  exact ⟨b, t, by rw [List.getElem?_eq_getElem hi, e], hl⟩

/-- the key at a place -/
noncomputable def ky (vs : List Value) (i : Nat) : Nat := vn (vs.getD i .none)
theorem ky_set {vs : List Value} {p : Nat} {x : Value} (hp : p < vs.length) (i : Nat) : ky (vs.set p x) i = if i = p then vn x else ky vs i := by
  unfold ky
  by_cases h : i = p
  · subst h; simp [List.getD_eq_getElem?_getD, List.getElem?_set_self hp]
  · rw [if_neg h]
    simp [List.getD_eq_getElem?_getD, List.getElem?_set_ne (Ne.symm h)]
theorem ky_of {vs : List Value} {i : Nat} {v : Value} (h : vs[i]? = some v) : ky vs i = vn v := by
  unfold ky; rw [List.getD_eq_getElem?_getD, h]; rfl

theorem ky_lt {vs : List Value} {i j : Nat} {b c : Array UInt8} {t u : Tok} (hi : vs[i]? = some (.bytes b t)) (hj : vs[j]? = some (.bytes c u)) (h : num b.toList < num c.toList) : ky vs i < ky vs j := by
  rw [ky_of hi, ky_of hj]; exact h
theorem ky_le {vs : List Value} {i j : Nat} {b c : Array UInt8} {t u : Tok} (hi : vs[i]? = some (.bytes b t)) (hj : vs[j]? = some (.bytes c u)) (h : ¬ num b.toList < num c.toList) : ky vs j ≤ ky vs i := by
  rw [ky_of hi, ky_of hj]; exact Nat.le_of_not_lt h

/-- every child at a place whose parent is k or behind it is no less than its parent -/
noncomputable def HeapFrom (k : Nat) (vs : List Value) : Prop := ∀ c, 0 < c → c < vs.length → k ≤ (c - 1) / 2 → ky vs ((c - 1) / 2) ≤ ky vs c

inductive Desc (a : Nat) : Nat → Prop
  | refl : Desc a a
  | left {b} : Desc a b → Desc a (2 * b + 1)
  | right {b} : Desc a b → Desc a (2 * b + 2)
theorem Desc.le {a b : Nat} (h : Desc a b) : a ≤ b := by
  induction h with
  | refl => lia
  | left _ ih => lia
  | right _ ih => lia
theorem Desc.up {a b : Nat} (h : Desc a b) (hb : a < b) : Desc a ((b - 1) / 2) := by
  cases h with
  | refl => lia
  | @left c h => rw [show (2 * c + 1 - 1) / 2 = c by lia]; exact h
  | @right c h => rw [show (2 * c + 2 - 1) / 2 = c by lia]; exact h

/-- between two turns of the way up: the hole is at p, x is to be put there -/
noncomputable abbrev Up (vs₀ : List Value) (st : Nat) (x : Value) (vs : List Value) (p : Nat) : Prop := (vs.length = vs₀.length) ∧ (p < vs.length) ∧ (AllBy vs) ∧ ((vs.set p x).Perm vs₀) ∧ (Desc st p) ∧ (∀ c, 0 < c → c < vs.length → c ≠ p → (c - 1) / 2 ≠ p → st ≤ (c - 1) / 2 → ky vs ((c - 1) / 2) ≤ ky vs c) ∧ (∀ c, 0 < c → c < vs.length → (c - 1) / 2 = p → st < p → ky vs ((p - 1) / 2) ≤ ky vs c) ∧ (∀ c, 0 < c → c < vs.length → (c - 1) / 2 = p → vn x ≤ ky vs c)
theorem Up.len {vs₀ : List Value} {st : Nat} {x : Value} {vs : List Value} {p : Nat} (h : Up vs₀ st x vs p) : vs.length = vs₀.length := h.1
theorem Up.lt {vs₀ : List Value} {st : Nat} {x : Value} {vs : List Value} {p : Nat} (h : Up vs₀ st x vs p) : p < vs.length := h.2.1
theorem Up.all {vs₀ : List Value} {st : Nat} {x : Value} {vs : List Value} {p : Nat} (h : Up vs₀ st x vs p) : AllBy vs := h.2.2.1
theorem Up.perm {vs₀ : List Value} {st : Nat} {x : Value} {vs : List Value} {p : Nat} (h : Up vs₀ st x vs p) : (vs.set p x).Perm vs₀ := h.2.2.2.1
theorem Up.desc {vs₀ : List Value} {st : Nat} {x : Value} {vs : List Value} {p : Nat} (h : Up vs₀ st x vs p) : Desc st p := h.2.2.2.2.1
theorem Up.far {vs₀ : List Value} {st : Nat} {x : Value} {vs : List Value} {p : Nat} (h : Up vs₀ st x vs p) : ∀ c, 0 < c → c < vs.length → c ≠ p → (c - 1) / 2 ≠ p → st ≤ (c - 1) / 2 → ky vs ((c - 1) / 2) ≤ ky vs c := h.2.2.2.2.2.1
theorem Up.over {vs₀ : List Value} {st : Nat} {x : Value} {vs : List Value} {p : Nat} (h : Up vs₀ st x vs p) : ∀ c, 0 < c → c < vs.length → (c - 1) / 2 = p → st < p → ky vs ((p - 1) / 2) ≤ ky vs c := h.2.2.2.2.2.2.1
theorem Up.under {vs₀ : List Value} {st : Nat} {x : Value} {vs : List Value} {p : Nat} (h : Up vs₀ st x vs p) : ∀ c, 0 < c → c < vs.length → (c - 1) / 2 = p → vn x ≤ ky vs c := h.2.2.2.2.2.2.2

theorem set_swap {vs : List Value} {p q : Nat} {x y : Value} (hp : p < vs.length) (hq : q < vs.length) (hne : p ≠ q) (hy : vs[q]? = some y) :
    ((vs.set p y).set q x).Perm (vs.set p x) := by
  have hy' : vs[q] = y := by rw [List.getElem?_eq_getElem hq] at hy; exact Option.some.inj hy
  refine List.perm_iff_count.mpr fun z => ?_
  have h1 : q < (vs.set p y).length := by simpa using hq
  rw [List.count_set h1, List.count_set hp, List.count_set hp]
  have e : (vs.set p y)[q] = vs[q] := by rw [List.getElem_set_ne hne]
  rw [e, hy']
  have c1 : 0 < List.count vs[p] vs := List.count_pos_iff.mpr (List.getElem_mem hp)
  have c2 : 0 < List.count y vs := List.count_pos_iff.mpr (hy' ▸ List.getElem_mem hq)
  by_cases z1 : vs[p] = z
  · rw [z1] at c1
    by_cases z2 : y = z
    · subst z2; simp [z1] <;> lia
    · simp [z1, z2] <;> lia
  · by_cases z2 : y = z
    · subst z2; simp [z1] <;> lia
    · simp [z1, z2]

theorem Up.step {vs₀ vs : List Value} {st p : Nat} {x y : Value} (h : Up vs₀ st x vs p) (hp : st < p) (hy : vs[(p - 1) / 2]? = some y) (hlt : vn x < vn y) (hb : By y) : Up vs₀ st x (vs.set p y) ((p - 1) / 2) := by
  have hq : (p - 1) / 2 < vs.length := by have := h.lt; lia
  have ky1 := ky_of hy
  have hd := (h.desc.up hp).le
  refine ⟨by simpa using h.len, by simpa using hq, ?_, ?_, h.desc.up hp, ?_, ?_, ?_⟩
  · intro v hv
    rcases List.mem_or_eq_of_mem_set hv with q | q
    · exact h.all v q
    · exact q ▸ hb
  · exact (set_swap h.lt hq (by lia) hy).trans h.perm
  · intro c c0 cl c1 c2 c3
    rw [List.length_set] at cl
    rw [ky_set h.lt, ky_set h.lt]
    by_cases e1 : c = p
    · exact absurd (by rw [e1]) c2
    · rw [if_neg e1]
      by_cases e2 : (c - 1) / 2 = p
      · rw [if_pos e2, ← ky1]; exact h.over c c0 cl e2 hp
      · rw [if_neg e2]; exact h.far c c0 cl e1 e2 c3
  · intro c c0 cl c1 c2
    rw [List.length_set] at cl
    rw [ky_set h.lt, ky_set h.lt]
    rw [if_neg (by lia)]
    have hg := ((h.desc.up hp).up c2).le
    have far1 := h.far ((p - 1) / 2) (by lia) hq (by lia) (by lia) hg
    by_cases e1 : c = p
    · rw [if_pos e1, ← ky1]; exact far1
    · rw [if_neg e1]
      have far2 := h.far c c0 cl e1 (by lia) (by lia)
      rw [c1] at far2
      lia
  · intro c c0 cl c1
    rw [List.length_set] at cl
    rw [ky_set h.lt]
    by_cases e1 : c = p
    · rw [if_pos e1]; lia
    · rw [if_neg e1]
      have far2 := h.far c c0 cl e1 (by lia) (by lia)
      rw [c1] at far2
      lia

theorem Up.done {vs₀ vs : List Value} {st p : Nat} {x : Value} (h : Up vs₀ st x vs p) (hs : p = st ∨ ky vs ((p - 1) / 2) ≤ vn x) : HeapFrom st (vs.set p x) := by
  intro c c0 cl c3
  rw [List.length_set] at cl
  rw [ky_set h.lt, ky_set h.lt]
  by_cases e1 : c = p
  · rw [if_pos e1, if_neg (by lia)]
    rcases hs with q | q
    · lia
    · rw [e1]; exact q
  · rw [if_neg e1]
    by_cases e2 : (c - 1) / 2 = p
    · rw [if_pos e2]; exact h.under c c0 cl e2
    · rw [if_neg e2]; exact h.far c c0 cl e1 e2 c3

theorem Up.self {vs₀ vs : List Value} {st p : Nat} {x : Value} (h : Up vs₀ st x (vs.set p x) p) : Up (vs.set p x) st x (vs.set p x) p :=
  ⟨rfl, h.lt, h.all, by rw [List.set_set], h.desc, h.far, h.over, h.under⟩

/-- between two turns of the way down -/
noncomputable abbrev Down (vs₀ : List Value) (st : Nat) (x : Value) (vs : List Value) (p : Nat) : Prop := (vs.length = vs₀.length) ∧ (p < vs.length) ∧ (AllBy vs) ∧ ((vs.set p x).Perm vs₀) ∧ (Desc st p) ∧ (∀ c, 0 < c → c < vs.length → st ≤ (c - 1) / 2 → (p = st → (c - 1) / 2 ≠ st) → ky vs ((c - 1) / 2) ≤ ky vs c)
theorem Down.len {vs₀ : List Value} {st : Nat} {x : Value} {vs : List Value} {p : Nat} (h : Down vs₀ st x vs p) : vs.length = vs₀.length := h.1
theorem Down.lt {vs₀ : List Value} {st : Nat} {x : Value} {vs : List Value} {p : Nat} (h : Down vs₀ st x vs p) : p < vs.length := h.2.1
theorem Down.all {vs₀ : List Value} {st : Nat} {x : Value} {vs : List Value} {p : Nat} (h : Down vs₀ st x vs p) : AllBy vs := h.2.2.1
theorem Down.perm {vs₀ : List Value} {st : Nat} {x : Value} {vs : List Value} {p : Nat} (h : Down vs₀ st x vs p) : (vs.set p x).Perm vs₀ := h.2.2.2.1
theorem Down.desc {vs₀ : List Value} {st : Nat} {x : Value} {vs : List Value} {p : Nat} (h : Down vs₀ st x vs p) : Desc st p := h.2.2.2.2.1
theorem Down.heap {vs₀ : List Value} {st : Nat} {x : Value} {vs : List Value} {p : Nat} (h : Down vs₀ st x vs p) : ∀ c, 0 < c → c < vs.length → st ≤ (c - 1) / 2 → (p = st → (c - 1) / 2 ≠ st) → ky vs ((c - 1) / 2) ≤ ky vs c := h.2.2.2.2.2

theorem Down.start {vs : List Value} {st : Nat} {x : Value} (hA : AllBy vs) (hs : st < vs.length) (hx : vs[st]? = some x) (hh : HeapFrom (st + 1) vs) : Down vs st x vs st := by
  refine ⟨rfl, hs, hA, ?_, .refl, fun c c0 cl c1 c2 => hh c c0 cl ?_⟩
  · have : vs.set st x = vs := by
      rw [List.getElem?_eq_getElem hs] at hx
      rw [← Option.some.inj hx]; exact List.set_getElem_self hs
    rw [this]
  · have := c2 rfl; lia

theorem Down.step {vs₀ vs : List Value} {st p c : Nat} {x y : Value} (h : Down vs₀ st x vs p) (hc : c = 2 * p + 1 ∨ c = 2 * p + 2) (hl : c < vs.length) (hy : vs[c]? = some y)
    (hmin : ∀ d, d = 2 * p + 1 ∨ d = 2 * p + 2 → d < vs.length → vn y ≤ ky vs d) (hb : By y) : Down vs₀ st x (vs.set p y) c := by
  have ky1 := ky_of hy
  have hd := h.desc.le
  refine ⟨by simpa using h.len, by simpa using hl, ?_, ?_, ?_, ?_⟩
  · intro v hv
    rcases List.mem_or_eq_of_mem_set hv with q | q
    · exact h.all v q
    · exact q ▸ hb
  · exact (set_swap h.lt hl (by lia) hy).trans h.perm
  · rcases hc with e | e
    · subst e; exact .left h.desc
    · subst e; exact .right h.desc
  · intro d d0 dl d1 _
    rw [List.length_set] at dl
    rw [ky_set h.lt, ky_set h.lt]
    by_cases e1 : d = p
    · rw [if_pos e1, if_neg (by lia)]
      have a1 := h.heap d d0 dl d1 (by intro q; lia)
      have a2 := h.heap c (by lia) hl (by lia) (by intro q; lia)
      rw [e1] at a1 ⊢
      have e3 : (c - 1) / 2 = p := by lia
      rw [e3] at a2
      lia
    · rw [if_neg e1]
      by_cases e2 : (d - 1) / 2 = p
      · rw [if_pos e2]; exact hmin d (by lia) dl
      · rw [if_neg e2]; exact h.heap d d0 dl d1 (by intro q; lia)

theorem Down.up {vs₀ vs : List Value} {st p : Nat} {x : Value} (h : Down vs₀ st x vs p) (hleaf : vs.length ≤ 2 * p + 1) (hb : By x) : Up vs₀ st x (vs.set p x) p := by
  have hd := h.desc.le
  refine ⟨by simpa using h.len, by simpa using h.lt, ?_, ?_, h.desc, ?_, ?_, ?_⟩
  · intro v hv
    rcases List.mem_or_eq_of_mem_set hv with q | q
    · exact h.all v q
    · exact q ▸ hb
  · rw [List.set_set]; exact h.perm
  · intro c c0 cl c1 c2 c3
    rw [List.length_set] at cl
    rw [ky_set h.lt, ky_set h.lt, if_neg c1, if_neg c2]
    exact h.heap c c0 cl c3 (by intro q; lia)
  · intro c c0 cl c1; rw [List.length_set] at cl; lia
  · intro c c0 cl c1; rw [List.length_set] at cl; lia
theorem HeapFrom.half (vs : List Value) : HeapFrom (vs.length / 2) vs := by
  intro c c0 cl c3; lia
end Mine
namespace Mine
open PySem PySem.W PyProof.Rows PySem.Calls


/-- what stands around a call: the written part, the top, the frames below -/
structure Env0 (w : World) (A : Around) (h₀ : Heap) (L : Addr) : Prop where
  X : (Mine.hd.heap_39 w.params).In h₀
  T : ∃ p loose mean mg mb, Top p loose mean mg mb h₀
  B : ∃ A₀ base outer env, Below A₀ base outer h₀ ∧ A.frames = some (env :: outer) ∧ env.frame = some L ∧ env.scope.kind = .function
  H : A.handled = none

theorem enter {w : World} {A : Around} {s : Shared} {h₀ : Heap} {L : Addr} {m : Str → Option Value} {news : List (Addr × Obj)}
    {R : Result → Shared → Prop} {name qual : Str} {params : Arguments} {body : List Stmt} {scope : Scope} {dV kV doc pm cdv ct oc : Value} {an od : Option Addr} {osl : Array (Option Value)} {f : Addr} {args : Args} {binds : List (Str × Value)}
    (C : Env0 w A h₀ L) (F : Fr h₀ L s.heap m) (N : News h₀ L s.heap news)
    (ho : (Mine.hd.heap_39 w.params).lookup f = some ⟨oc, od, .func (fnOf name qual params body scope dV kV doc pm an cdv ct), osl⟩) (hcd : codeIn (Mine.hd.heap_39 w.params) cdv qual = true) (hroom : A.depth < recursionLimit)
    (hbind : BindsTo s (fnOf name qual params body scope dV kV doc pm an cdv ct) args binds) (hloc : ∀ y ∈ binds, scope.names.lookup y.1 = some .local)
    (h : ∀ g L' h₁, Env0 w (A.deeper (envOf qual scope L' f cdv)) g L' → Fr g L' h₁ (fun y => binds.reverse.lookup y) → News g L' h₁ news → (∀ p ∈ news, p.1 < L') →
      wpAny (model PySem.Challenge.rw_pa0042_01.row.prog w) (A.deeper (envOf qual scope L' f cdv)) (execs body (envOf qual scope L' f cdv))
        (fun fl s' => LeaveK h₀ L m g R (match fl with | .ret v => v | _ => .none) s') (fun _ _ => False)
        { s with heap := h₁, toks := s.toks + binds.length })
    (hco : scope.isCoroutine = false) (hgen : scope.isGenerator = false) (hk : scope.kind = .function)
    (hcell : ∀ x ∈ scope.names, x.2 ≠ .cell) : codeAny (model PySem.Challenge.rw_pa0042_01.row.prog w) A (.call (.ref f) args) R s := by
  obtain ⟨X, ⟨p, loose, mean, mg, mb, T⟩, ⟨A₀, base, outer, env, B, hA, hf, hke⟩, H⟩ := C
  refine callX_plain (cl := []) B F N T.nolimit hA hf hke ((X.keeps F.keep) _ _ ho) rfl (codeRec_of (X.keeps F.keep) hcd) hroom hbind hloc (fun g L' h₁ FG F' N' B' st l => ?_) hcell hco hgen hk
  refine wpAny_noRaise (h g L' h₁ ?_ F' N' l)
  refine ⟨X.keeps st, ⟨p, loose, mean, mg, mb, T.keeps st⟩, ⟨A, base, env :: outer, envOf qual scope L' f cdv, B', ?_, rfl, hk⟩, H⟩
  show A.frames.map _ = _
  rw [hA]; rfl
theorem hideQ {α : Type} {M : Model} {A : Around} {E : Value → Shared → Prop} {s : Shared} {t : Sem α} {Q : α → Shared → Prop} (h : ∀ Q' : α → Shared → Prop, (∀ a s', Q a s' → Q' a s') → wpAny M A t Q' E s) : wpAny M A t Q E s := h Q fun _ _ q => q
end Mine
namespace Mine
open PySem PySem.W PyProof.Rows PySem.Calls

theorem Fr_tok {h₀ h : Heap} {L : Addr} {m : Str → Option Value} (_ : Fr h₀ L h m) (x : Str) (f : Tok → Value) (e : ∃ t, m x = some (f t)) : ∃ t, m x = some (f t) := e

section
variable {prog : Program} {w : World} {A : Around} {E : Value → Shared → Prop} {s : Shared} {h₀ : Heap} {L a : Addr} {m : Str → Option Value} {news news' : List (Addr × Obj)} {vs : List Value} {n : Nat} {k : Int} {t u : Tok}
theorem item_by {value slice : Expr} {Q : Value → Shared → Prop} (N : News h₀ L s.heap news) (hm : (a, listOf vs.toArray n) ∈ news) (hB : AllBy vs) (h0 : 0 ≤ k) (h1 : k < vs.length) (hz : vs.length ≤ 1000)
    (h : ∀ b t, vs[k.toNat]? = some (.bytes b t) → b.toList.length = 4 → Q (.bytes b t) s)
    (hs : subscripted slice false (.ref a) (.int k u) = operate [.ref a, .int k u] (getItem (.ref a) (.int k u)) := by with_unfolding_all rfl) (hg : ∀ r, letTemporaryGo value (.ref a) r = pure () := by intro _; with_unfolding_all rfl) :
    wpAny (model prog w) A (subscriptTail value slice (.ref a) (.int k u)) Q E s := by
  obtain ⟨b, t, e, hl⟩ := hB.get (i := k.toNat) (by lia)
  exact item_listL (PySem.IsL.isList (n := n) (N _ hm).1) h0 (by lia) e (h b t e hl) hs hg
theorem set_any {v : Value} {Q : Unit → Shared → Prop} (F : Fr h₀ L s.heap m) (N : News h₀ L s.heap news) (U : Upd a (listOf vs.toArray n) (listOf (vs.set k.toNat v).toArray n) news news') (h0 : 0 ≤ k) (h1 : k < vs.length) (hz : vs.length ≤ 1000)
    (h : ∀ h', Fr h₀ L h' m → News h₀ L h' news' → Q () { s with heap := h' }) :
    wpAny (model prog w) A (setItem (.ref a) (.int k t) v) Q E s := by
  obtain ⟨pre, post, rfl, rfl, x, y⟩ := U.split
  have z := N (a, listOf vs.toArray n) (List.mem_append.mpr (.inr (.head _)))
  refine ki_setAt z.1 h0 (by lia) (by rw [List.size_toArray]; exact h1) (h _ (F.change (Heap.SameBut.update ..) z.2.1 z.2.2) (ki_turn _ N x y ?_ ?_))
  · show vs.toArray.setIfInBounds k.toNat v = (vs.set k.toNat v).toArray
    apply Array.toList_inj.mp
    simp
  · simp
theorem item_byN {k : Nat} {value slice : Expr} {Q : Value → Shared → Prop} (N : News h₀ L s.heap news) (hm : (a, listOf vs.toArray n) ∈ news) (hB : AllBy vs) (h1 : k < vs.length) (hz : vs.length ≤ 1000)
    (h : ∀ b t, vs[k]? = some (.bytes b t) → b.toList.length = 4 → Q (.bytes b t) s)
    (hs : subscripted slice false (.ref a) (.int (k : Int) u) = operate [.ref a, .int (k : Int) u] (getItem (.ref a) (.int (k : Int) u)) := by with_unfolding_all rfl) (hg : ∀ r, letTemporaryGo value (.ref a) r = pure () := by intro _; with_unfolding_all rfl) :
    wpAny (model prog w) A (subscriptTail value slice (.ref a) (.int (k : Int) u)) Q E s :=
  item_by N hm hB (by lia) (by lia) hz h hs hg
theorem set_anyN {k : Nat} {v : Value} {Q : Unit → Shared → Prop} (F : Fr h₀ L s.heap m) (N : News h₀ L s.heap news) (U : Upd a (listOf vs.toArray n) (listOf (vs.set k v).toArray n) news news') (h1 : k < vs.length) (hz : vs.length ≤ 1000)
    (h : ∀ h', Fr h₀ L h' m → News h₀ L h' news' → Q () { s with heap := h' }) :
    wpAny (model prog w) A (setItem (.ref a) (.int (k : Int) t) v) Q E s := set_any F N U (by lia) (by lia) hz h
theorem len_K9 {Q : Value → Shared → Prop} (N : News h₀ L s.heap news) (hm : (a, listOf vs.toArray n) ∈ news) (hz : vs.length ≤ 1000) (h : ∀ t tk, Q (.int (vs.length : Int) t) { s with toks := tk }) :
    wpAny (model prog w) A (call (.builtin "len") [.ref a]) Q E s := by
  refine len_list (PySem.IsL.isList (n := n) (N _ hm).1) (by rw [List.size_toArray]; lia) ?_
  rw [List.size_toArray]
  exact h _ _
theorem truthy_K9 {Q : Bool → Shared → Prop} (N : News h₀ L s.heap news) (hm : (a, listOf vs.toArray n) ∈ news) (hz : vs.length ≤ 1000) (h : ∀ tk, Q (decide (0 < vs.length)) { s with toks := tk }) :
    wpAny (model prog w) A (truthy (.ref a)) Q E s := by
  refine wpAny_truthy_list (PySem.IsL.isList (n := n) (N _ hm).1) (by rw [List.size_toArray]; lia) ?_
  have e : (!vs.toArray.isEmpty) = decide (0 < vs.length) := by cases vs <;> simp
  rw [e]
  exact h _
theorem shr_nat {p : Nat} {Q : Value → Shared → Prop} (h0 : 0 < p) (h : Q (.int (((p - 1) / 2 : Nat) : Int) s.toks) { s with toks := s.toks + 1 }) :
    wpAny (model prog w) A (binaryOp .RShift (.int ((p : Int) - 1) t) (.int 1 u)) Q E s := by
  refine wpAny_rshift1_int (by lia) ?_
  rw [show ((p : Int) - 1) / 2 = (((p - 1) / 2 : Nat) : Int) by lia]
  exact h
end
section
variable {prog : Program} {w : World} {A : Around} {E : Value → Shared → Prop} {s : Shared} {b c : Array UInt8} {t u : Tok}
theorem lt_by {Q : Value → Shared → Prop} (hb : b.toList.length = 4) (hc : c.toList.length = 4) (h : Q (.bool (decide (num b.toList < num c.toList))) s) : wpAny (model prog w) A (compareOp .Lt (.bytes b t) (.bytes c u)) Q E s := by
  refine lt_bytes ?_
  rw [show decide (b.toList < c.toList) = decide (num b.toList < num c.toList) from decide_eq_decide.mpr (num_lt_iff _ _ (hb.trans hc.symm)).symm]
  exact h
theorem gt_by {Q : Value → Shared → Prop} (hb : b.toList.length = 4) (hc : c.toList.length = 4) (h : Q (.bool (decide (num c.toList < num b.toList))) s) : wpAny (model prog w) A (compareOp .Gt (.bytes b t) (.bytes c u)) Q E s := by
  refine gt_bytes ?_
  rw [show decide (c.toList < b.toList) = decide (num c.toList < num b.toList) from decide_eq_decide.mpr (num_lt_iff _ _ (hc.trans hb.symm)).symm]
  exact h
theorem eq_by {Q : Value → Shared → Prop} (hb : b.toList.length = 4) (hc : c.toList.length = 4) (h : Q (.bool (decide (num b.toList = num c.toList))) s) : wpAny (model prog w) A (compareOp .Eq (.bytes b t) (.bytes c u)) Q E s := by
  refine eq_bytes ?_
  have e : (b.toList == c.toList) = decide (num b.toList = num c.toList) := by
    by_cases q : b.toList = c.toList
    · rw [q]; simp
    · rw [show (b.toList == c.toList) = false from by simpa using q]
      symm; rw [decide_eq_false_iff_not]
      exact fun x => q (num_inj _ _ (hb.trans hc.symm) x)
  rw [e]; exact h
end
end Mine
namespace Mine
open PySem PySem.W PyProof.Rows PySem.Calls

noncomputable abbrev downIter (k : Nat) : Obj := { cls := .type "range_iterator", dict := none, data := .fields #[rawInt ((k : Int) - 1), rawInt k, rawInt (-1)], slots := #[] }

theorem meets_range_reversed0 (r : Addr) (a b c : Int) (t u v : Tok) (hc0 : ¬(!(Builtin.Range.rangeFitsLong a && Builtin.Range.rangeFitsLong b && Builtin.Range.rangeFitsLong c && Builtin.Range.rangeFitsLong (-c) && Builtin.Range.rangeFitsLong (a - c) && Builtin.Range.rangeFitsLong (Builtin.Range.rangeSize a b c))) = true) :
    Meets (Builtin.«range.__reversed__» ⟨[.ref r], []⟩) (fun _ R s => s.heap.get? r = some { cls := .type "range", dict := none, data := .fields #[.int a t, .int b u, .int c v], slots := #[] } ∧ R (.ok (.ret (Value.ref s.heap.objs.size))) { s with heap := s.heap.push { cls := Value.type (if (Builtin.Range.rangeFitsLong a && Builtin.Range.rangeFitsLong b && Builtin.Range.rangeFitsLong c && Builtin.Range.rangeFitsLong (-c) && Builtin.Range.rangeFitsLong (a - c) && Builtin.Range.rangeFitsLong (Builtin.Range.rangeSize a b c)) = true then "range_iterator" else "longrange_iterator"), data := Data.fields #[rawInt (a + (Builtin.Range.rangeSize a b c - 1) * c), rawInt (Builtin.Range.rangeSize a b c), rawInt (-c)] }, toks := s.toks }) :=
  .of_wp fun prog w A R s h => by obtain ⟨hp, g, d, tk, os⟩ := s; obtain ⟨hl, h⟩ := h; wp_walk; exact ⟨_, rfl, h⟩
theorem meets_range_reversed (r : Addr) (k : Nat) (t u v : Tok) (hk : k ≤ 1000) :
    Meets (Builtin.«range.__reversed__» ⟨[.ref r], []⟩) (fun _ R s => s.heap.get? r = some { cls := .type "range", dict := none, data := .fields #[.int 0 t, .int k u, .int 1 v], slots := #[] } ∧ R (.ok (.ret (Value.ref s.heap.objs.size))) { s with heap := s.heap.push (downIter k), toks := s.toks }) := by
  have hsz : Builtin.Range.rangeSize 0 (k : Int) 1 = (k : Int) := by
    unfold Builtin.Range.rangeSize
    rw [if_pos (by decide)]
    split
    · rw [Int.ediv_one]; lia
    · lia
  have hs : (Builtin.Range.rangeFitsLong 0 && Builtin.Range.rangeFitsLong (k : Int) && Builtin.Range.rangeFitsLong 1 && Builtin.Range.rangeFitsLong (-1) && Builtin.Range.rangeFitsLong (0 - 1) && Builtin.Range.rangeFitsLong (Builtin.Range.rangeSize 0 (k : Int) 1)) = true := by
    rw [hsz]
    simp only [Builtin.Range.rangeFitsLong, Bool.and_eq_true, decide_eq_true_eq]
    lia
  have q := meets_range_reversed0 r 0 k 1 t u v (by rw [hs]; simp)
  have e : (0 : Int) + ((k : Int) - 1) * 1 = (k : Int) - 1 := by lia
  rw [if_pos hs, hsz, e] at q
  exact q

theorem sub_rangeiter_reversed : isSubtype (.type "range_iterator") (.type "reversed") = pure false := by rw [isSubtype_type]; kernel_rfl
section
variable {prog : Program} {w : World} {A : Around} {E : Value → Shared → Prop} {s : Shared} {h₀ : Heap} {L : Addr} {m : Str → Option Value} {news : List (Addr × Obj)}
theorem call_range_reversed {r : Addr} {k : Nat} {t u v : Tok} {Q : Value → Shared → Prop} (hr : IsRange s.heap r 0 k 1 t u v) (hk : k ≤ 1000)
    (h : Q (.ref s.heap.objs.size) { s with heap := s.heap.push (downIter k) }) : wpAny (model prog w) A (call (.builtin "range.__reversed__") [.ref r]) Q E s :=
  call_meets F.slot_range_reversed ⟨_, hr, rfl⟩ F.entry_range_reversed (F.args_range_reversed_1 _) (meets_range_reversed r k t u v hk) ⟨hr, h⟩

theorem code_reversed_newR {r : Addr} {k : Nat} {t u v : Tok} {Q₁ : Value → Shared → Prop} (hr : IsRange s.heap r 0 k 1 t u v) (hk : k ≤ 1000)
    (h : Q₁ (.ref s.heap.objs.size) { s with heap := s.heap.push (downIter k) }) :
    codeAny (model prog w) A (.call (.builtin "reversed.__new__") ⟨[.type "reversed", .ref r], []⟩) (wants Q₁ E) s := by
  have hT : s.TypeIs (.ref r) "range" := ⟨_, hr, rfl⟩
  refine codeAny_of_tree ?_
  show wpAny _ A.in1 (do checkBuiltinCall "reversed.__new__" ⟨[.type "reversed", .ref r], []⟩; again (.builtin "reversed.__new__" ⟨[.type "reversed", .ref r], []⟩)) _ _ s
  refine wpAny_bind (wpAny_of_eq (F.newCall_reversed_1 _) (wpAny_pure ⟨plainId_quiet F.plain_reversed_new _, codeAny_builtin F.entry_reversed_new ?_⟩))
  rw [Around.under_plainId F.plain_reversed_new _]
  unfold Builtin.«reversed.__new__»
  refine wpAny_bind (wpAny_of_eq (newClass_reversed _) ?_)
  try dsimp only
  refine wpAny_bind (wpAny_of_eq (a := ()) (by first | rfl | kernel_rfl) ?_)
  refine wpAny_bind (wpAny_of_eq (a := ()) (by first | rfl | kernel_rfl) ?_)
  try dsimp only
  refine wpAny_bind (wpAny_specialOf hT F.slot_range_reversed.lookup ?_)
  try dsimp only
  refine wpAny_bind (wpAny_of_eq (F.slot_range_reversed.bind _) ?_)
  try dsimp only
  first
  | rw [if_neg (show ¬ ((Value.builtin "range.__reversed__" == Value.none) = true) from Bool.false_ne_true)]
  | (show wpAny _ _ (if (Value.builtin "range.__reversed__" == Value.none) = true then _ else _) _ _ _; rw [if_neg (show ¬ ((Value.builtin "range.__reversed__" == Value.none) = true) from Bool.false_ne_true)])
  refine wpAny_bind (wpAny_rule ?_)
  refine wpAny_bind (m := runValue (.call (.builtin "range.__reversed__") ⟨[.ref r], []⟩)) (show wpAny _ _ (call (.builtin "range.__reversed__") [.ref r]) _ _ _ from call_range_reversed hr hk ?_)
  first
  | exact wpAny_pure h
  | exact wpAny_bind (wpAny_pure (wpAny_pure h))

theorem call_reversed_range {r : Addr} {k : Nat} {t u v : Tok} {Q : Value → Shared → Prop} (hr : IsRange s.heap r 0 k 1 t u v) (hk : k ≤ 1000)
    (h : Q (.ref s.heap.objs.size) { s with heap := s.heap.push (downIter k) }) : wpAny (model prog w) A (call (.type "reversed") [.ref r]) Q E s := by
  refine callType_other (U := "range_iterator") (Q₁ := fun obj s₁ => obj = .ref s.heap.objs.size ∧ s₁ = { s with heap := s.heap.push (downIter k) }) (by decide +kernel) F.create_reversed ⟨_, _, F.mro_reversed⟩ F.made_reversed sub_rangeiter_reversed (F.typeCall_reversed_1 _) (code_reversed_newR hr hk ⟨rfl, rfl⟩) ?_
  rintro obj s₁ ⟨rfl, rfl⟩
  exact ⟨⟨_, Heap.get?_push_size _ rfl, rfl⟩, h⟩

theorem for_rev {env : Env} {x : Str} {body : List Stmt} {Q : Flow → Shared → Prop} {k : Nat} {m₀ : Str → Option Value} {news : List (Addr × Obj)} (J : Nat → (Str → Option Value) → List (Addr × Obj) → Prop)
    (hh : A.handled = none) (F : Fr h₀ env.locals s.heap m₀) (N : News h₀ env.locals s.heap news) (hj : J 0 m₀ news)
    (turn : ∀ i t m₁ news₁ h tk own, i < k → OwnOff own (news.map (·.1)) → J i m₁ news₁ → Fr h₀ env.locals h (fun y => if y = x then some (.int ((k - 1 - i : Nat) : Int) t) else m₁ y) → News h₀ env.locals h (news₁ ++ own) →
      wpAny (model prog w) A (execs body env) (InvPostN h₀ env.locals (J (i + 1)) own (news.map (·.1)) { s with heap := h, toks := tk } Q) E { s with heap := h, toks := tk })
    (done : ∀ m₁ news₁ h tk, J k m₁ news₁ → Fr h₀ env.locals h m₁ → News h₀ env.locals h news₁ → Q .next { s with heap := h, toks := tk }) :
    wpAny (model prog w) A (pyIter (.ref s.heap.objs.size)) (fun it s₂ => LoopAtV prog w A h₀ env x body Q E it s₂) E { s with heap := s.heap.push (downIter k) } := by
  have hit : IsRangeIter (s.heap.push (downIter k)) s.heap.objs.size ((k : Int) - 1) k (-1) := Heap.get?_push_size _ rfl
  refine wpAny_pyIter_rangeiter hit ?_
  have W : Walks prog w A s.heap.objs.size [s.heap.objs.size] [s.heap.objs.size] k (fun i v => i < k ∧ ∃ t, v = .int (((k : Int) - 1) + i * (-1)) t)
      (fun i h => IsRangeIter h s.heap.objs.size (((k : Int) - 1) + (i : Nat) * (-1)) ((k : Int) - (i : Nat)) (-1)) := (Walks.range hh _ ((k : Int) - 1) (-1) k).bound
  refine loop_invN (s := { s with heap := s.heap.push (downIter k) }) J W ?_ ?_ ?_ ?_ (by show IsRangeIter _ _ _ _ _; simpa using hit) (F.push _) (fun p hp => ⟨Heap.get?_push_of_some _ (N p hp).1, (N p hp).2⟩) hj ?_ ?_
  · intro hm
    exact absurd F.ns.lt ((List.mem_singleton.mp hm) ▸ Nat.lt_irrefl _)
  · intro b hb
    rw [List.mem_singleton.mp hb]
    exact next_is_new F
  · intro p hp hI
    exact absurd (Heap.lt_size (N p hp).1) ((List.mem_singleton.mp hI) ▸ Nat.lt_irrefl _)
  · intro p hp hI
    exact absurd (Heap.lt_size (N p hp).1) ((List.mem_singleton.mp hI) ▸ Nat.lt_irrefl _)
  · rintro i v m₁ nx h tk own hi ⟨_, t, rfl⟩ _ hoff hJ F₁ N₁
    have e1 : ((k : Int) - 1) + (i : Int) * (-1) = ((k - 1 - i : Nat) : Int) := by lia
    rw [e1] at F₁
    exact turn i t m₁ nx h tk own hi hoff hJ F₁ N₁
  · intro m₁ nx h tk hJ F₁ N₁
    exact done m₁ nx h tk hJ F₁ N₁

theorem for_rev2 {env : Env} {x : Str} {body : List Stmt} {Q : Flow → Shared → Prop} {k : Nat} {m₀ : Str → Option Value} {news : List (Addr × Obj)} (J : Nat → List (Addr × Obj) → Prop)
    (hh : A.handled = none) (F : Fr h₀ env.locals s.heap m₀) (N : News h₀ env.locals s.heap news) (hj : J 0 news)
    (turn : ∀ i t news₁ h tk own, i < k → OwnOff own (news.map (·.1)) → J i news₁ → Fr h₀ env.locals h (fun y => if y = x then some (.int ((k - 1 - i : Nat) : Int) t) else m₀ y) → News h₀ env.locals h (news₁ ++ own) →
      wpAny (model prog w) A (execs body env) (InvPostN h₀ env.locals (fun m' nx => (∀ z, z ≠ x → m' z = m₀ z) ∧ J (i + 1) nx) own (news.map (·.1)) { s with heap := h, toks := tk } Q) E { s with heap := h, toks := tk })
    (done : ∀ u news₁ h tk, J k news₁ → Fr h₀ env.locals h (fun y => if y = x then u else m₀ y) → News h₀ env.locals h news₁ → Q .next { s with heap := h, toks := tk }) :
    wpAny (model prog w) A (pyIter (.ref s.heap.objs.size)) (fun it s₂ => LoopAtV prog w A h₀ env x body Q E it s₂) E { s with heap := s.heap.push (downIter k) } := by
  refine for_rev (fun i m nx => (∀ z, z ≠ x → m z = m₀ z) ∧ J i nx) hh F N ⟨fun _ _ => rfl, hj⟩ ?_ ?_
  · rintro i t m₁ nx h tk own hi hoff ⟨hm, hJ⟩ F₁ N₁
    refine turn i t nx h tk own hi hoff hJ ?_ N₁
    have e : (fun y => if y = x then some (Value.int ((k - 1 - i : Nat) : Int) t) else m₀ y) = fun y => if y = x then some (Value.int ((k - 1 - i : Nat) : Int) t) else m₁ y := by
      funext y
      by_cases hy : y = x
      · rw [if_pos hy, if_pos hy]
      · rw [if_neg hy, if_neg hy, hm y hy]
    rw [e]; exact F₁
  · rintro m₁ nx h tk ⟨hm, hJ⟩ F₁ N₁
    refine done (m₁ x) nx h tk hJ ?_ N₁
    have e : (fun y => if y = x then m₁ x else m₀ y) = m₁ := by
      funext y
      by_cases hy : y = x
      · rw [if_pos hy, hy]
      · rw [if_neg hy, hm y hy]
    rw [e]; exact F₁
end
section
variable {prog : Program} {w : World} {A : Around} {E : Value → Shared → Prop} {s : Shared} {h₀ : Heap} {L a : Addr} {m : Str → Option Value} {news news' : List (Addr × Obj)} {vs : List Value} {n : Nat} {k : Int} {t u : Tok}
theorem pop_K9 {Q : Value → Shared → Prop} (F : Fr h₀ L s.heap m) (N : News h₀ L s.heap news) (U : Upd a (listOf vs.toArray n) (listOf vs.dropLast.toArray (n + 1)) news news') (hne : 0 < vs.length) (hz : vs.length ≤ 1000)
    (h : ∀ h' y, vs = vs.dropLast ++ [y] → Fr h₀ L h' m → News h₀ L h' news' → Q y { s with heap := h' }) : wpAny (model prog w) A (call (.builtin "list.pop") [.ref a]) Q E s := by
  have e : vs = vs.dropLast ++ [vs.getLast (by intro q; rw [q] at hne; simp at hne)] := (List.dropLast_concat_getLast _).symm
  generalize vs.getLast _ = y at e
  refine kl_pop F N (p := vs.dropLast) (y := y) ?_ U (by rw [sizeLine_eq]; simpa using (by lia : vs.length ≤ 16777216)) fun h' F' N' => h h' y e F' N'
  have e2 := kpa_last y vs.dropLast
  rw [← e] at e2
  simpa using e2
end
end Mine
namespace Mine
open PySem PySem.W PyProof.Rows PySem.Calls
theorem HeapFrom.min {vs : List Value} (h : HeapFrom 0 vs) : ∀ i, i < vs.length → ky vs 0 ≤ ky vs i := by
  intro i
  induction i using Nat.strongRecOn with
  | ind i ih =>
    intro hi
    by_cases h0 : i = 0
    · subst h0; exact Nat.le_refl _
    · have h1 := ih ((i - 1) / 2) (by omega) (by omega)
      have h2 := h i (by omega) hi (Nat.zero_le _)
      omega
theorem HeapFrom.minv {vs : List Value} (h : HeapFrom 0 vs) {v : Value} (hv : vs[0]? = some v) : ∀ x ∈ vs, vn v ≤ vn x := by
  intro x hx
  obtain ⟨i, hi, e⟩ := List.getElem_of_mem hx
  have h1 := h.min i hi
  rw [ky_of hv, ky_of (show vs[i]? = some x by rw [List.getElem?_eq_getElem hi, e])] at h1
  exact h1
theorem HeapFrom.minp {vs ds : List Value} {y d : Value} (h : HeapFrom 0 vs) (e : vs = ds ++ [y]) (h0 : ds[0]? = some d) : ∀ x ∈ vs, vn d ≤ vn x := by
  refine h.minv ?_
  cases ds with
  | nil => simp at h0
  | cons x r => rw [e]; exact h0
theorem HeapFrom.popped {vs ds : List Value} {y : Value} (h : HeapFrom 0 vs) (e : vs = ds ++ [y]) (hd : 0 < ds.length) : HeapFrom 1 (ds.set 0 y) := by
  intro c c0 cl c1
  rw [List.length_set] at cl
  rw [ky_set hd, ky_set hd, if_neg (by omega), if_neg (by omega)]
  have hk : ∀ i, i < ds.length → ky ds i = ky vs i := by
    intro i hi
    unfold ky
    rw [e, List.getD_eq_getElem?_getD, List.getD_eq_getElem?_getD, List.getElem?_append_left hi]
  rw [hk c cl, hk _ (by omega)]
  exact h c c0 (by rw [e, List.length_append]; omega) (Nat.zero_le _)
theorem perm_popped {vs ds : List Value} {y d : Value} (e : vs = ds ++ [y]) (h0 : ds[0]? = some d) : (d :: ds.set 0 y).Perm vs := by
  cases ds with
  | nil => simp at h0
  | cons x r =>
    simp only [List.getElem?_cons_zero, Option.some.injEq] at h0
    subst h0
    rw [e]
    show (x :: y :: r).Perm (x :: (r ++ [y]))
    exact (List.perm_append_singleton y r).symm.cons x
end Mine
namespace Mine
open PySem PySem.W PyProof.Rows PySem.Calls



theorem siftdown_call {w : World} {A : Around} {s : Shared} {h₀ : Heap} {L a : Addr} {m : Str → Option Value} {rest : List (Addr × Obj)} {R : Result → Shared → Prop}
    {vs : List Value} {n : Nat} {st ps : Nat} {t1 t2 : Tok} {b : Array UInt8} {tb : Tok}
    (C : Env0 w A h₀ L) (F : Fr h₀ L s.heap m) (N : News h₀ L s.heap ((a, listOf vs.toArray n) :: rest)) (hroom : A.depth < recursionLimit) (hrest : ∀ p ∈ rest, p.1 ≠ a)
    (hz : vs.length ≤ 1000) (hx : vs[ps]? = some (.bytes b tb)) (hU : Up vs st (.bytes b tb) vs ps)
    (h : ∀ h' (vs' : List Value) tk, vs'.Perm vs → HeapFrom st vs' → Fr h₀ L h' m → News h₀ L h' ((a, listOf vs'.toArray n) :: rest) → R (.ok (.ret .none)) { s with heap := h', toks := tk }) :
    codeAny (model PySem.Challenge.rw_pa0042_01.row.prog w) A (.call (.ref 130) ⟨[.ref a, .int st t1, .int ps t2], []⟩) R s := by
  have X₀ := C.X; revert X₀; k_fill; intro X₀
  refine' enter (binds := [(Str.ofString "heap", .ref a), (Str.ofString "startpos", .int st t1), (Str.ofString "pos", .int ps t2)]) C F N ?k6 ?k7 hroom ?k9 ?kB ?_ ?c2 ?c3 ?c4 ?c5
  (case k6 => k_is)
  (case k7 => k_is)
  (case k9 => exact BindsTo.of_eq rfl)
  (case c5 => decide)
  (case kB => exact locs rfl)
  (case c2 => exact rfl)
  (case c3 => exact rfl)
  (case c4 => exact rfl)
  k_whole
  clear F N C X₀
  intro g L' h₁ C' F' N' l1
  have X' := C'.X
  obtain ⟨_, _, _, mg, mb, T'⟩ := C'.T
  have hB := hU.all
  have hlt := hU.lt
  try dsimp only
  iterate 7 (first | ((with_reducible show wpAny _ _ (subscriptTail _ _ (Value.ref _) (Value.int (Nat.cast _) _)) _ _ _); refine item_byN (by k_asm) (by k_mem) (by with_reducible assumption) (by lia) (by lia) ?_; intro _ _ _ _) | ((with_reducible show wpAny _ _ (setItem (Value.ref _) (Value.int _ _) _) _ _ _); refine set_anyN (by k_asm) (by k_asm) (by k_upd) (by lia) (by lia) ?_; intro _ _ _; (try k_sweep)) | ((with_reducible show wpAny _ _ (compareOp CmpOp.Lt (Value.bytes _ _) (Value.bytes _ _)) _ _ _); with_reducible (refine lt_by (by assumption) (by assumption) ?_)) | ((with_reducible show wpAny _ _ (binaryOp Operator.RShift _ _) _ _ _); with_reducible (refine shr_nat (by lia) ?_)) | walk1)
  rename Fr _ _ _ _ => F1
  rename News _ _ _ _ => N1
  rename_i b' t' e' l' h2
  have eb : Value.bytes b' t' = Value.bytes b tb := Option.some.inj (e'.symm.trans (by simpa using hx))
  cases eb
  walk1
  with_unfolding_all refine ksw_while (σ := List Value × Nat × Tok) (fun c => (a, listOf c.1.toArray n) :: rest) (fun c => [(Str.ofString "pos", .int c.2.1 c.2.2)]) (fun _ => True) [Str.ofString "parentpos", Str.ofString "parent"] (fun c => Up vs st (.bytes b tb) c.1 c.2.1) (fun c => c.2.1) (vs, ps, t2) F1 N1 trivial ?kk hU ?turn PassesOwn.never
  case kk => exact List.forall_mem_cons.mpr ⟨rfl, List.forall_mem_nil _⟩
  case turn =>
    clear F1 N1 hB hlt
    rintro ⟨vs1, p, tp⟩ u hh tk _ hU1 F1 N1
    dsimp only [kstB] at hU1 F1 N1
    have hB := hU1.all
    have hlt := hU1.lt
    have hlen := hU1.len
    have hde := hU1.desc.le
    repeat' (first | ((with_reducible show wpAny _ _ (subscriptTail _ _ (Value.ref _) (Value.int (Nat.cast _) _)) _ _ _); refine item_byN (by k_asm) (by k_mem) (by with_reducible assumption) (by lia) (by lia) ?_; intro _ _ _ _) | ((with_reducible show wpAny _ _ (setItem (Value.ref _) (Value.int _ _) _) _ _ _); refine set_anyN (by k_asm) (by k_asm) (by k_upd) (by lia) (by lia) ?_; intro _ _ _; (try k_sweep)) | ((with_reducible show wpAny _ _ (compareOp CmpOp.Lt (Value.bytes _ _) (Value.bytes _ _)) _ _ _); with_reducible (refine lt_by (by assumption) (by assumption) ?_)) | ((with_reducible show wpAny _ _ (binaryOp Operator.RShift _ _) _ _ _); with_reducible (refine shr_nat (by lia) ?_)) | walk1 | (dsimp only; walk1))
    · rename (_[_]? = some (Value.bytes _ _)) => e2
      rename (num _ < num _) => q2
      rename (Fr _ _ _ _) => F2
      rename (News _ _ _ _) => N2
      rename (List.length _ = 4) => l2
      refine ksw_end (_, (p - 1) / 2, _) F2 N2 (fun _ hp => hp) trivial (List.forall_mem_cons.mpr ⟨rfl, List.forall_mem_nil _⟩) (by ksw_same) (hU1.step (by lia) e2 q2 ⟨_, _, rfl, l2⟩) ?_
      show (p - 1) / 2 < p
      lia
    · rename (_[_]? = some (Value.bytes _ _)) => e2
      rename (¬ num _ < num _) => q2
      rename (Fr _ _ _ _) => F2
      rename (News _ _ _ _) => N2
      refine leaveK_ F2 N2 fun F3 N3 => h _ _ _ hU1.perm (hU1.done (.inr ?_)) F3 N3
      rw [ky_of e2]
      exact Nat.le_of_not_lt q2
    · rename (Fr _ _ _ _) => F2
      rename (News _ _ _ _) => N2
      exact leaveK_ F2 N2 fun F3 N3 => h _ _ _ hU1.perm (hU1.done (.inl (by lia))) F3 N3
end Mine
namespace Mine
open PySem PySem.W PyProof.Rows PySem.Calls


theorem siftup_call {w : World} {A : Around} {s : Shared} {h₀ : Heap} {L a : Addr} {m : Str → Option Value} {rest : List (Addr × Obj)} {R : Result → Shared → Prop}
    {vs : List Value} {n : Nat} {ps : Nat} {t2 : Tok}
    (C : Env0 w A h₀ L) (F : Fr h₀ L s.heap m) (N : News h₀ L s.heap ((a, listOf vs.toArray n) :: rest)) (hroom : A.depth + 1 < recursionLimit) (hrest : ∀ p ∈ rest, p.1 ≠ a)
    (hz : vs.length ≤ 1000) (hps : ps < vs.length) (hB₀ : AllBy vs) (hH : HeapFrom (ps + 1) vs)
    (h : ∀ h' (vs' : List Value) tk, vs'.Perm vs → HeapFrom ps vs' → Fr h₀ L h' m → News h₀ L h' ((a, listOf vs'.toArray n) :: rest) → R (.ok (.ret .none)) { s with heap := h', toks := tk }) :
    codeAny (model PySem.Challenge.rw_pa0042_01.row.prog w) A (.call (.ref 137) ⟨[.ref a, .int ps t2], []⟩) R s := by
  have X₀ := C.X; revert X₀; k_fill; intro X₀
  refine' enter (binds := [(Str.ofString "heap", .ref a), (Str.ofString "pos", .int ps t2)]) C F N ?k6 ?k7 (by lia) ?k9 ?kB ?_ ?c2 ?c3 ?c4 ?c5
  (case k6 => k_is)
  (case k7 => k_is)
  (case k9 => exact BindsTo.of_eq rfl)
  (case c5 => decide)
  (case kB => exact locs rfl)
  (case c2 => exact rfl)
  (case c3 => exact rfl)
  (case c4 => exact rfl)
  k_whole
  clear F N C X₀
  intro g L' h₁ C' F' N' l1
  have X' := C'.X
  obtain ⟨_, _, _, mg, mb, T'⟩ := C'.T
  try dsimp only
  repeat' ((fail_if_success (with_reducible show wpAny _ _ (exec (Stmt.While _ _ _ _) _) _ _ _)); first | ((with_reducible show wpAny _ _ (subscriptTail _ _ (Value.ref _) (Value.int (Nat.cast _) _)) _ _ _); refine item_byN (by k_asm) (by k_mem) (by with_reducible assumption) (by lia) (by lia) ?_; intro _ _ _ _) | ((with_reducible show wpAny _ _ (subscriptTail _ _ (Value.ref _) (Value.int _ _)) _ _ _); refine item_by (by k_asm) (by k_mem) (by with_reducible assumption) (by lia) (by lia) (by lia) ?_; intro _ _ _ _) | ((with_reducible show wpAny _ _ (setItem (Value.ref _) (Value.int _ _) _) _ _ _); refine set_anyN (by k_asm) (by k_asm) (by k_upd) (by lia) (by lia) ?_; intro _ _ _; (try k_sweep)) | ((with_reducible show wpAny _ _ (compareOp CmpOp.Lt (Value.bytes _ _) (Value.bytes _ _)) _ _ _); with_reducible (refine lt_by (by assumption) (by assumption) ?_)) | ((with_reducible show wpAny _ _ (call (Value.builtin "len") [Value.ref _]) _ _ _); refine len_K9 (by k_asm) (by k_mem) (by lia) ?_; intro _ _) | walk1 | (dsimp only; walk1))
  rename (_[_]? = some (Value.bytes _ _)) => e'
  rename (Fr _ _ _ _) => F1
  rename (News _ _ _ _) => N1
  rename (List.length _ = 4) => l'
  rename_i b tb _ _
  have hD := Down.start hB₀ hps e' hH
  obtain ⟨tc0, hc0⟩ := Fr_tok F1 (Str.ofString "childpos") (fun t => .int (2 * (ps : Int) + 1) t) ⟨_, rfl⟩
  with_unfolding_all refine ksw_while (σ := List Value × Nat × Tok × Tok) (fun c => (a, listOf c.1.toArray n) :: rest) (fun c => [(Str.ofString "pos", .int c.2.1 c.2.2.1), (Str.ofString "childpos", .int (2 * (c.2.1 : Int) + 1) c.2.2.2)]) (fun _ => True) [Str.ofString "rightpos"] (fun c => Down vs ps (.bytes b tb) c.1 c.2.1) (fun c => vs.length - c.2.1) (vs, ps, t2, tc0) F1 N1 trivial ?kk hD ?turn PassesOwn.never
  case kk => exact List.forall_mem_cons.mpr ⟨rfl, List.forall_mem_cons.mpr ⟨hc0, List.forall_mem_nil _⟩⟩
  case turn =>
    clear F1 N1 
    rintro ⟨vs1, p, tp, tc⟩ u hh tk _ hU1 F1 N1
    dsimp only [kstB] at hU1 F1 N1
    have hB := hU1.all
    have hlt := hU1.lt
    have hlen := hU1.len
    have hde := hU1.desc.le
    repeat' (first | ((with_reducible show wpAny _ _ (subscriptTail _ _ (Value.ref _) (Value.int (Nat.cast _) _)) _ _ _); refine item_byN (by k_asm) (by k_mem) (by with_reducible assumption) (by lia) (by lia) ?_; intro _ _ _ _) | ((with_reducible show wpAny _ _ (subscriptTail _ _ (Value.ref _) (Value.int _ _)) _ _ _); refine item_by (by k_asm) (by k_mem) (by with_reducible assumption) (by lia) (by lia) (by lia) ?_; intro _ _ _ _) | ((with_reducible show wpAny _ _ (setItem (Value.ref _) (Value.int _ _) _) _ _ _); refine set_anyN (by k_asm) (by k_asm) (by k_upd) (by lia) (by lia) ?_; intro _ _ _; (try k_sweep)) | ((with_reducible show wpAny _ _ (compareOp CmpOp.Lt (Value.bytes _ _) (Value.bytes _ _)) _ _ _); with_reducible (refine lt_by (by assumption) (by assumption) ?_)) | ((with_reducible show wpAny _ _ (call (Value.builtin "len") [Value.ref _]) _ _ _); refine len_K9 (by k_asm) (by k_mem) (by lia) ?_; intro _ _) | walk1 | (dsimp only; walk1))
    · rename (_[(2 * (p : Int) + 1 + 1).toNat]? = some (Value.bytes _ _)) => e1
      rename (_[_]? = some (Value.bytes _ _)) => e2
      rename (num _ < num _) => q2
      rename (Fr _ _ _ _) => F2
      rename (News _ _ _ _) => N2
      rename (List.length _ = 4) => l2
      have e1' : ky vs1 (2 * p + 2) = _ := ky_of e1
      have e2' : vs1[2 * p + 1]? = _ := e2
      have e3' : ky vs1 (2 * p + 1) = _ := ky_of e2
      have hl1 : 2 * p + 1 < vs1.length := by lia
      have q2' : ky vs1 (2 * p + 1) < ky vs1 (2 * p + 2) := ky_lt (by assumption) (by assumption) q2
      refine ksw_end (_, 2 * p + 1, _, _) F2 N2 (fun _ hp => hp) trivial (List.forall_mem_cons.mpr ⟨rfl, List.forall_mem_cons.mpr ⟨rfl, List.forall_mem_nil _⟩⟩) (by ksw_same) (hU1.step (.inl rfl) hl1 e2' ?_ ⟨_, _, rfl, l2⟩) (by show vs.length - (2 * p + 1) < vs.length - p; lia)
      rintro d (hd | hd) dl
      · rw [hd, e3']; exact Nat.le_refl _
      · rw [hd, ← ky_of e2']; lia
    · rename (_[(2 * (p : Int) + 1).toNat]? = some (Value.bytes _ _)) => e1
      rename (_[_]? = some (Value.bytes _ _)) => e2
      rename (¬ num _ < num _) => q2
      rename (Fr _ _ _ _) => F2
      rename (News _ _ _ _) => N2
      rename (List.length _ = 4) => l2
      have e2' : vs1[2 * p + 2]? = _ := e2
      have hl1 : 2 * p + 2 < vs1.length := by lia
      have e1' : ky vs1 (2 * p + 1) = _ := ky_of e1
      have q2' : ky vs1 (2 * p + 2) ≤ ky vs1 (2 * p + 1) := ky_le (by assumption) (by assumption) q2
      refine ksw_end (_, 2 * p + 2, _, _) F2 N2 (fun _ hp => hp) trivial (List.forall_mem_cons.mpr ⟨rfl, List.forall_mem_cons.mpr ⟨rfl, List.forall_mem_nil _⟩⟩) (by ksw_same) (hU1.step (.inr rfl) hl1 e2' ?_ ⟨_, _, rfl, l2⟩) (by show vs.length - (2 * p + 2) < vs.length - p; lia)
      rintro d (hd | hd) dl
      · rw [hd, ← ky_of e2']; exact q2'
      · rw [hd, ← ky_of e2']; exact Nat.le_refl _
    · rename (_[_]? = some (Value.bytes _ _)) => e2
      rename (Fr _ _ _ _) => F2
      rename (News _ _ _ _) => N2
      rename (List.length _ = 4) => l2
      have e2' : vs1[2 * p + 1]? = _ := e2
      have hl1 : 2 * p + 1 < vs1.length := by lia
      refine ksw_end (_, 2 * p + 1, _, _) F2 N2 (fun _ hp => hp) trivial (List.forall_mem_cons.mpr ⟨rfl, List.forall_mem_cons.mpr ⟨rfl, List.forall_mem_nil _⟩⟩) (by ksw_same) (hU1.step (.inl rfl) hl1 e2' ?_ ⟨_, _, rfl, l2⟩) (by show vs.length - (2 * p + 1) < vs.length - p; lia)
      rintro d (hd | hd) dl
      · rw [hd, ← ky_of e2']; exact Nat.le_refl _
      · lia
    · rename (Fr _ _ _ _) => F2
      rename (News _ _ _ _) => N2
      have hU2 := hU1.up (by lia) ⟨b, tb, rfl, l'⟩
      have hx2 : (vs1.set p (.bytes b tb))[p]? = some (.bytes b tb) := List.getElem?_set_self hlt
      refine wpAny_call (siftdown_call C' F2 N2 (by show A.depth + 1 < _; lia) hrest (by rw [List.length_set]; lia) hx2 hU2.self fun h3 vs' tk3 hp3 hh3 F3 N3 => ?_)
      repeat' (first | ((with_reducible show wpAny _ _ (subscriptTail _ _ (Value.ref _) (Value.int (Nat.cast _) _)) _ _ _); refine item_byN (by k_asm) (by k_mem) (by with_reducible assumption) (by lia) (by lia) ?_; intro _ _ _ _) | ((with_reducible show wpAny _ _ (subscriptTail _ _ (Value.ref _) (Value.int _ _)) _ _ _); refine item_by (by k_asm) (by k_mem) (by with_reducible assumption) (by lia) (by lia) (by lia) ?_; intro _ _ _ _) | ((with_reducible show wpAny _ _ (setItem (Value.ref _) (Value.int _ _) _) _ _ _); refine set_anyN (by k_asm) (by k_asm) (by k_upd) (by lia) (by lia) ?_; intro _ _ _; (try k_sweep)) | ((with_reducible show wpAny _ _ (compareOp CmpOp.Lt (Value.bytes _ _) (Value.bytes _ _)) _ _ _); with_reducible (refine lt_by (by assumption) (by assumption) ?_)) | ((with_reducible show wpAny _ _ (call (Value.builtin "len") [Value.ref _]) _ _ _); refine len_K9 (by k_asm) (by k_mem) (by lia) ?_; intro _ _) | walk1 | (dsimp only; walk1))
      exact leaveK_ F3 N3 fun F4 N4 => h _ _ _ (hp3.trans hU1.perm) hh3 F4 N4
end Mine
namespace Mine
open PySem PySem.W PyProof.Rows PySem.Calls

theorem heapify_call {w : World} {A : Around} {s : Shared} {h₀ : Heap} {L a : Addr} {m : Str → Option Value} {rest : List (Addr × Obj)} {R : Result → Shared → Prop}
    {vs : List Value} {n : Nat}
    (C : Env0 w A h₀ L) (F : Fr h₀ L s.heap m) (N : News h₀ L s.heap ((a, listOf vs.toArray n) :: rest)) (hroom : A.depth + 2 < recursionLimit) (hrest : ∀ p ∈ rest, p.1 ≠ a)
    (hz : vs.length ≤ 1000) (hB₀ : AllBy vs)
    (h : ∀ h' (vs' : List Value) tk, vs'.Perm vs → HeapFrom 0 vs' → Fr h₀ L h' m → News h₀ L h' ((a, listOf vs'.toArray n) :: rest) → R (.ok (.ret .none)) { s with heap := h', toks := tk }) :
    codeAny (model PySem.Challenge.rw_pa0042_01.row.prog w) A (.call (.ref 123) ⟨[.ref a], []⟩) R s := by
  have X₀ := C.X; revert X₀; k_fill; intro X₀
  refine' enter (binds := [(Str.ofString "x", .ref a)]) C F N ?k6 ?k7 (by lia) ?k9 ?kB ?_ ?c2 ?c3 ?c4 ?c5
  (case k6 => k_is)
  (case k7 => k_is)
  (case k9 => exact BindsTo.of_eq rfl)
  (case c5 => decide)
  (case kB => exact locs rfl)
  (case c2 => exact rfl)
  (case c3 => exact rfl)
  (case c4 => exact rfl)
  k_whole
  clear F N C X₀
  intro g L' h₁ C' F' N' l1
  have X' := C'.X
  obtain ⟨_, _, _, mg, mb, T'⟩ := C'.T
  try dsimp only
  repeat' (first | ((with_reducible show wpAny _ _ (call (Value.builtin "len") [Value.ref _]) _ _ _); refine len_K9 (by k_asm) (by k_mem) (by lia) ?_; intro _ _) | walk1 | (dsimp only; walk1))
  rename (IsRange _ _ _ _ _ _ _ _) => hr
  rename (Fr _ _ _ _) => F1
  rename (News _ _ _ _) => N1
  have ek : ((vs.length : Int)).fdiv 2 = ((vs.length / 2 : Nat) : Int) := by
    rw [Int.fdiv_eq_ediv_of_nonneg _ (by lia)]; lia
  rw [ek] at hr
  refine call_reversed_range hr (by lia) ?_
  refine for_rev2 (fun i nx => ∃ vs1 : List Value, nx = (a, listOf vs1.toArray n) :: rest ∧ vs1.Perm vs ∧ HeapFrom (vs.length / 2 - i) vs1) C'.H F1 N1 ⟨vs, rfl, .refl _, HeapFrom.half vs⟩ ?_ ?_
  · clear F1 N1 hr
    rintro i t nx h2 tk2 own hi hoff ⟨vs1, rfl, hp1, hh1⟩ F2 N2
    have hlen := hp1.length_eq
    have hrest2 : ∀ p ∈ rest ++ own, p.1 ≠ a := by
      intro p hp
      rcases List.mem_append.mp hp with q | q
      · exact hrest p q
      · exact hoff p q a (List.mem_map.mpr ⟨_, List.mem_cons_self .., rfl⟩)
    rw [List.cons_append] at N2
    repeat' (first | ((with_reducible show wpAny _ _ (call (Value.builtin "len") [Value.ref _]) _ _ _); refine len_K9 (by k_asm) (by k_mem) (by lia) ?_; intro _ _) | walk1 | (dsimp only; walk1))
    refine wpAny_call (siftup_call C' F2 N2 (by show A.depth + 1 + 1 < _; lia) hrest2 (by lia) (by lia) (hB₀.perm hp1) ?_ fun h3 vs' tk3 hp3 hh3 F3 N3 => ?_)
    · rw [show vs.length / 2 - 1 - i + 1 = vs.length / 2 - i by lia]; exact hh1
    · repeat' (first | ((with_reducible show wpAny _ _ (call (Value.builtin "len") [Value.ref _]) _ _ _); refine len_K9 (by k_asm) (by k_mem) (by lia) ?_; intro _ _) | walk1 | (dsimp only; walk1))
      refine ⟨_, _, _, _, (a, listOf vs'.toArray n) :: rest, rfl, F3, N3, fun p hp => ?_, fun p hp => ?_, rfl, fun z hz => if_neg hz, vs', rfl, hp3.trans hp1, ?_⟩
      · rcases List.mem_cons.mp hp with q | q
        · exact q ▸ List.mem_cons_self ..
        · exact List.mem_cons_of_mem _ (List.mem_append_left _ q)
      · exact List.mem_cons_of_mem _ (List.mem_append_right _ hp)
      · rw [show vs.length / 2 - (i + 1) = vs.length / 2 - 1 - i by lia]; exact hh3
  · clear F1 N1 hr
    rintro u nx h2 tk2 ⟨vs1, rfl, hp1, hh1⟩ F2 N2
    repeat' (first | ((with_reducible show wpAny _ _ (call (Value.builtin "len") [Value.ref _]) _ _ _); refine len_K9 (by k_asm) (by k_mem) (by lia) ?_; intro _ _) | walk1 | (dsimp only; walk1))
    rw [Nat.sub_self] at hh1
    exact leaveK_ F2 N2 fun F4 N4 => h _ _ _ hp1 hh1 F4 N4
end Mine
namespace Mine
open PySem PySem.W PyProof.Rows PySem.Calls


theorem heappop_call {w : World} {A : Around} {s : Shared} {h₀ : Heap} {L a : Addr} {m : Str → Option Value} {rest : List (Addr × Obj)} {R : Result → Shared → Prop}
    {vs : List Value} {n : Nat}
    (C : Env0 w A h₀ L) (F : Fr h₀ L s.heap m) (N : News h₀ L s.heap ((a, listOf vs.toArray n) :: rest)) (hroom : A.depth + 2 < recursionLimit) (hrest : ∀ p ∈ rest, p.1 ≠ a)
    (hz : vs.length ≤ 1000) (hne : 0 < vs.length) (hB₀ : AllBy vs) (hH : HeapFrom 0 vs)
    (h : ∀ h' (v : Value) (vs' : List Value) tk, (v :: vs').Perm vs → HeapFrom 0 vs' → (∀ x ∈ vs, vn v ≤ vn x) → Fr h₀ L h' m → News h₀ L h' ((a, listOf vs'.toArray (n + 1)) :: rest) → R (.ok (.ret v)) { s with heap := h', toks := tk }) :
    codeAny (model PySem.Challenge.rw_pa0042_01.row.prog w) A (.call (.ref 116) ⟨[.ref a], []⟩) R s := by
  have X₀ := C.X; revert X₀; k_fill; intro X₀
  refine' enter (binds := [(Str.ofString "heap", .ref a)]) C F N ?k6 ?k7 (by lia) ?k9 ?kB ?_ ?c2 ?c3 ?c4 ?c5
  (case k6 => k_is)
  (case k7 => k_is)
  (case k9 => exact BindsTo.of_eq rfl)
  (case c5 => decide)
  (case kB => exact locs rfl)
  (case c2 => exact rfl)
  (case c3 => exact rfl)
  (case c4 => exact rfl)
  k_whole
  clear F N C X₀
  intro g L' h₁ C' F' N' l1
  have X' := C'.X
  obtain ⟨_, _, _, mg, mb, T'⟩ := C'.T
  have hdl : vs.dropLast.length = vs.length - 1 := List.length_dropLast
  have hdB : AllBy vs.dropLast := fun v hv => hB₀ v (List.dropLast_subset _ hv)
  try dsimp only
  repeat' (first | ((with_reducible show wpAny _ _ (truthy (Value.ref _)) _ _ _); refine truthy_K9 (by k_asm) (by k_mem) (by lia) ?_; intro _) | ((with_reducible show wpAny _ _ (call (Value.builtin "list.pop") [Value.ref _]) _ _ _); refine pop_K9 (by k_asm) (by k_asm) (by k_upd) (by lia) (by lia) ?_; intro _ _ _ _ _; (try k_sweep)) | ((with_reducible show wpAny _ _ (subscriptTail _ _ (Value.ref _) (Value.int _ _)) _ _ _); refine item_by (by k_asm) (by k_mem) (by with_reducible assumption) (by lia) (by lia) (by lia) ?_; intro _ _ _ _) | ((with_reducible show wpAny _ _ (setItem (Value.ref _) (Value.int _ _) _) _ _ _); refine set_any (by k_asm) (by k_asm) (by k_upd) (by lia) (by lia) (by lia) ?_; intro _ _ _; (try k_sweep)) | walk1 | (dsimp only; walk1))
  · rename (_[_]? = some (Value.bytes _ _)) => e0
    rename (_ = _ ++ [_]) => e1
    rename (Fr _ _ _ _) => F1
    rename (News _ _ _ _) => N1
    rename (0 < vs.dropLast.length) => hd0
    have hp1 := perm_popped e1 e0
    have hB1 : AllBy (vs.dropLast.set 0 _) := fun x hx => hB₀ x (hp1.mem_iff.mp (List.mem_cons_of_mem _ hx))
    refine wpAny_call (siftup_call (ps := 0) C' F1 N1 (by show A.depth + 1 + 1 < _; lia) hrest (by show (vs.dropLast.set 0 _).length ≤ _; rw [List.length_set]; lia) (by show 0 < (vs.dropLast.set 0 _).length; rw [List.length_set]; lia) hB1 (hH.popped e1 hd0) fun h3 vs' tk3 hp3 hh3 F3 N3 => ?_)
    repeat' (first | ((with_reducible show wpAny _ _ (truthy (Value.ref _)) _ _ _); refine truthy_K9 (by k_asm) (by k_mem) (by lia) ?_; intro _) | ((with_reducible show wpAny _ _ (call (Value.builtin "list.pop") [Value.ref _]) _ _ _); refine pop_K9 (by k_asm) (by k_asm) (by k_upd) (by lia) (by lia) ?_; intro _ _ _ _ _; (try k_sweep)) | ((with_reducible show wpAny _ _ (subscriptTail _ _ (Value.ref _) (Value.int _ _)) _ _ _); refine item_by (by k_asm) (by k_mem) (by with_reducible assumption) (by lia) (by lia) (by lia) ?_; intro _ _ _ _) | ((with_reducible show wpAny _ _ (setItem (Value.ref _) (Value.int _ _) _) _ _ _); refine set_any (by k_asm) (by k_asm) (by k_upd) (by lia) (by lia) (by lia) ?_; intro _ _ _; (try k_sweep)) | walk1 | (dsimp only; walk1))
    refine leaveK_ F3 N3 fun F4 N4 => h _ _ vs' _ ((hp3.cons _).trans hp1) hh3 (hH.minp e1 e0) F4 N4
  · rename (_ = _ ++ [_]) => e1
    rename (Fr _ _ _ _) => F1
    rename (News _ _ _ _) => N1
    rename (¬ 0 < vs.dropLast.length) => hd0
    have e3 : vs.dropLast = [] := List.eq_nil_of_length_eq_zero (by lia)
    rw [e3] at e1 N1
    refine leaveK_ F1 N1 fun F4 N4 => h _ _ [] _ (by rw [e1]; exact .refl _) (by intro c c0 cl; simp at cl) ?_ F4 N4
    intro x hx
    rw [e1] at hx
    rw [List.mem_singleton.mp hx]
    exact Nat.le_refl _
end Mine
namespace Mine
open PySem PySem.W PyProof.Rows PySem.Calls
section
variable {prog : Program} {w : World} {A : Around} {E : Value → Shared → Prop} {s : Shared} {x c : Int} {t u : Tok} {Q : Value → Shared → Prop}
/-- of what is not negative, by what is positive -/
theorem div_pos (hc : 0 < c) (h1 : c < 1000000000) (h : Q (.int (x / c) s.toks) { s with toks := s.toks + 1 }) : wpAny (model prog w) A (binaryOp .FloorDiv (.int x t) (.int c u)) Q E s := by
  refine floordiv_int (by omega) ?_ (Or.inl (PyProof.noPylong_small ?_))
  · rw [Int.fdiv_eq_ediv_of_nonneg _ (by omega)]; exact h
  · omega
theorem mod_pos (hc : 0 < c) (h : Q (.int (x % c) s.toks) { s with toks := s.toks + 1 }) : wpAny (model prog w) A (binaryOp .Mod (.int x t) (.int c u)) Q E s := by
  refine mod_int' (by omega) ?_
  rw [Int.fmod_eq_emod_of_nonneg _ (by omega)]; exact h
end
end Mine
namespace Mine
open PySem PySem.W PyProof.Rows PySem.Calls
/-- a figure to the base 64 and its sign -/
noncomputable def Sg (v c : Int) : Prop := (0 ≤ v ∧ v < 26 ∧ c = v + 65) ∨ (26 ≤ v ∧ v < 52 ∧ c = v + 71) ∨ (52 ≤ v ∧ v < 62 ∧ c = v - 4) ∨ (v = 62 ∧ c = 43) ∨ (v = 63 ∧ c = 47)
theorem buffer_call {w : World} {A : Around} {s : Shared} {h₀ : Heap} {L : Addr} {m : Str → Option Value} {news : List (Addr × Obj)} {R : Result → Shared → Prop} {b : Array UInt8} {t : Tok}
    (C : Env0 w A h₀ L) (F : Fr h₀ L s.heap m) (N : News h₀ L s.heap news) (hroom : A.depth + 0 < recursionLimit) 
    (h : ∀ h' tk, Fr h₀ L h' m → News h₀ L h' news → R (.ok (.ret (.bytes b t))) { s with heap := h', toks := tk }) :
    codeAny (model PySem.Challenge.rw_pa0042_01.row.prog w) A (.call (.ref 63) ⟨[.bytes b t], []⟩) R s := by
  have X₀ := C.X; revert X₀; k_fill; intro X₀
  obtain ⟨hdl, dep, frs, gds, unt⟩ := A
  have hH : hdl = none := C.H
  subst hH
  replace hroom : dep + 0 < recursionLimit := hroom
  refine' enter (binds := [(Str.ofString "data", .bytes b t)]) C F N ?k6 ?k7 ?kr ?k9 ?kB ?_ ?c2 ?c3 ?c4 ?c5
  (case k6 => k_is)
  (case k7 => k_is)
  (case kr => (show dep < recursionLimit; lia))
  (case k9 => first | exact BindsTo.of_eq rfl | exact binds_K (by k_in) rfl (by k_is) rfl rfl rfl)
  (case c5 => decide)
  (case kB => exact locs rfl)
  (case c2 => exact rfl)
  (case c3 => exact rfl)
  (case c4 => exact rfl)
  k_whole
  clear F N C X₀
  intro g L' h₁ C' F' N' l1
  have X' := C'.X
  obtain ⟨_, _, _, mg, mb, T'⟩ := C'.T
  try dsimp only
  repeat' (first | ((with_reducible show wpAny _ _ (call (Value.type "type") _) _ _ _); with_reducible (first | refine call_type_of (typeIs_bytes _ _ _) (by decide) ?_ | refine call_type_of (Tx := "bool") rfl (by decide) ?_)) | ((with_reducible show wpAny _ _ (compareOp CmpOp.Is _ _) _ _ _); with_reducible (first | refine wpAny_is_self (by rfl) ?_ | refine wpAny_is_other (by rfl) (by decide) ?_)) | walk1 | (dsimp only; walk1))
  rename (Fr _ _ _ _) => F2
  rename (News _ _ _ _) => N2
  exact leaveK_ F2 N2 fun F3 N3 => h _ _ F3 N3

theorem truth_call {w : World} {A : Around} {s : Shared} {h₀ : Heap} {L : Addr} {m : Str → Option Value} {news : List (Addr × Obj)} {R : Result → Shared → Prop} {b : Bool}
    (C : Env0 w A h₀ L) (F : Fr h₀ L s.heap m) (N : News h₀ L s.heap news) (hroom : A.depth + 0 < recursionLimit) 
    (h : ∀ h' tk, Fr h₀ L h' m → News h₀ L h' news → R (.ok (.ret (.bool b))) { s with heap := h', toks := tk }) :
    codeAny (model PySem.Challenge.rw_pa0042_01.row.prog w) A (.call (.ref 70) ⟨[.bool b], []⟩) R s := by
  have X₀ := C.X; revert X₀; k_fill; intro X₀
  obtain ⟨hdl, dep, frs, gds, unt⟩ := A
  have hH : hdl = none := C.H
  subst hH
  replace hroom : dep + 0 < recursionLimit := hroom
  refine' enter (binds := [(Str.ofString "x", .bool b)]) C F N ?k6 ?k7 ?kr ?k9 ?kB ?_ ?c2 ?c3 ?c4 ?c5
  (case k6 => k_is)
  (case k7 => k_is)
  (case kr => (show dep < recursionLimit; lia))
  (case k9 => first | exact BindsTo.of_eq rfl | exact binds_K (by k_in) rfl (by k_is) rfl rfl rfl)
  (case c5 => decide)
  (case kB => exact locs rfl)
  (case c2 => exact rfl)
  (case c3 => exact rfl)
  (case c4 => exact rfl)
  k_whole
  clear F N C X₀
  intro g L' h₁ C' F' N' l1
  have X' := C'.X
  obtain ⟨_, _, _, mg, mb, T'⟩ := C'.T
  try dsimp only
  repeat' (first | ((with_reducible show wpAny _ _ (call (Value.type "type") _) _ _ _); with_reducible (first | refine call_type_of (typeIs_bytes _ _ _) (by decide) ?_ | refine call_type_of (Tx := "bool") rfl (by decide) ?_)) | ((with_reducible show wpAny _ _ (compareOp CmpOp.Is _ _) _ _ _); with_reducible (first | refine wpAny_is_self (by rfl) ?_ | refine wpAny_is_other (by rfl) (by decide) ?_)) | walk1 | (dsimp only; walk1))
  all_goals (rename (Fr _ _ _ _) => F2; rename (News _ _ _ _) => N2; subst b; exact leaveK_ F2 N2 fun F3 N3 => h _ _ F3 N3)

theorem ascii_call {w : World} {A : Around} {s : Shared} {h₀ : Heap} {L : Addr} {m : Str → Option Value} {news : List (Addr × Obj)} {R : Result → Shared → Prop} {b : Array UInt8} {t : Tok}
    (C : Env0 w A h₀ L) (F : Fr h₀ L s.heap m) (N : News h₀ L s.heap news) (hroom : A.depth + 0 < recursionLimit) 
    (h : ∀ h' tk, Fr h₀ L h' m → News h₀ L h' news → R (.ok (.ret (.bytes b t))) { s with heap := h', toks := tk }) :
    codeAny (model PySem.Challenge.rw_pa0042_01.row.prog w) A (.call (.ref 56) ⟨[.bytes b t], []⟩) R s := by
  have X₀ := C.X; revert X₀; k_fill; intro X₀
  obtain ⟨hdl, dep, frs, gds, unt⟩ := A
  have hH : hdl = none := C.H
  subst hH
  replace hroom : dep + 0 < recursionLimit := hroom
  refine' enter (binds := [(Str.ofString "data", .bytes b t)]) C F N ?k6 ?k7 ?kr ?k9 ?kB ?_ ?c2 ?c3 ?c4 ?c5
  (case k6 => k_is)
  (case k7 => k_is)
  (case kr => (show dep < recursionLimit; lia))
  (case k9 => first | exact BindsTo.of_eq rfl | exact binds_K (by k_in) rfl (by k_is) rfl rfl rfl)
  (case c5 => decide)
  (case kB => exact locs rfl)
  (case c2 => exact rfl)
  (case c3 => exact rfl)
  (case c4 => exact rfl)
  k_whole
  clear F N C X₀
  intro g L' h₁ C' F' N' l1
  have X' := C'.X
  obtain ⟨_, _, _, mg, mb, T'⟩ := C'.T
  try dsimp only
  repeat' (first | ((with_reducible show wpAny _ _ (call (Value.type "type") _) _ _ _); with_reducible (first | refine call_type_of (typeIs_bytes _ _ _) (by decide) ?_ | refine call_type_of (Tx := "bool") rfl (by decide) ?_)) | ((with_reducible show wpAny _ _ (compareOp CmpOp.Is _ _) _ _ _); with_reducible (first | refine wpAny_is_self (by rfl) ?_ | refine wpAny_is_other (by rfl) (by decide) ?_)) | walk1 | (dsimp only; walk1))
  rename (Fr _ _ _ _) => F2
  rename (News _ _ _ _) => N2
  exact leaveK_ F2 N2 fun F3 N3 => h _ _ F3 N3

theorem decdata_call {w : World} {A : Around} {s : Shared} {h₀ : Heap} {L : Addr} {m : Str → Option Value} {news : List (Addr × Obj)} {R : Result → Shared → Prop} {b : Array UInt8} {t : Tok}
    (C : Env0 w A h₀ L) (F : Fr h₀ L s.heap m) (N : News h₀ L s.heap news) (hroom : A.depth + 0 < recursionLimit) 
    (h : ∀ h' tk, Fr h₀ L h' m → News h₀ L h' news → R (.ok (.ret (.bytes b t))) { s with heap := h', toks := tk }) :
    codeAny (model PySem.Challenge.rw_pa0042_01.row.prog w) A (.call (.ref 36) ⟨[.bytes b t], []⟩) R s := by
  have X₀ := C.X; revert X₀; k_fill; intro X₀
  obtain ⟨hdl, dep, frs, gds, unt⟩ := A
  have hH : hdl = none := C.H
  subst hH
  replace hroom : dep + 0 < recursionLimit := hroom
  refine' enter (binds := [(Str.ofString "s", .bytes b t)]) C F N ?k6 ?k7 ?kr ?k9 ?kB ?_ ?c2 ?c3 ?c4 ?c5
  (case k6 => k_is)
  (case k7 => k_is)
  (case kr => (show dep < recursionLimit; lia))
  (case k9 => first | exact BindsTo.of_eq rfl | exact binds_K (by k_in) rfl (by k_is) rfl rfl rfl)
  (case c5 => decide)
  (case kB => exact locs rfl)
  (case c2 => exact rfl)
  (case c3 => exact rfl)
  (case c4 => exact rfl)
  k_whole
  clear F N C X₀
  intro g L' h₁ C' F' N' l1
  have X' := C'.X
  obtain ⟨_, _, _, mg, mb, T'⟩ := C'.T
  try dsimp only
  repeat' (first | ((with_reducible show wpAny _ _ (call (Value.type "type") _) _ _ _); with_reducible (first | refine call_type_of (typeIs_bytes _ _ _) (by decide) ?_ | refine call_type_of (Tx := "bool") rfl (by decide) ?_)) | ((with_reducible show wpAny _ _ (compareOp CmpOp.Is _ _) _ _ _); with_reducible (first | refine wpAny_is_self (by rfl) ?_ | refine wpAny_is_other (by rfl) (by decide) ?_)) | walk1 | (dsimp only; walk1))
  rename (Fr _ _ _ _) => F2
  rename (News _ _ _ _) => N2
  exact leaveK_ F2 N2 fun F3 N3 => h _ _ F3 N3

theorem value_call {w : World} {A : Around} {s : Shared} {h₀ : Heap} {L : Addr} {m : Str → Option Value} {news : List (Addr × Obj)} {R : Result → Shared → Prop} {v c : Int} {t : Tok}
    (C : Env0 w A h₀ L) (F : Fr h₀ L s.heap m) (N : News h₀ L s.heap news) (hroom : A.depth + 0 < recursionLimit) (hs : Sg v c)
    (h : ∀ h' t' tk, Fr h₀ L h' m → News h₀ L h' news → R (.ok (.ret (.int v t'))) { s with heap := h', toks := tk }) :
    codeAny (model PySem.Challenge.rw_pa0042_01.row.prog w) A (.call (.ref 77) ⟨[.int c t], []⟩) R s := by
  have X₀ := C.X; revert X₀; k_fill; intro X₀
  obtain ⟨hdl, dep, frs, gds, unt⟩ := A
  have hH : hdl = none := C.H
  subst hH
  replace hroom : dep + 0 < recursionLimit := hroom
  refine' enter (binds := [(Str.ofString "c", .int c t)]) C F N ?k6 ?k7 ?kr ?k9 ?kB ?_ ?c2 ?c3 ?c4 ?c5
  (case k6 => k_is)
  (case k7 => k_is)
  (case kr => (show dep < recursionLimit; lia))
  (case k9 => first | exact BindsTo.of_eq rfl | exact binds_K (by k_in) rfl (by k_is) rfl rfl rfl)
  (case c5 => decide)
  (case kB => exact locs rfl)
  (case c2 => exact rfl)
  (case c3 => exact rfl)
  (case c4 => exact rfl)
  k_whole
  clear F N C X₀
  intro g L' h₁ C' F' N' l1
  have X' := C'.X
  obtain ⟨_, _, _, mg, mb, T'⟩ := C'.T
  try dsimp only
  unfold Sg at hs
  repeat' (first | ((with_reducible show wpAny _ _ (call (Value.type "type") _) _ _ _); with_reducible (first | refine call_type_of (typeIs_bytes _ _ _) (by decide) ?_ | refine call_type_of (Tx := "bool") rfl (by decide) ?_)) | ((with_reducible show wpAny _ _ (compareOp CmpOp.Is _ _) _ _ _); with_reducible (first | refine wpAny_is_self (by rfl) ?_ | refine wpAny_is_other (by rfl) (by decide) ?_)) | walk1 | (dsimp only; walk1))
  all_goals first
    | (exfalso; lia)
    | (obtain rfl : v = c - 65 := by lia
       exact leaveK_ F' N' fun F3 N3 => h _ _ _ F3 N3)
    | (obtain rfl : v = c - 71 := by lia
       exact leaveK_ F' N' fun F3 N3 => h _ _ _ F3 N3)
    | (obtain rfl : v = c + 4 := by lia
       exact leaveK_ F' N' fun F3 N3 => h _ _ _ F3 N3)
    | (obtain rfl : v = 62 := by lia
       exact leaveK_ F' N' fun F3 N3 => h _ _ _ F3 N3)
    | (obtain rfl : v = 63 := by lia
       exact leaveK_ F' N' fun F3 N3 => h _ _ _ F3 N3)

end Mine
namespace Mine
open PySem PySem.W PyProof.Rows PySem.Calls
section
variable {prog : Program} {w : World} {A : Around} {E : Value → Shared → Prop} {s : Shared} {a b n : Int} {t u : Tok} {Q : Value → Shared → Prop}
theorem shr_k (d : Int) (hn : 0 ≤ n) (hd : (2 : Int) ^ n.toNat = d) (h : Q (.int (a / d) s.toks) { s with toks := s.toks + 1 }) : wpAny (model prog w) A (binaryOp .RShift (.int a t) (.int n u)) Q E s := by
  refine rshift_int hn ?_
  rw [hd, Int.fdiv_eq_ediv_of_nonneg _ (by rw [← hd]; exact Int.le_of_lt (kbt_pos _))]
  exact h
theorem shl_k (d : Int) (hn : 0 ≤ n) (hn2 : n ≤ 1000000) (h0 : 0 ≤ a) (h1 : a < 4611686018427387904) (hd : (2 : Int) ^ n.toNat = d) (h : Q (.int (a * d) s.toks) { s with toks := s.toks + 1 }) : wpAny (model prog w) A (binaryOp .LShift (.int a t) (.int n u)) Q E s := by
  refine lshift_int_small hn hn2 (by lia) ?_
  rw [hd]; exact h
theorem land_low (k x y : Nat) (hy : y < 2 ^ k) : (x * 2 ^ k) &&& y = 0 := by
  apply Nat.eq_of_testBit_eq
  intro i
  rw [Nat.testBit_and, Nat.zero_testBit, Nat.mul_comm, Nat.testBit_two_pow_mul]
  by_cases h : k ≤ i
  · have : y.testBit i = false := Nat.testBit_lt_two_pow (Nat.lt_of_lt_of_le hy (Nat.pow_le_pow_right (by decide) h))
    simp [this]
  · simp [h]
theorem bitOr_low (k : Nat) (x y : Nat) (hy : y < 2 ^ k) : Builtin.bitOr ((x : Int) * 2 ^ k) (y : Int) = (x : Int) * 2 ^ k + y := by
  have e : ((x : Int) * 2 ^ k) = ((x * 2 ^ k : Nat) : Int) := by push_cast; rfl
  rw [e, bitOr_and]
  have and2 : ∀ p q : Nat, Builtin.bitAnd (p : Int) (q : Int) = ((p &&& q : Nat) : Int) := by
    intro p q
    unfold Builtin.bitAnd
    rw [decide_eq_true (Int.natCast_nonneg p), decide_eq_true (Int.natCast_nonneg q)]
    rfl
  have : Builtin.bitAnd ((x * 2 ^ k : Nat) : Int) (y : Int) = (((x * 2 ^ k) &&& y : Nat) : Int) := and2 _ _
  rw [this, land_low k x y hy]
  lia
theorem or_low (k : Nat) (d : Int) (hd : (2 : Int) ^ k = d) (h0 : 0 ≤ a) (hb0 : 0 ≤ b) (hb : b < d) (h : Q (.int (a * d + b) s.toks) { s with toks := s.toks + 1 }) : wpAny (model prog w) A (binaryOp .BitOr (.int (a * d) t) (.int b u)) Q E s := by
  refine or_int ?_
  obtain ⟨x, rfl⟩ := Int.eq_ofNat_of_zero_le h0
  obtain ⟨y, rfl⟩ := Int.eq_ofNat_of_zero_le hb0
  subst hd
  rw [bitOr_low k x y (by rw [← kbt_cast] at hb; exact_mod_cast hb)]
  exact h
theorem and_63 (h : Q (.int (a % 64) s.toks) { s with toks := s.toks + 1 }) : wpAny (model prog w) A (binaryOp .BitAnd (.int a t) (.int 63 u)) Q E s := and_int (by rw [bitAnd_m6]; exact h)
theorem and_15 (h : Q (.int (a % 16) s.toks) { s with toks := s.toks + 1 }) : wpAny (model prog w) A (binaryOp .BitAnd (.int a t) (.int 15 u)) Q E s := and_int (by rw [bitAnd_m4]; exact h)
theorem and_3 (h : Q (.int (a % 4) s.toks) { s with toks := s.toks + 1 }) : wpAny (model prog w) A (binaryOp .BitAnd (.int a t) (.int 3 u)) Q E s := and_int (by rw [bitAnd_m2]; exact h)
theorem and_65535 (h : Q (.int (a % 65536) s.toks) { s with toks := s.toks + 1 }) : wpAny (model prog w) A (binaryOp .BitAnd (.int a t) (.int 65535 u)) Q E s := and_int (by rw [bitAnd_m16]; exact h)
end

noncomputable def b64 : List UInt8 := [65, 66, 67, 68, 69, 70, 71, 72, 73, 74, 75, 76, 77, 78, 79, 80, 81, 82, 83, 84, 85, 86, 87, 88, 89, 90, 97, 98, 99, 100, 101, 102, 103, 104, 105, 106, 107, 108, 109, 110, 111, 112, 113, 114, 115, 116, 117, 118, 119, 120, 121, 122, 48, 49, 50, 51, 52, 53, 54, 55, 56, 57, 43, 47]
theorem b64_sg : ∀ i : Nat, i < 64 → Sg (i : Int) (((b64.getD i 0).toNat : Nat) : Int) := by unfold Sg; decide +kernel
section
variable {prog : Program} {w : World} {A : Around} {E : Value → Shared → Prop} {s : Shared} {k : Int} {t u : Tok} {Q : Value → Shared → Prop}
theorem item_b64 {value slice : Expr} (h0 : 0 ≤ k) (h1 : k < 64) (h : ∀ c, Sg k c → Q (.int c s.toks) { s with toks := s.toks + 1 })
    (hs : subscripted slice false (.bytes b64.toArray t) (.int k u) = operate [.bytes b64.toArray t, .int k u] (getItem (.bytes b64.toArray t) (.int k u)) := by with_unfolding_all rfl)
    (ht : ∀ r, letTemporaryGo value (.bytes b64.toArray t) r = pure () := by intro _; with_unfolding_all rfl) : wpAny (model prog w) A (subscriptTail value slice (.bytes b64.toArray t) (.int k u)) Q E s := by
  refine bytes_item_K (x := b64) (by decide) h0 (by show k < 64; exact h1) rfl (h _ ?_) hs ht
  have := b64_sg k.toNat (by lia)
  rwa [Int.toNat_of_nonneg h0] at this
end
theorem lt_of_all {news : List (Addr × Obj)} {d : Addr} (h : ∀ p ∈ news, p.1 < d) {p : Addr × Obj} (hp : p ∈ news) : p.1 < d := h p hp
theorem unr_end9 {h₀ : Heap} {L I : Addr} {it : Obj} {rest : (Str → Option Value) → List (Addr × Obj) → Prop} {s₁ : Shared} {h' : Heap} {tk : Nat} {m' : Str → Option Value} {led : List (Addr × Obj)}
    (F : Fr h₀ L h' m') (N : News h₀ L h' ((I, it) :: led)) (off : ∀ p ∈ led, p.1 ≠ I) (r : rest m' led) : UnrEnd h₀ L s₁ I it rest { s₁ with heap := h', toks := tk } := ⟨h', tk, m', led, rfl, F, N, off, r⟩
theorem Sg.range {v c : Int} (h : Sg v c) : 43 ≤ c ∧ c < 123 := by unfold Sg at h; lia
theorem Sg.low {v c : Int} (h : Sg v c) : 0 ≤ v ∧ v < 64 := by unfold Sg at h; lia
theorem bytes_four {prog : Program} {w : World} {A : Around} {E : Value → Shared → Prop} {s : Shared} {h₀ : Heap} {L l : Addr} {m : Str → Option Value} {news : List (Addr × Obj)} {c1 c2 c3 c4 : Int} {t1 t2 t3 t4 : Tok} {n : Nat} {Q : Value → Shared → Prop}
    (F : Fr h₀ L s.heap m) (N : News h₀ L s.heap ((l, listOf ((((#[].push (.int c1 t1)).push (.int c2 t2)).push (.int c3 t3)).push (.int c4 t4)) n) :: news)) (hr : ∀ c ∈ [c1, c2, c3, c4], 0 ≤ c ∧ c < 256) (hh : A.handled = none)
    (h : ∀ h' t k, Fr h₀ L h' m → News h₀ L h' news → Q (.bytes ([c1, c2, c3, c4].map fun n => n.toNat.toUInt8).toArray t) { s with heap := h', toks := k }) : wpAny (model prog w) A (call (.type "bytes") [.ref l]) Q E s := by
  have hl : s.heap.IsList l [Value.int c1 t1, .int c2 t2, .int c3 t3, .int c4 t4].toArray := PySem.IsL.isList (n := n) (N _ (List.mem_cons_self ..)).1
  exact bytes_K F (fun p hp => N p (List.mem_cons_of_mem _ hp)) hl (.cons _ _ (.cons _ _ (.cons _ _ (.cons _ _ .nil)))) hr (by rw [sizeLine_eq]; exact Nat.le_of_ble_eq_true rfl) hh fun h' t k F' N' _ => h h' t k F' N'
theorem bytes_three {prog : Program} {w : World} {A : Around} {E : Value → Shared → Prop} {s : Shared} {h₀ : Heap} {L l : Addr} {m : Str → Option Value} {news : List (Addr × Obj)} {c1 c2 c3 : Int} {t1 t2 t3 : Tok} {n : Nat} {Q : Value → Shared → Prop}
    (F : Fr h₀ L s.heap m) (N : News h₀ L s.heap ((l, listOf (((#[].push (.int c1 t1)).push (.int c2 t2)).push (.int c3 t3)) n) :: news)) (hr : ∀ c ∈ [c1, c2, c3], 0 ≤ c ∧ c < 256) (hh : A.handled = none)
    (h : ∀ h' t k, Fr h₀ L h' m → News h₀ L h' news → Q (.bytes ([c1, c2, c3].map fun n => n.toNat.toUInt8).toArray t) { s with heap := h', toks := k }) : wpAny (model prog w) A (call (.type "bytes") [.ref l]) Q E s := by
  have hl : s.heap.IsList l [Value.int c1 t1, .int c2 t2, .int c3 t3].toArray := PySem.IsL.isList (n := n) (N _ (List.mem_cons_self ..)).1
  exact bytes_K F (fun p hp => N p (List.mem_cons_of_mem _ hp)) hl (.cons _ _ (.cons _ _ (.cons _ _ .nil))) hr (by rw [sizeLine_eq]; exact Nat.le_of_ble_eq_true rfl) hh fun h' t k F' N' _ => h h' t k F' N'
theorem not_beq {a b : Int} (h : a ≠ b) : ¬ ((a == b) = true) := by simpa using h
theorem not_dec {a b : Int} (h : a ≠ b) : ¬ (decide (a = b) = true) := by simpa using h
end Mine
namespace Mine
open PySem PySem.W PyProof.Rows PySem.Calls

local macro_rules | `(tactic| k_all) => `(tactic| exact fun p hp => Nat.ne_of_lt (lt_of_all (by assumption) hp))
theorem low1 {x : Int} (h : 0 ≤ x ∧ x < 256) : (0 * 256 + x) % 65536 = x := by
  rw [Int.zero_mul, Int.zero_add]; exact Int.emod_eq_of_lt h.1 (by (omega))
theorem low2 {x y : Int} (hx : 0 ≤ x ∧ x < 256) (hy : 0 ≤ y ∧ y < 256) : (x * 256 + y) % 65536 = x * 256 + y := Int.emod_eq_of_lt (by (omega)) (by (omega))
theorem low3 {x y z : Int} (hy : 0 ≤ y ∧ y < 256) (hz : 0 ≤ z ∧ z < 256) : ((x * 256 + y) * 256 + z) % 65536 = y * 256 + z := by
  rw [show (x * 256 + y) * 256 + z = (y * 256 + z) + x * 65536 by (omega), Int.add_mul_emod_self_right]
  exact low2 hy hz
theorem bit1 {x : Int} (hx : 0 ≤ x ∧ x < 256) : (0 * 256 + x) % 65536 / 4 % 64 = x / 4 := by
  rw [low1 hx]; (omega)
theorem bit2 {x y : Int} (hx : 0 ≤ x ∧ x < 256) (hy : 0 ≤ y ∧ y < 256) : ((0 * 256 + x) % 65536 * 256 + y) % 65536 / 16 % 64 = x % 4 * 16 + y / 16 := by
  rw [low1 hx, low2 hx hy]; (omega)
theorem bit3 {x y z : Int} (hx : 0 ≤ x ∧ x < 256) (hy : 0 ≤ y ∧ y < 256) (hz : 0 ≤ z ∧ z < 256) : (((0 * 256 + x) % 65536 * 256 + y) % 65536 * 256 + z) % 65536 / 64 % 64 = y % 16 * 4 + z / 64 := by
  rw [low1 hx, low2 hx hy, low3 hy hz]; (omega)
theorem bit4 {x y z : Int} (hx : 0 ≤ x ∧ x < 256) (hy : 0 ≤ y ∧ y < 256) (hz : 0 ≤ z ∧ z < 256) : (((0 * 256 + x) % 65536 * 256 + y) % 65536 * 256 + z) % 65536 / 1 % 64 = z % 64 := by
  rw [low1 hx, low2 hx hy, low3 hy hz, Int.ediv_one]; (omega)
theorem oct_range (x : UInt8) : 0 ≤ (x.toNat : Int) ∧ (x.toNat : Int) < 256 := ⟨Int.natCast_nonneg _, by have := x.toNat_lt; (omega)⟩
theorem octets_call {w : World} {A : Around} {s : Shared} {h₀ : Heap} {L : Addr} {m : Str → Option Value} {news : List (Addr × Obj)} {R : Result → Shared → Prop} {x : Int} {t : Tok}
    (C : Env0 w A h₀ L) (F : Fr h₀ L s.heap m) (N : News h₀ L s.heap news) (hroom : A.depth + 0 < recursionLimit) 
    (h : ∀ h' tb tk, Fr h₀ L h' m → News h₀ L h' news → R (.ok (.ret (.bytes ([(x / 65536 % 256), (x / 256 % 256), (x % 256)].map fun n => n.toNat.toUInt8).toArray tb))) { s with heap := h', toks := tk }) :
    codeAny (model PySem.Challenge.rw_pa0042_01.row.prog w) A (.call (.ref 144) ⟨[.int x t], []⟩) R s := by
  have X₀ := C.X; revert X₀; k_fill; intro X₀
  obtain ⟨hdl, dep, frs, gds, unt⟩ := A
  have hH : hdl = none := C.H
  subst hH
  replace hroom : dep + 0 < recursionLimit := hroom
  refine' enter (binds := [(Str.ofString "x", .int x t)]) C F N ?k6 ?k7 ?kr ?k9 ?kB ?_ ?c2 ?c3 ?c4 ?c5
  (case k6 => k_is)
  (case k7 => k_is)
  (case kr => (show dep < recursionLimit; omega))
  (case k9 => first | exact BindsTo.of_eq rfl | exact binds_K (by k_in) rfl (by k_is) rfl rfl rfl)
  (case c5 => decide)
  (case kB => exact locs rfl)
  (case c2 => exact rfl)
  (case c3 => exact rfl)
  (case c4 => exact rfl)
  k_whole
  clear F N C X₀
  intro g L' h₁ C' F' N' l1
  have X' := C'.X
  obtain ⟨_, _, _, mg, mb, T'⟩ := C'.T
  try dsimp only
  repeat' (first | ((with_reducible show wpAny _ _ (binaryOp Operator.FloorDiv (Value.int _ _) (Value.int _ _)) _ _ _); with_reducible (refine div_pos (by decide) (by decide) ?_)) | ((with_reducible show wpAny _ _ (binaryOp Operator.Mod (Value.int _ _) (Value.int _ _)) _ _ _); with_reducible (refine mod_pos (by decide) ?_)) | ((with_reducible show wpAny _ _ (compareOp CmpOp.Is _ _) _ _ _); with_reducible (first | refine wpAny_is_self (by rfl) ?_ | refine wpAny_is_other (by rfl) (by decide) ?_)) | ((with_reducible show wpAny _ _ (call (Value.type "type") _) _ _ _); with_reducible (first | refine call_type_of (typeIs_bytes _ _ _) (by decide) ?_ | refine call_type_of (Tx := "bool") rfl (by decide) ?_)) | ((with_reducible show wpAny _ _ (binaryOp Operator.RShift _ _) _ _ _); with_reducible (first | refine shr_k 4 (by decide) (by decide) ?_ | refine shr_k 16 (by decide) (by decide) ?_ | refine shr_k 64 (by decide) (by decide) ?_ | refine shr_k 1 (by decide) (by decide) ?_)) | ((with_reducible show wpAny _ _ (binaryOp Operator.LShift _ _) _ _ _); with_reducible (first | refine shl_k 256 (by decide) (by decide) (by omega) (by omega) (by decide) ?_ | refine shl_k 4 (by decide) (by decide) (by omega) (by omega) (by decide) ?_ | refine shl_k 16 (by decide) (by decide) (by omega) (by omega) (by decide) ?_ | refine shl_k 64 (by decide) (by decide) (by omega) (by omega) (by decide) ?_)) | ((with_reducible show wpAny _ _ (binaryOp Operator.BitOr _ _) _ _ _); with_reducible (first | refine or_low 8 256 (by decide) (by omega) (by omega) (by omega) ?_ | refine or_low 2 4 (by decide) (by omega) (by omega) (by omega) ?_ | refine or_low 4 16 (by decide) (by omega) (by omega) (by omega) ?_ | refine or_low 6 64 (by decide) (by omega) (by omega) (by omega) ?_)) | ((with_reducible show wpAny _ _ (binaryOp Operator.BitAnd _ _) _ _ _); with_reducible (first | refine and_63 ?_ | refine and_15 ?_ | refine and_3 ?_ | refine and_65535 ?_)) | ((with_reducible show wpAny _ _ (subscriptTail _ _ (Value.bytes _ _) (Value.int _ _)) _ _ _); refine item_b64 (by omega) (by omega) ?_; intro _ _) | ((with_reducible show UnrEnd _ _ _ _ _ _ _); refine unr_end9 (by k_asm) (by k_asm) (List.forall_mem_cons.mpr ⟨by (refine neN ?_; (try dsimp only); omega), fun p hp => Nat.ne_of_lt (lt_of_all (by assumption) hp)⟩) ?_) | ((with_reducible show wpAny _ _ (call (Value.ref _) _ _) _ _ _); first | (refine wpAny_call (buffer_call (by assumption) (by k_asm) (by k_asm) (by simp only [depth_deeper]; omega) ?_); intro _ _ _ _; (try dsimp only); (try k_sweep)) | (refine wpAny_call (truth_call (by assumption) (by k_asm) (by k_asm) (by simp only [depth_deeper]; omega) ?_); intro _ _ _ _; (try dsimp only); (try k_sweep))) | walk1 | (dsimp only; walk1))
  rename (Fr _ _ _ _) => F2
  rename (News _ _ _ _) => N2
  exact leaveK_ F2 (fun p hp => N2 p (List.mem_cons_of_mem _ hp)) fun F3 N3 => h _ _ _ F3 N3

theorem b2a_call {w : World} {A : Around} {s : Shared} {h₀ : Heap} {L : Addr} {m : Str → Option Value} {news : List (Addr × Obj)} {R : Result → Shared → Prop} {x y z : UInt8} {t : Tok}
    (C : Env0 w A h₀ L) (F : Fr h₀ L s.heap m) (N : News h₀ L s.heap news) (hroom : A.depth + 2 < recursionLimit) 
    (h : ∀ h' t' tk c1 c2 c3 c4, Sg ((x.toNat : Int) / 4) c1 → Sg ((x.toNat : Int) % 4 * 16 + (y.toNat : Int) / 16) c2 → Sg ((y.toNat : Int) % 16 * 4 + (z.toNat : Int) / 64) c3 → Sg ((z.toNat : Int) % 64) c4 → Fr h₀ L h' m → News h₀ L h' news → R (.ok (.ret (.bytes ([c1, c2, c3, c4].map fun n => n.toNat.toUInt8).toArray t'))) { s with heap := h', toks := tk }) :
    codeAny (model PySem.Challenge.rw_pa0042_01.row.prog w) A (.call (.ref 93) ⟨[.bytes [x, y, z].toArray t], [(Str.ofString "newline", .bool false)]⟩) R s := by
  have X₀ := C.X; revert X₀; k_fill; intro X₀
  obtain ⟨hdl, dep, frs, gds, unt⟩ := A
  have hH : hdl = none := C.H
  subst hH
  replace hroom : dep + 2 < recursionLimit := hroom
  refine' enter (binds := [(Str.ofString "data", .bytes [x, y, z].toArray t), (Str.ofString "newline", .bool false)]) C F N ?k6 ?k7 ?kr ?k9 ?kB ?_ ?c2 ?c3 ?c4 ?c5
  (case k6 => k_is)
  (case k7 => k_is)
  (case kr => (show dep < recursionLimit; omega))
  (case k9 => first | exact BindsTo.of_eq rfl | exact binds_K (by k_in) rfl (by k_is) rfl rfl rfl)
  (case c5 => decide)
  (case kB => exact locs rfl)
  (case c2 => exact rfl)
  (case c3 => exact rfl)
  (case c4 => exact rfl)
  k_whole
  clear F N C X₀
  intro g L' h₁ C' F' N' l1
  have X' := C'.X
  obtain ⟨_, _, _, mg, mb, T'⟩ := C'.T
  try dsimp only
  repeat' ((fail_if_success (with_reducible show wpAny _ _ (exec (Stmt.For _ _ _ _ _) _) _ _ _)); first | ((with_reducible show wpAny _ _ (binaryOp Operator.FloorDiv (Value.int _ _) (Value.int _ _)) _ _ _); with_reducible (refine div_pos (by decide) (by decide) ?_)) | ((with_reducible show wpAny _ _ (binaryOp Operator.Mod (Value.int _ _) (Value.int _ _)) _ _ _); with_reducible (refine mod_pos (by decide) ?_)) | ((with_reducible show wpAny _ _ (compareOp CmpOp.Is _ _) _ _ _); with_reducible (first | refine wpAny_is_self (by rfl) ?_ | refine wpAny_is_other (by rfl) (by decide) ?_)) | ((with_reducible show wpAny _ _ (call (Value.type "type") _) _ _ _); with_reducible (first | refine call_type_of (typeIs_bytes _ _ _) (by decide) ?_ | refine call_type_of (Tx := "bool") rfl (by decide) ?_)) | ((with_reducible show wpAny _ _ (binaryOp Operator.RShift _ _) _ _ _); with_reducible (first | refine shr_k 4 (by decide) (by decide) ?_ | refine shr_k 16 (by decide) (by decide) ?_ | refine shr_k 64 (by decide) (by decide) ?_ | refine shr_k 1 (by decide) (by decide) ?_)) | ((with_reducible show wpAny _ _ (binaryOp Operator.LShift _ _) _ _ _); with_reducible (first | refine shl_k 256 (by decide) (by decide) (by omega) (by omega) (by decide) ?_ | refine shl_k 4 (by decide) (by decide) (by omega) (by omega) (by decide) ?_ | refine shl_k 16 (by decide) (by decide) (by omega) (by omega) (by decide) ?_ | refine shl_k 64 (by decide) (by decide) (by omega) (by omega) (by decide) ?_)) | ((with_reducible show wpAny _ _ (binaryOp Operator.BitOr _ _) _ _ _); with_reducible (first | refine or_low 8 256 (by decide) (by omega) (by omega) (by omega) ?_ | refine or_low 2 4 (by decide) (by omega) (by omega) (by omega) ?_ | refine or_low 4 16 (by decide) (by omega) (by omega) (by omega) ?_ | refine or_low 6 64 (by decide) (by omega) (by omega) (by omega) ?_)) | ((with_reducible show wpAny _ _ (binaryOp Operator.BitAnd _ _) _ _ _); with_reducible (first | refine and_63 ?_ | refine and_15 ?_ | refine and_3 ?_ | refine and_65535 ?_)) | ((with_reducible show wpAny _ _ (subscriptTail _ _ (Value.bytes _ _) (Value.int _ _)) _ _ _); refine item_b64 (by omega) (by omega) ?_; intro _ _) | ((with_reducible show UnrEnd _ _ _ _ _ _ _); refine unr_end9 (by k_asm) (by k_asm) (List.forall_mem_cons.mpr ⟨by (refine neN ?_; (try dsimp only); omega), fun p hp => Nat.ne_of_lt (lt_of_all (by assumption) hp)⟩) ?_) | ((with_reducible show wpAny _ _ (call (Value.ref _) _ _) _ _ _); first | (refine wpAny_call (buffer_call (by assumption) (by k_asm) (by k_asm) (by simp only [depth_deeper]; omega) ?_); intro _ _ _ _; (try dsimp only); (try k_sweep)) | (refine wpAny_call (truth_call (by assumption) (by k_asm) (by k_asm) (by simp only [depth_deeper]; omega) ?_); intro _ _ _ _; (try dsimp only); (try k_sweep))) | walk1 | (dsimp only; walk1))
  refine hideQ fun Qz hQz => ?_
  repeat' (first | ((with_reducible show wpAny _ _ (binaryOp Operator.FloorDiv (Value.int _ _) (Value.int _ _)) _ _ _); with_reducible (refine div_pos (by decide) (by decide) ?_)) | ((with_reducible show wpAny _ _ (binaryOp Operator.Mod (Value.int _ _) (Value.int _ _)) _ _ _); with_reducible (refine mod_pos (by decide) ?_)) | ((with_reducible show wpAny _ _ (compareOp CmpOp.Is _ _) _ _ _); with_reducible (first | refine wpAny_is_self (by rfl) ?_ | refine wpAny_is_other (by rfl) (by decide) ?_)) | ((with_reducible show wpAny _ _ (call (Value.type "type") _) _ _ _); with_reducible (first | refine call_type_of (typeIs_bytes _ _ _) (by decide) ?_ | refine call_type_of (Tx := "bool") rfl (by decide) ?_)) | ((with_reducible show wpAny _ _ (binaryOp Operator.RShift _ _) _ _ _); with_reducible (first | refine shr_k 4 (by decide) (by decide) ?_ | refine shr_k 16 (by decide) (by decide) ?_ | refine shr_k 64 (by decide) (by decide) ?_ | refine shr_k 1 (by decide) (by decide) ?_)) | ((with_reducible show wpAny _ _ (binaryOp Operator.LShift _ _) _ _ _); with_reducible (first | refine shl_k 256 (by decide) (by decide) (by omega) (by omega) (by decide) ?_ | refine shl_k 4 (by decide) (by decide) (by omega) (by omega) (by decide) ?_ | refine shl_k 16 (by decide) (by decide) (by omega) (by omega) (by decide) ?_ | refine shl_k 64 (by decide) (by decide) (by omega) (by omega) (by decide) ?_)) | ((with_reducible show wpAny _ _ (binaryOp Operator.BitOr _ _) _ _ _); with_reducible (first | refine or_low 8 256 (by decide) (by omega) (by omega) (by omega) ?_ | refine or_low 2 4 (by decide) (by omega) (by omega) (by omega) ?_ | refine or_low 4 16 (by decide) (by omega) (by omega) (by omega) ?_ | refine or_low 6 64 (by decide) (by omega) (by omega) (by omega) ?_)) | ((with_reducible show wpAny _ _ (binaryOp Operator.BitAnd _ _) _ _ _); with_reducible (first | refine and_63 ?_ | refine and_15 ?_ | refine and_3 ?_ | refine and_65535 ?_)) | ((with_reducible show wpAny _ _ (subscriptTail _ _ (Value.bytes _ _) (Value.int _ _)) _ _ _); refine item_b64 (by omega) (by omega) ?_; intro _ _) | ((with_reducible show UnrEnd _ _ _ _ _ _ _); refine unr_end9 (by k_asm) (by k_asm) (List.forall_mem_cons.mpr ⟨by (refine neN ?_; (try dsimp only); omega), fun p hp => Nat.ne_of_lt (lt_of_all (by assumption) hp)⟩) ?_) | ((with_reducible show wpAny _ _ (call (Value.ref _) _ _) _ _ _); first | (refine wpAny_call (buffer_call (by assumption) (by k_asm) (by k_asm) (by simp only [depth_deeper]; omega) ?_); intro _ _ _ _; (try dsimp only); (try k_sweep)) | (refine wpAny_call (truth_call (by assumption) (by k_asm) (by k_asm) (by simp only [depth_deeper]; omega) ?_); intro _ _ _ _; (try dsimp only); (try k_sweep))) | walk1 | (dsimp only; walk1))
  rename (Fr _ _ _ _) => F1
  rename (News _ _ _ _) => N1
  refine iter_bytesUnr (l := [(x.toNat : Int), y.toNat, z.toNat]) rfl F1 N1 rfl fun I hI => ?_
  have hI2 : ∀ p ∈ news, p.1 < I := fun p hp => hI p (List.mem_cons_of_mem _ hp)
  have hI1 := hI _ (List.mem_cons_self ..)
  clear F1 N1 hI
  dsimp only at hI1
  replace hI1 := ltN hI1
  repeat' ((fail_if_success (with_reducible show wpAny _ _ (call (Value.type "bytes") _) _ _ _)); first | ((first | ((with_reducible show wpAny _ _ (binaryOp Operator.FloorDiv (Value.int _ _) (Value.int _ _)) _ _ _); with_reducible (refine div_pos (by decide) (by decide) ?_)) | ((with_reducible show wpAny _ _ (binaryOp Operator.Mod (Value.int _ _) (Value.int _ _)) _ _ _); with_reducible (refine mod_pos (by decide) ?_)) | ((with_reducible show wpAny _ _ (compareOp CmpOp.Is _ _) _ _ _); with_reducible (first | refine wpAny_is_self (by rfl) ?_ | refine wpAny_is_other (by rfl) (by decide) ?_)) | ((with_reducible show wpAny _ _ (call (Value.type "type") _) _ _ _); with_reducible (first | refine call_type_of (typeIs_bytes _ _ _) (by decide) ?_ | refine call_type_of (Tx := "bool") rfl (by decide) ?_)) | ((with_reducible show wpAny _ _ (binaryOp Operator.RShift _ _) _ _ _); with_reducible (first | refine shr_k 4 (by decide) (by decide) ?_ | refine shr_k 16 (by decide) (by decide) ?_ | refine shr_k 64 (by decide) (by decide) ?_ | refine shr_k 1 (by decide) (by decide) ?_)) | ((with_reducible show wpAny _ _ (binaryOp Operator.LShift _ _) _ _ _); with_reducible (first | refine shl_k 256 (by decide) (by decide) (by omega) (by omega) (by decide) ?_ | refine shl_k 4 (by decide) (by decide) (by omega) (by omega) (by decide) ?_ | refine shl_k 16 (by decide) (by decide) (by omega) (by omega) (by decide) ?_ | refine shl_k 64 (by decide) (by decide) (by omega) (by omega) (by decide) ?_)) | ((with_reducible show wpAny _ _ (binaryOp Operator.BitOr _ _) _ _ _); with_reducible (first | refine or_low 8 256 (by decide) (by omega) (by omega) (by omega) ?_ | refine or_low 2 4 (by decide) (by omega) (by omega) (by omega) ?_ | refine or_low 4 16 (by decide) (by omega) (by omega) (by omega) ?_ | refine or_low 6 64 (by decide) (by omega) (by omega) (by omega) ?_)) | ((with_reducible show wpAny _ _ (binaryOp Operator.BitAnd _ _) _ _ _); with_reducible (first | refine and_63 ?_ | refine and_15 ?_ | refine and_3 ?_ | refine and_65535 ?_)) | ((with_reducible show wpAny _ _ (subscriptTail _ _ (Value.bytes _ _) (Value.int _ _)) _ _ _); refine item_b64 (by omega) (by omega) ?_; intro _ _) | ((with_reducible show UnrEnd _ _ _ _ _ _ _); refine unr_end9 (by k_asm) (by k_asm) (List.forall_mem_cons.mpr ⟨by (refine neN ?_; (try dsimp only); omega), fun p hp => Nat.ne_of_lt (lt_of_all (by assumption) hp)⟩) ?_) | ((with_reducible show wpAny _ _ (call (Value.ref _) _ _) _ _ _); first | (refine wpAny_call (buffer_call (by assumption) (by k_asm) (by k_asm) (by simp only [depth_deeper]; omega) ?_); intro _ _ _ _; (try dsimp only); (try k_sweep)) | (refine wpAny_call (truth_call (by assumption) (by k_asm) (by k_asm) (by simp only [depth_deeper]; omega) ?_); intro _ _ _ _; (try dsimp only); (try k_sweep)))); try dsimp only) | (walk1; try dsimp only) | (dsimp only; walk1))
  refine hQz _ _ ?_
  repeat' ((fail_if_success (with_reducible show wpAny _ _ (call (Value.type "bytes") _) _ _ _)); first | ((first | ((with_reducible show wpAny _ _ (binaryOp Operator.FloorDiv (Value.int _ _) (Value.int _ _)) _ _ _); with_reducible (refine div_pos (by decide) (by decide) ?_)) | ((with_reducible show wpAny _ _ (binaryOp Operator.Mod (Value.int _ _) (Value.int _ _)) _ _ _); with_reducible (refine mod_pos (by decide) ?_)) | ((with_reducible show wpAny _ _ (compareOp CmpOp.Is _ _) _ _ _); with_reducible (first | refine wpAny_is_self (by rfl) ?_ | refine wpAny_is_other (by rfl) (by decide) ?_)) | ((with_reducible show wpAny _ _ (call (Value.type "type") _) _ _ _); with_reducible (first | refine call_type_of (typeIs_bytes _ _ _) (by decide) ?_ | refine call_type_of (Tx := "bool") rfl (by decide) ?_)) | ((with_reducible show wpAny _ _ (binaryOp Operator.RShift _ _) _ _ _); with_reducible (first | refine shr_k 4 (by decide) (by decide) ?_ | refine shr_k 16 (by decide) (by decide) ?_ | refine shr_k 64 (by decide) (by decide) ?_ | refine shr_k 1 (by decide) (by decide) ?_)) | ((with_reducible show wpAny _ _ (binaryOp Operator.LShift _ _) _ _ _); with_reducible (first | refine shl_k 256 (by decide) (by decide) (by omega) (by omega) (by decide) ?_ | refine shl_k 4 (by decide) (by decide) (by omega) (by omega) (by decide) ?_ | refine shl_k 16 (by decide) (by decide) (by omega) (by omega) (by decide) ?_ | refine shl_k 64 (by decide) (by decide) (by omega) (by omega) (by decide) ?_)) | ((with_reducible show wpAny _ _ (binaryOp Operator.BitOr _ _) _ _ _); with_reducible (first | refine or_low 8 256 (by decide) (by omega) (by omega) (by omega) ?_ | refine or_low 2 4 (by decide) (by omega) (by omega) (by omega) ?_ | refine or_low 4 16 (by decide) (by omega) (by omega) (by omega) ?_ | refine or_low 6 64 (by decide) (by omega) (by omega) (by omega) ?_)) | ((with_reducible show wpAny _ _ (binaryOp Operator.BitAnd _ _) _ _ _); with_reducible (first | refine and_63 ?_ | refine and_15 ?_ | refine and_3 ?_ | refine and_65535 ?_)) | ((with_reducible show wpAny _ _ (subscriptTail _ _ (Value.bytes _ _) (Value.int _ _)) _ _ _); refine item_b64 (by omega) (by omega) ?_; intro _ _) | ((with_reducible show UnrEnd _ _ _ _ _ _ _); refine unr_end9 (by k_asm) (by k_asm) (List.forall_mem_cons.mpr ⟨by (refine neN ?_; (try dsimp only); omega), fun p hp => Nat.ne_of_lt (lt_of_all (by assumption) hp)⟩) ?_) | ((with_reducible show wpAny _ _ (call (Value.ref _) _ _) _ _ _); first | (refine wpAny_call (buffer_call (by assumption) (by k_asm) (by k_asm) (by simp only [depth_deeper]; omega) ?_); intro _ _ _ _; (try dsimp only); (try k_sweep)) | (refine wpAny_call (truth_call (by assumption) (by k_asm) (by k_asm) (by simp only [depth_deeper]; omega) ?_); intro _ _ _ _; (try dsimp only); (try k_sweep)))); try dsimp only) | (walk1; try dsimp only) | (dsimp only; walk1))
  rename (Fr _ _ _ _) => F2
  rename (News _ _ _ _) => N2
  with_reducible rename (Sg ((((0 * 256 + (x.toNat : Int)) % 65536 * 256 + (y.toNat : Int)) % 65536 * 256 + (z.toNat : Int)) % 65536 / 1 % 64) _) => s4
  with_reducible rename (Sg ((((0 * 256 + (x.toNat : Int)) % 65536 * 256 + (y.toNat : Int)) % 65536 * 256 + (z.toNat : Int)) % 65536 / 64 % 64) _) => s3
  with_reducible rename (Sg (((0 * 256 + (x.toNat : Int)) % 65536 * 256 + (y.toNat : Int)) % 65536 / 16 % 64) _) => s2
  with_reducible rename (Sg ((0 * 256 + (x.toNat : Int)) % 65536 / 4 % 64) _) => s1
  refine bytes_four F2 N2 ?_ rfl ?_
  · have r1 := s1.range
    have r2 := s2.range
    have r3 := s3.range
    have r4 := s4.range
    simp only [List.forall_mem_cons, List.not_mem_nil, false_implies, implies_true, and_true]
    omega
  · intro h9 t9 k9 F9 N9
    rw [bit1 (oct_range x)] at s1
    rw [bit2 (oct_range x) (oct_range y)] at s2
    rw [bit3 (oct_range x) (oct_range y) (oct_range z)] at s3
    rw [bit4 (oct_range x) (oct_range y) (oct_range z)] at s4
    exact leaveK_ F9 N9 fun F3 N3 => h _ _ _ _ _ _ _ s1 s2 s3 s4 F3 N3

end Mine
namespace Mine
open PySem PySem.W PyProof.Rows PySem.Calls

local macro_rules | `(tactic| k_all) => `(tactic| exact fun p hp => Nat.ne_of_lt (lt_of_all (by assumption) hp))
theorem encode_call {w : World} {A : Around} {s : Shared} {h₀ : Heap} {L : Addr} {m : Str → Option Value} {news : List (Addr × Obj)} {R : Result → Shared → Prop} {x y z : UInt8} {t : Tok}
    (C : Env0 w A h₀ L) (F : Fr h₀ L s.heap m) (N : News h₀ L s.heap news) (hroom : A.depth + 3 < recursionLimit) 
    (h : ∀ h' t' tk c1 c2 c3 c4, Sg ((x.toNat : Int) / 4) c1 → Sg ((x.toNat : Int) % 4 * 16 + (y.toNat : Int) / 16) c2 → Sg ((y.toNat : Int) % 16 * 4 + (z.toNat : Int) / 64) c3 → Sg ((z.toNat : Int) % 64) c4 → Fr h₀ L h' m → News h₀ L h' news → R (.ok (.ret (.bytes ([c1, c2, c3, c4].map fun n => n.toNat.toUInt8).toArray t'))) { s with heap := h', toks := tk }) :
    codeAny (model PySem.Challenge.rw_pa0042_01.row.prog w) A (.call (.ref 101) ⟨[.bytes [x, y, z].toArray t], []⟩) R s := by
  have X₀ := C.X; revert X₀; k_fill; intro X₀
  obtain ⟨hdl, dep, frs, gds, unt⟩ := A
  have hH : hdl = none := C.H
  subst hH
  replace hroom : dep + 3 < recursionLimit := hroom
  refine' enter (binds := [(Str.ofString "s", .bytes [x, y, z].toArray t), (Str.ofString "altchars", .none)]) C F N ?k6 ?k7 ?kr ?k9 ?kB ?_ ?c2 ?c3 ?c4 ?c5
  (case k6 => k_is)
  (case k7 => k_is)
  (case kr => (show dep < recursionLimit; lia))
  (case k9 => first | exact BindsTo.of_eq rfl | exact binds_K (by k_in) rfl (by k_is) rfl rfl rfl)
  (case c5 => decide)
  (case kB => exact locs rfl)
  (case c2 => exact rfl)
  (case c3 => exact rfl)
  (case c4 => exact rfl)
  k_whole
  clear F N C X₀
  intro g L' h₁ C' F' N' l1
  have X' := C'.X
  obtain ⟨_, _, _, mg, mb, T'⟩ := C'.T
  try dsimp only
  repeat' (first | ((first | ((with_reducible show wpAny _ _ (compareOp CmpOp.Is _ _) _ _ _); with_reducible (first | refine wpAny_is_self (by rfl) ?_ | refine wpAny_is_other (by rfl) (by decide) ?_)) | ((with_reducible show wpAny _ _ (call (Value.type "type") _) _ _ _); with_reducible (first | refine call_type_of (typeIs_bytes _ _ _) (by decide) ?_ | refine call_type_of (Tx := "bool") rfl (by decide) ?_)) | ((with_reducible show wpAny _ _ (binaryOp Operator.RShift _ _) _ _ _); with_reducible (first | refine shr_k 4 (by decide) (by decide) ?_ | refine shr_k 16 (by decide) (by decide) ?_ | refine shr_k 64 (by decide) (by decide) ?_ | refine shr_k 1 (by decide) (by decide) ?_)) | ((with_reducible show wpAny _ _ (binaryOp Operator.LShift _ _) _ _ _); with_reducible (first | refine shl_k 256 (by decide) (by decide) (by lia) (by lia) (by decide) ?_ | refine shl_k 4 (by decide) (by decide) (by lia) (by lia) (by decide) ?_ | refine shl_k 16 (by decide) (by decide) (by lia) (by lia) (by decide) ?_ | refine shl_k 64 (by decide) (by decide) (by lia) (by lia) (by decide) ?_)) | ((with_reducible show wpAny _ _ (binaryOp Operator.BitOr _ _) _ _ _); with_reducible (first | refine or_low 8 256 (by decide) (by lia) (by lia) (by lia) ?_ | refine or_low 2 4 (by decide) (by lia) (by lia) (by lia) ?_ | refine or_low 4 16 (by decide) (by lia) (by lia) (by lia) ?_ | refine or_low 6 64 (by decide) (by lia) (by lia) (by lia) ?_)) | ((with_reducible show wpAny _ _ (binaryOp Operator.BitAnd _ _) _ _ _); with_reducible (first | refine and_63 ?_ | refine and_15 ?_ | refine and_3 ?_ | refine and_65535 ?_)) | ((with_reducible show wpAny _ _ (subscriptTail _ _ (Value.bytes _ _) (Value.int _ _)) _ _ _); refine item_b64 (by lia) (by lia) ?_; intro _ _) | ((with_reducible show UnrEnd _ _ _ _ _ _ _); refine unr_end9 (by k_asm) (by k_asm) (List.forall_mem_cons.mpr ⟨by (refine neN ?_; (try dsimp only); lia), fun p hp => Nat.ne_of_lt (lt_of_all (by assumption) hp)⟩) ?_) | (with_reducible refine ite_neg (not_beq (by with_reducible assumption)) ?_) | (with_reducible refine ite_neg (not_dec (by with_reducible assumption)) ?_) | ((with_reducible show wpAny _ _ (call (Value.ref _) _ _) _ _ _); first | (refine wpAny_call (decdata_call (by assumption) (by k_asm) (by k_asm) (by simp only [depth_deeper]; lia) ?_); intro _ _ _ _; (try dsimp only); (try k_sweep)) | (refine wpAny_call (ascii_call (by assumption) (by k_asm) (by k_asm) (by simp only [depth_deeper]; lia) ?_); intro _ _ _ _; (try dsimp only); (try k_sweep)) | (refine wpAny_call (truth_call (by assumption) (by k_asm) (by k_asm) (by simp only [depth_deeper]; lia) ?_); intro _ _ _ _; (try dsimp only); (try k_sweep)) | (refine wpAny_call (value_call (by assumption) (by k_asm) (by k_asm) (by simp only [depth_deeper]; lia) (by assumption) ?_); intro _ _ _ _ _; (try dsimp only); (try k_sweep)) | (refine wpAny_call (b2a_call (by assumption) (by k_asm) (by k_asm) (by simp only [depth_deeper]; lia) ?_); intro _ _ _ _ _ _ _ _ _ _ _ _ _; (try dsimp only); (try k_sweep)))); try dsimp only) | (walk1; try dsimp only) | (dsimp only; walk1))
  rename (Fr _ _ _ _) => F2
  rename (News _ _ _ _) => N2
  exact leaveK_ F2 N2 fun F3 N3 => h _ _ _ _ _ _ _ (by assumption) (by assumption) (by assumption) (by assumption) F3 N3

theorem a2b_call {w : World} {A : Around} {s : Shared} {h₀ : Heap} {L : Addr} {m : Str → Option Value} {news : List (Addr × Obj)} {R : Result → Shared → Prop} {b : Array UInt8} {t : Tok} {c1 c2 c3 c4 v1 v2 v3 v4 : Int}
    (C : Env0 w A h₀ L) (F : Fr h₀ L s.heap m) (N : News h₀ L s.heap news) (hroom : A.depth + 2 < recursionLimit) (hb : KBw.bInts b = [c1, c2, c3, c4]) (s1 : Sg v1 c1) (s2 : Sg v2 c2) (s3 : Sg v3 c3) (s4 : Sg v4 c4)
    (h : ∀ h' t' tk, Fr h₀ L h' m → News h₀ L h' news → R (.ok (.ret (.bytes ([v1 * 4 + v2 / 16, v2 % 16 * 16 + v3 / 4, v3 % 4 * 64 + v4].map fun n => n.toNat.toUInt8).toArray t'))) { s with heap := h', toks := tk }) :
    codeAny (model PySem.Challenge.rw_pa0042_01.row.prog w) A (.call (.ref 85) ⟨[.bytes b t], [(Str.ofString "strict_mode", .bool false)]⟩) R s := by
  have X₀ := C.X; revert X₀; k_fill; intro X₀
  obtain ⟨hdl, dep, frs, gds, unt⟩ := A
  have hH : hdl = none := C.H
  subst hH
  replace hroom : dep + 2 < recursionLimit := hroom
  refine' enter (binds := [(Str.ofString "data", .bytes b t), (Str.ofString "strict_mode", .bool false)]) C F N ?k6 ?k7 ?kr ?k9 ?kB ?_ ?c2 ?c3 ?c4 ?c5
  (case k6 => k_is)
  (case k7 => k_is)
  (case kr => (show dep < recursionLimit; lia))
  (case k9 => first | exact BindsTo.of_eq rfl | exact binds_K (by k_in) rfl (by k_is) rfl rfl rfl)
  (case c5 => decide)
  (case kB => exact locs rfl)
  (case c2 => exact rfl)
  (case c3 => exact rfl)
  (case c4 => exact rfl)
  k_whole
  clear F N C X₀
  intro g L' h₁ C' F' N' l1
  have X' := C'.X
  obtain ⟨_, _, _, mg, mb, T'⟩ := C'.T
  try dsimp only
  have r1 := s1.range
  have r2 := s2.range
  have r3 := s3.range
  have r4 := s4.range
  have w1 := s1.low
  have w2 := s2.low
  have w3 := s3.low
  have w4 := s4.low
  have n1 : c1 ≠ 61 := by unfold Sg at s1; lia
  have n2 : c2 ≠ 61 := by unfold Sg at s2; lia
  have n3 : c3 ≠ 61 := by unfold Sg at s3; lia
  have n4 : c4 ≠ 61 := by unfold Sg at s4; lia
  repeat' ((fail_if_success (with_reducible show wpAny _ _ (exec (Stmt.For _ _ _ _ _) _) _ _ _)); (fail_if_success (with_reducible show wpAny _ _ (pyIter _) _ _ _)); first | ((first | ((with_reducible show wpAny _ _ (compareOp CmpOp.Is _ _) _ _ _); with_reducible (first | refine wpAny_is_self (by rfl) ?_ | refine wpAny_is_other (by rfl) (by decide) ?_)) | ((with_reducible show wpAny _ _ (call (Value.type "type") _) _ _ _); with_reducible (first | refine call_type_of (typeIs_bytes _ _ _) (by decide) ?_ | refine call_type_of (Tx := "bool") rfl (by decide) ?_)) | ((with_reducible show wpAny _ _ (binaryOp Operator.RShift _ _) _ _ _); with_reducible (first | refine shr_k 4 (by decide) (by decide) ?_ | refine shr_k 16 (by decide) (by decide) ?_ | refine shr_k 64 (by decide) (by decide) ?_ | refine shr_k 1 (by decide) (by decide) ?_)) | ((with_reducible show wpAny _ _ (binaryOp Operator.LShift _ _) _ _ _); with_reducible (first | refine shl_k 256 (by decide) (by decide) (by lia) (by lia) (by decide) ?_ | refine shl_k 4 (by decide) (by decide) (by lia) (by lia) (by decide) ?_ | refine shl_k 16 (by decide) (by decide) (by lia) (by lia) (by decide) ?_ | refine shl_k 64 (by decide) (by decide) (by lia) (by lia) (by decide) ?_)) | ((with_reducible show wpAny _ _ (binaryOp Operator.BitOr _ _) _ _ _); with_reducible (first | refine or_low 8 256 (by decide) (by lia) (by lia) (by lia) ?_ | refine or_low 2 4 (by decide) (by lia) (by lia) (by lia) ?_ | refine or_low 4 16 (by decide) (by lia) (by lia) (by lia) ?_ | refine or_low 6 64 (by decide) (by lia) (by lia) (by lia) ?_)) | ((with_reducible show wpAny _ _ (binaryOp Operator.BitAnd _ _) _ _ _); with_reducible (first | refine and_63 ?_ | refine and_15 ?_ | refine and_3 ?_ | refine and_65535 ?_)) | ((with_reducible show wpAny _ _ (subscriptTail _ _ (Value.bytes _ _) (Value.int _ _)) _ _ _); refine item_b64 (by lia) (by lia) ?_; intro _ _) | ((with_reducible show UnrEnd _ _ _ _ _ _ _); refine unr_end9 (by k_asm) (by k_asm) (List.forall_mem_cons.mpr ⟨by (refine neN ?_; (try dsimp only); lia), fun p hp => Nat.ne_of_lt (lt_of_all (by assumption) hp)⟩) ?_) | (with_reducible refine ite_neg (not_beq (by with_reducible assumption)) ?_) | (with_reducible refine ite_neg (not_dec (by with_reducible assumption)) ?_) | ((with_reducible show wpAny _ _ (call (Value.ref _) _ _) _ _ _); first | (refine wpAny_call (decdata_call (by assumption) (by k_asm) (by k_asm) (by simp only [depth_deeper]; lia) ?_); intro _ _ _ _; (try dsimp only); (try k_sweep)) | (refine wpAny_call (ascii_call (by assumption) (by k_asm) (by k_asm) (by simp only [depth_deeper]; lia) ?_); intro _ _ _ _; (try dsimp only); (try k_sweep)) | (refine wpAny_call (truth_call (by assumption) (by k_asm) (by k_asm) (by simp only [depth_deeper]; lia) ?_); intro _ _ _ _; (try dsimp only); (try k_sweep)) | (refine wpAny_call (value_call (by assumption) (by k_asm) (by k_asm) (by simp only [depth_deeper]; lia) (by assumption) ?_); intro _ _ _ _ _; (try dsimp only); (try k_sweep)) | (refine wpAny_call (b2a_call (by assumption) (by k_asm) (by k_asm) (by simp only [depth_deeper]; lia) ?_); intro _ _ _ _ _ _ _ _ _ _ _ _ _; (try dsimp only); (try k_sweep)))); try dsimp only) | (walk1; try dsimp only) | (dsimp only; walk1))
  refine hideQ fun Qz hQz => ?_
  repeat' ((fail_if_success (with_reducible show wpAny _ _ (pyIter _) _ _ _)); first | ((first | ((with_reducible show wpAny _ _ (compareOp CmpOp.Is _ _) _ _ _); with_reducible (first | refine wpAny_is_self (by rfl) ?_ | refine wpAny_is_other (by rfl) (by decide) ?_)) | ((with_reducible show wpAny _ _ (call (Value.type "type") _) _ _ _); with_reducible (first | refine call_type_of (typeIs_bytes _ _ _) (by decide) ?_ | refine call_type_of (Tx := "bool") rfl (by decide) ?_)) | ((with_reducible show wpAny _ _ (binaryOp Operator.RShift _ _) _ _ _); with_reducible (first | refine shr_k 4 (by decide) (by decide) ?_ | refine shr_k 16 (by decide) (by decide) ?_ | refine shr_k 64 (by decide) (by decide) ?_ | refine shr_k 1 (by decide) (by decide) ?_)) | ((with_reducible show wpAny _ _ (binaryOp Operator.LShift _ _) _ _ _); with_reducible (first | refine shl_k 256 (by decide) (by decide) (by lia) (by lia) (by decide) ?_ | refine shl_k 4 (by decide) (by decide) (by lia) (by lia) (by decide) ?_ | refine shl_k 16 (by decide) (by decide) (by lia) (by lia) (by decide) ?_ | refine shl_k 64 (by decide) (by decide) (by lia) (by lia) (by decide) ?_)) | ((with_reducible show wpAny _ _ (binaryOp Operator.BitOr _ _) _ _ _); with_reducible (first | refine or_low 8 256 (by decide) (by lia) (by lia) (by lia) ?_ | refine or_low 2 4 (by decide) (by lia) (by lia) (by lia) ?_ | refine or_low 4 16 (by decide) (by lia) (by lia) (by lia) ?_ | refine or_low 6 64 (by decide) (by lia) (by lia) (by lia) ?_)) | ((with_reducible show wpAny _ _ (binaryOp Operator.BitAnd _ _) _ _ _); with_reducible (first | refine and_63 ?_ | refine and_15 ?_ | refine and_3 ?_ | refine and_65535 ?_)) | ((with_reducible show wpAny _ _ (subscriptTail _ _ (Value.bytes _ _) (Value.int _ _)) _ _ _); refine item_b64 (by lia) (by lia) ?_; intro _ _) | ((with_reducible show UnrEnd _ _ _ _ _ _ _); refine unr_end9 (by k_asm) (by k_asm) (List.forall_mem_cons.mpr ⟨by (refine neN ?_; (try dsimp only); lia), fun p hp => Nat.ne_of_lt (lt_of_all (by assumption) hp)⟩) ?_) | (with_reducible refine ite_neg (not_beq (by with_reducible assumption)) ?_) | (with_reducible refine ite_neg (not_dec (by with_reducible assumption)) ?_) | ((with_reducible show wpAny _ _ (call (Value.ref _) _ _) _ _ _); first | (refine wpAny_call (decdata_call (by assumption) (by k_asm) (by k_asm) (by simp only [depth_deeper]; lia) ?_); intro _ _ _ _; (try dsimp only); (try k_sweep)) | (refine wpAny_call (ascii_call (by assumption) (by k_asm) (by k_asm) (by simp only [depth_deeper]; lia) ?_); intro _ _ _ _; (try dsimp only); (try k_sweep)) | (refine wpAny_call (truth_call (by assumption) (by k_asm) (by k_asm) (by simp only [depth_deeper]; lia) ?_); intro _ _ _ _; (try dsimp only); (try k_sweep)) | (refine wpAny_call (value_call (by assumption) (by k_asm) (by k_asm) (by simp only [depth_deeper]; lia) (by assumption) ?_); intro _ _ _ _ _; (try dsimp only); (try k_sweep)) | (refine wpAny_call (b2a_call (by assumption) (by k_asm) (by k_asm) (by simp only [depth_deeper]; lia) ?_); intro _ _ _ _ _ _ _ _ _ _ _ _ _; (try dsimp only); (try k_sweep)))); try dsimp only) | (walk1; try dsimp only) | (dsimp only; walk1))
  rename (Fr _ _ _ _) => F1
  rename (News _ _ _ _) => N1
  refine iter_bytesUnr (l := [c1, c2, c3, c4]) rfl F1 N1 hb fun I hI => ?_
  have hI2 : ∀ p ∈ news, p.1 < I := fun p hp => hI p (List.mem_cons_of_mem _ hp)
  have hI1 := hI _ (List.mem_cons_self ..)
  clear F1 N1 hI
  dsimp only at hI1
  replace hI1 := ltN hI1
  repeat' ((fail_if_success (with_reducible show wpAny _ _ (call (Value.type "bytes") _) _ _ _)); first | ((first | ((with_reducible show wpAny _ _ (compareOp CmpOp.Is _ _) _ _ _); with_reducible (first | refine wpAny_is_self (by rfl) ?_ | refine wpAny_is_other (by rfl) (by decide) ?_)) | ((with_reducible show wpAny _ _ (call (Value.type "type") _) _ _ _); with_reducible (first | refine call_type_of (typeIs_bytes _ _ _) (by decide) ?_ | refine call_type_of (Tx := "bool") rfl (by decide) ?_)) | ((with_reducible show wpAny _ _ (binaryOp Operator.RShift _ _) _ _ _); with_reducible (first | refine shr_k 4 (by decide) (by decide) ?_ | refine shr_k 16 (by decide) (by decide) ?_ | refine shr_k 64 (by decide) (by decide) ?_ | refine shr_k 1 (by decide) (by decide) ?_)) | ((with_reducible show wpAny _ _ (binaryOp Operator.LShift _ _) _ _ _); with_reducible (first | refine shl_k 256 (by decide) (by decide) (by lia) (by lia) (by decide) ?_ | refine shl_k 4 (by decide) (by decide) (by lia) (by lia) (by decide) ?_ | refine shl_k 16 (by decide) (by decide) (by lia) (by lia) (by decide) ?_ | refine shl_k 64 (by decide) (by decide) (by lia) (by lia) (by decide) ?_)) | ((with_reducible show wpAny _ _ (binaryOp Operator.BitOr _ _) _ _ _); with_reducible (first | refine or_low 8 256 (by decide) (by lia) (by lia) (by lia) ?_ | refine or_low 2 4 (by decide) (by lia) (by lia) (by lia) ?_ | refine or_low 4 16 (by decide) (by lia) (by lia) (by lia) ?_ | refine or_low 6 64 (by decide) (by lia) (by lia) (by lia) ?_)) | ((with_reducible show wpAny _ _ (binaryOp Operator.BitAnd _ _) _ _ _); with_reducible (first | refine and_63 ?_ | refine and_15 ?_ | refine and_3 ?_ | refine and_65535 ?_)) | ((with_reducible show wpAny _ _ (subscriptTail _ _ (Value.bytes _ _) (Value.int _ _)) _ _ _); refine item_b64 (by lia) (by lia) ?_; intro _ _) | ((with_reducible show UnrEnd _ _ _ _ _ _ _); refine unr_end9 (by k_asm) (by k_asm) (List.forall_mem_cons.mpr ⟨by (refine neN ?_; (try dsimp only); lia), fun p hp => Nat.ne_of_lt (lt_of_all (by assumption) hp)⟩) ?_) | (with_reducible refine ite_neg (not_beq (by with_reducible assumption)) ?_) | (with_reducible refine ite_neg (not_dec (by with_reducible assumption)) ?_) | ((with_reducible show wpAny _ _ (call (Value.ref _) _ _) _ _ _); first | (refine wpAny_call (decdata_call (by assumption) (by k_asm) (by k_asm) (by simp only [depth_deeper]; lia) ?_); intro _ _ _ _; (try dsimp only); (try k_sweep)) | (refine wpAny_call (ascii_call (by assumption) (by k_asm) (by k_asm) (by simp only [depth_deeper]; lia) ?_); intro _ _ _ _; (try dsimp only); (try k_sweep)) | (refine wpAny_call (truth_call (by assumption) (by k_asm) (by k_asm) (by simp only [depth_deeper]; lia) ?_); intro _ _ _ _; (try dsimp only); (try k_sweep)) | (refine wpAny_call (value_call (by assumption) (by k_asm) (by k_asm) (by simp only [depth_deeper]; lia) (by assumption) ?_); intro _ _ _ _ _; (try dsimp only); (try k_sweep)) | (refine wpAny_call (b2a_call (by assumption) (by k_asm) (by k_asm) (by simp only [depth_deeper]; lia) ?_); intro _ _ _ _ _ _ _ _ _ _ _ _ _; (try dsimp only); (try k_sweep)))); try dsimp only) | (walk1; try dsimp only) | (dsimp only; walk1))
  refine hQz _ _ ?_
  repeat' ((fail_if_success (with_reducible show wpAny _ _ (call (Value.type "bytes") _) _ _ _)); first | ((first | ((with_reducible show wpAny _ _ (compareOp CmpOp.Is _ _) _ _ _); with_reducible (first | refine wpAny_is_self (by rfl) ?_ | refine wpAny_is_other (by rfl) (by decide) ?_)) | ((with_reducible show wpAny _ _ (call (Value.type "type") _) _ _ _); with_reducible (first | refine call_type_of (typeIs_bytes _ _ _) (by decide) ?_ | refine call_type_of (Tx := "bool") rfl (by decide) ?_)) | ((with_reducible show wpAny _ _ (binaryOp Operator.RShift _ _) _ _ _); with_reducible (first | refine shr_k 4 (by decide) (by decide) ?_ | refine shr_k 16 (by decide) (by decide) ?_ | refine shr_k 64 (by decide) (by decide) ?_ | refine shr_k 1 (by decide) (by decide) ?_)) | ((with_reducible show wpAny _ _ (binaryOp Operator.LShift _ _) _ _ _); with_reducible (first | refine shl_k 256 (by decide) (by decide) (by lia) (by lia) (by decide) ?_ | refine shl_k 4 (by decide) (by decide) (by lia) (by lia) (by decide) ?_ | refine shl_k 16 (by decide) (by decide) (by lia) (by lia) (by decide) ?_ | refine shl_k 64 (by decide) (by decide) (by lia) (by lia) (by decide) ?_)) | ((with_reducible show wpAny _ _ (binaryOp Operator.BitOr _ _) _ _ _); with_reducible (first | refine or_low 8 256 (by decide) (by lia) (by lia) (by lia) ?_ | refine or_low 2 4 (by decide) (by lia) (by lia) (by lia) ?_ | refine or_low 4 16 (by decide) (by lia) (by lia) (by lia) ?_ | refine or_low 6 64 (by decide) (by lia) (by lia) (by lia) ?_)) | ((with_reducible show wpAny _ _ (binaryOp Operator.BitAnd _ _) _ _ _); with_reducible (first | refine and_63 ?_ | refine and_15 ?_ | refine and_3 ?_ | refine and_65535 ?_)) | ((with_reducible show wpAny _ _ (subscriptTail _ _ (Value.bytes _ _) (Value.int _ _)) _ _ _); refine item_b64 (by lia) (by lia) ?_; intro _ _) | ((with_reducible show UnrEnd _ _ _ _ _ _ _); refine unr_end9 (by k_asm) (by k_asm) (List.forall_mem_cons.mpr ⟨by (refine neN ?_; (try dsimp only); lia), fun p hp => Nat.ne_of_lt (lt_of_all (by assumption) hp)⟩) ?_) | (with_reducible refine ite_neg (not_beq (by with_reducible assumption)) ?_) | (with_reducible refine ite_neg (not_dec (by with_reducible assumption)) ?_) | ((with_reducible show wpAny _ _ (call (Value.ref _) _ _) _ _ _); first | (refine wpAny_call (decdata_call (by assumption) (by k_asm) (by k_asm) (by simp only [depth_deeper]; lia) ?_); intro _ _ _ _; (try dsimp only); (try k_sweep)) | (refine wpAny_call (ascii_call (by assumption) (by k_asm) (by k_asm) (by simp only [depth_deeper]; lia) ?_); intro _ _ _ _; (try dsimp only); (try k_sweep)) | (refine wpAny_call (truth_call (by assumption) (by k_asm) (by k_asm) (by simp only [depth_deeper]; lia) ?_); intro _ _ _ _; (try dsimp only); (try k_sweep)) | (refine wpAny_call (value_call (by assumption) (by k_asm) (by k_asm) (by simp only [depth_deeper]; lia) (by assumption) ?_); intro _ _ _ _ _; (try dsimp only); (try k_sweep)) | (refine wpAny_call (b2a_call (by assumption) (by k_asm) (by k_asm) (by simp only [depth_deeper]; lia) ?_); intro _ _ _ _ _ _ _ _ _ _ _ _ _; (try dsimp only); (try k_sweep)))); try dsimp only) | (walk1; try dsimp only) | (dsimp only; walk1))
  rename (Fr _ _ _ _) => F2
  rename (News _ _ _ _) => N2
  refine bytes_three F2 N2 ?_ rfl ?_
  · simp only [List.forall_mem_cons, List.not_mem_nil, false_implies, implies_true, and_true]
    lia
  · intro h9 t9 k9 F9 N9
    exact leaveK_ F9 N9 fun F3 N3 => h _ _ _ F3 N3

end Mine
namespace Mine
open PySem PySem.W PyProof.Rows PySem.Calls
theorem decode_call {w : World} {A : Around} {s : Shared} {h₀ : Heap} {L : Addr} {m : Str → Option Value} {news : List (Addr × Obj)} {R : Result → Shared → Prop} {b : Array UInt8} {t : Tok} {c1 c2 c3 c4 v1 v2 v3 v4 : Int}
    (C : Env0 w A h₀ L) (F : Fr h₀ L s.heap m) (N : News h₀ L s.heap news) (hroom : A.depth + 3 < recursionLimit) (hb : KBw.bInts b = [c1, c2, c3, c4]) (s1 : Sg v1 c1) (s2 : Sg v2 c2) (s3 : Sg v3 c3) (s4 : Sg v4 c4)
    (h : ∀ h' t' tk, Fr h₀ L h' m → News h₀ L h' news → R (.ok (.ret (.bytes ([v1 * 4 + v2 / 16, v2 % 16 * 16 + v3 / 4, v3 % 4 * 64 + v4].map fun n => n.toNat.toUInt8).toArray t'))) { s with heap := h', toks := tk }) :
    codeAny (model PySem.Challenge.rw_pa0042_01.row.prog w) A (.call (.ref 109) ⟨[.bytes b t], []⟩) R s := by
  have X₀ := C.X; revert X₀; k_fill; intro X₀
  obtain ⟨hdl, dep, frs, gds, unt⟩ := A
  have hH : hdl = none := C.H
  subst hH
  replace hroom : dep + 3 < recursionLimit := hroom
  refine' enter (binds := [(Str.ofString "s", .bytes b t), (Str.ofString "altchars", .none), (Str.ofString "validate", .bool false)]) C F N ?k6 ?k7 ?kr ?k9 ?kB ?_ ?c2 ?c3 ?c4 ?c5
  (case k6 => k_is)
  (case k7 => k_is)
  (case kr => (show dep < recursionLimit; lia))
  (case k9 => first | exact BindsTo.of_eq rfl | exact binds_K (by k_in) rfl (by k_is) rfl rfl rfl)
  (case c5 => decide)
  (case kB => exact locs rfl)
  (case c2 => exact rfl)
  (case c3 => exact rfl)
  (case c4 => exact rfl)
  k_whole
  clear F N C X₀
  intro g L' h₁ C' F' N' l1
  have X' := C'.X
  obtain ⟨_, _, _, mg, mb, T'⟩ := C'.T
  try dsimp only
  repeat' (first | ((first | ((with_reducible show wpAny _ _ (compareOp CmpOp.Is _ _) _ _ _); with_reducible (first | refine wpAny_is_self (by rfl) ?_ | refine wpAny_is_other (by rfl) (by decide) ?_)) | ((with_reducible show wpAny _ _ (call (Value.type "type") _) _ _ _); with_reducible (first | refine call_type_of (typeIs_bytes _ _ _) (by decide) ?_ | refine call_type_of (Tx := "bool") rfl (by decide) ?_)) | ((with_reducible show wpAny _ _ (call (Value.ref _) _ _) _ _ _); first | (refine wpAny_call (decdata_call (by assumption) (by k_asm) (by k_asm) (by simp only [depth_deeper]; lia) ?_); intro _ _ _ _; (try dsimp only); (try k_sweep)) | (refine wpAny_call (a2b_call (by assumption) (by k_asm) (by k_asm) (by simp only [depth_deeper]; lia) (by assumption) (by assumption) (by assumption) (by assumption) (by assumption) ?_); intro _ _ _ _ _; (try dsimp only); (try k_sweep)))); try dsimp only) | (walk1; try dsimp only) | (dsimp only; walk1))
  rename (Fr _ _ _ _) => F2
  rename (News _ _ _ _) => N2
  exact leaveK_ F2 N2 fun F3 N3 => h _ _ _ F3 N3

end Mine
namespace Mine
open PySem PySem.W PyProof.Rows PySem.Calls
section
variable {prog : Program} {w : World} {A : Around} {E : Value → Shared → Prop} {s : Shared} {env : Env} {h₀ : Heap} {x y : Str} {body : List Stmt} {Q : Flow → Shared → Prop}
theorem for_list1 {l : Addr} {vs : List Value} {nn : Nat} {m₀ : Str → Option Value} {news : List (Addr × Obj)} {val₀ : Value} (J : Nat → Value → List (Addr × Obj) → Prop)
    (hh : A.handled = none) (hl : (l, listOf vs.toArray nn) ∈ news) (F : Fr h₀ env.locals s.heap m₀) (N : News h₀ env.locals s.heap news) (hy : m₀ y = some val₀) (hj : J 0 val₀ news)
    (turn : ∀ i v val news₁ h tk own, vs[i]? = some v → OwnOff own (news₁.map (·.1)) → (l, listOf vs.toArray nn) ∈ news₁ → J i val news₁ →
      Fr h₀ env.locals h (fun z => if z = x then some v else if z = y then some val else m₀ z) → News h₀ env.locals h (news₁ ++ own) →
      wpAny (model prog w) A (execs body env) (InvPostG h₀ env.locals (fun m' nx => (l, listOf vs.toArray nn) ∈ nx ∧ ∃ val', m' y = some val' ∧ (∀ z, z ≠ x → z ≠ y → m' z = m₀ z) ∧ J (i + 1) val' nx) own { s with heap := h, toks := tk } Q) E { s with heap := h, toks := tk })
    (done : ∀ u val news₁ h tk, J vs.length val news₁ → Fr h₀ env.locals h (fun z => if z = x then u else if z = y then some val else m₀ z) → News h₀ env.locals h news₁ → Q .next { s with heap := h, toks := tk }) :
    wpAny (model prog w) A (pyIter (.ref l)) (fun it s₂ => LoopAtV prog w A h₀ env x body Q E it s₂) E s := by
  have key : ∀ (m₁ : Str → Option Value) (val : Value) (u : Option Value), m₁ y = some val → (∀ z, z ≠ x → z ≠ y → m₁ z = m₀ z) →
      (fun z => if z = x then u else if z = y then some val else m₀ z) = fun z => if z = x then u else m₁ z := by
    intro m₁ val u h1 h2
    funext z
    by_cases hz : z = x
    · rw [if_pos hz, if_pos hz]
    · rw [if_neg hz, if_neg hz]
      by_cases hz2 : z = y
      · rw [if_pos hz2, hz2, h1]
      · rw [if_neg hz2, h2 z hz hz2]
  refine kdl_iter (fun i m nx => ∃ val, m y = some val ∧ (∀ z, z ≠ x → z ≠ y → m z = m₀ z) ∧ J i val nx) hh hl F N ⟨val₀, hy, fun _ _ _ => rfl, hj⟩ ?_ ?_
  · rintro i v m₁ nx h tk own hv hoff hm ⟨val, h1, h2, hJ⟩ F₁ N₁
    refine turn i v val nx h tk own hv hoff hm hJ ?_ N₁
    rw [key m₁ val (some v) h1 h2]; exact F₁
  · rintro m₁ nx h tk ⟨val, h1, h2, hJ⟩ F₁ N₁
    refine done (m₁ x) val nx h tk hJ ?_ N₁
    rw [key m₁ val (m₁ x) h1 h2]
    have e : (fun z => if z = x then m₁ x else m₁ z) = m₁ := by
      funext z
      by_cases hz : z = x
      · rw [if_pos hz, hz]
      · rw [if_neg hz]
    rw [e]; exact F₁
end
/-- the shelf behind what is drawn -/
noncomputable def shelfOf (ns ms : List Int) : List Int := ms.foldl (fun acc x => if acc.any (· == x % 16777216) then acc else acc ++ [x % 16777216]) ns
theorem shelfOf_length (ns : List Int) : ∀ ms : List Int, (shelfOf ns ms).length ≤ ns.length + ms.length := by
  intro ms
  unfold shelfOf
  induction ms generalizing ns with
  | nil => simp
  | cons x r ih =>
    rw [List.foldl_cons]
    refine Nat.le_trans (ih _) ?_
    split <;> simp <;> lia
theorem shelfOf_snoc (ns ms : List Int) (x : Int) : shelfOf ns (ms ++ [x]) = if (shelfOf ns ms).any (· == x % 16777216) then shelfOf ns ms else shelfOf ns ms ++ [x % 16777216] := by
  unfold shelfOf; rw [List.foldl_append]; rfl
theorem take_snoc {ms : List Int} {i : Nat} (h : i < ms.length) : ms.take (i + 1) = ms.take i ++ [ms[i]] := by
  rw [List.take_add_one, List.getElem?_eq_getElem h]; rfl
theorem shelf_in {ns ms : List Int} {i : Nat} (h : i < ms.length) (q : ((shelfOf ns (ms.take i)).any fun x => x == ms[i] % 2 ^ Int.toNat 24) = true) : shelfOf ns (ms.take (i + 1)) = shelfOf ns (ms.take i) := by
  rw [take_snoc h, shelfOf_snoc]; exact if_pos q
theorem shelf_out {ns ms : List Int} {i : Nat} (h : i < ms.length) (q : ((shelfOf ns (ms.take i)).any fun x => x == ms[i] % 2 ^ Int.toNat 24) = false) : shelfOf ns (ms.take (i + 1)) = shelfOf ns (ms.take i) ++ [ms[i] % 2 ^ Int.toNat 24] := by
  rw [take_snoc h, shelfOf_snoc]; exact if_neg (by rw [show ((shelfOf ns (ms.take i)).any fun x => x == ms[i] % 16777216) = false from q]; simp)
theorem inv_end_new {h₀ : Heap} {L q : Addr} {o : Obj} {b1 b2 : Addr × Obj} {J : (Str → Option Value) → List (Addr × Obj) → Prop} {own news : List (Addr × Obj)} {m' : Str → Option Value} {h' : Heap} {tk : Nat} {s₁ : Shared}
    (F : Fr h₀ L h' m') (N : News h₀ L h' ((q, o) :: b1 :: b2 :: (news ++ own))) (ho : ∀ p ∈ own, p.1 ≠ q) (hoff : OwnOff own (news.map (·.1))) (hJ : J m' ((q, o) :: news)) :
    InvEndG h₀ L J own s₁ { s₁ with heap := h', toks := tk } := by
  refine ⟨h', tk, m', _, (q, o) :: news, rfl, F, N, fun p hp => ?_, fun p hp => ?_, fun p hp b hb => ?_, hJ⟩
  · rcases List.mem_cons.mp hp with e | e
    · exact e ▸ List.mem_cons_self ..
    · exact List.mem_cons_of_mem _ (List.mem_cons_of_mem _ (List.mem_cons_of_mem _ (List.mem_append_left _ e)))
  · exact List.mem_cons_of_mem _ (List.mem_cons_of_mem _ (List.mem_cons_of_mem _ (List.mem_append_right _ hp)))
  · rcases List.mem_cons.mp hb with e | e
    · rw [e]; exact ho p hp
    · exact hoff p hp b e
end Mine
namespace Mine
open PySem PySem.W PyProof.Rows PySem.Calls
theorem shelf_call {w : World} {A : Around} {s : Shared} {h₀ : Heap} {L : Addr} {m : Str → Option Value} {news : List (Addr × Obj)} {R : Result → Shared → Prop} {a d : Addr} {vs ds : List Value} {ns ms : List Int} {n n2 : Nat}
    (C : Env0 w A h₀ L) (F : Fr h₀ L s.heap m) (N : News h₀ L s.heap news) (hroom : A.depth + 0 < recursionLimit) (ha : (a, listOf vs.toArray n) ∈ news) (hd : (d, listOf ds.toArray n2) ∈ news) (hi : IntsAre vs ns) (hj : IntsAre ds ms) (hz : ns.length + ms.length ≤ 1000)
    (h : ∀ h' r vs' n' tk, IntsAre vs' (shelfOf ns ms) → Fr h₀ L h' m → News h₀ L h' ((r, listOf vs'.toArray n') :: news) → R (.ok (.ret (.ref r))) { s with heap := h', toks := tk }) :
    codeAny (model PySem.Challenge.rw_pa0042_01.row.prog w) A (.call (.ref 156) ⟨[.ref a, .ref d], []⟩) R s := by
  have X₀ := C.X; revert X₀; k_fill; intro X₀
  obtain ⟨hdl, dep, frs, gds, unt⟩ := A
  have hH : hdl = none := C.H
  subst hH
  replace hroom : dep + 0 < recursionLimit := hroom
  refine' enter (binds := [(Str.ofString "shelf", .ref a), (Str.ofString "drawn", .ref d)]) C F N ?k6 ?k7 ?kr ?k9 ?kB ?_ ?c2 ?c3 ?c4 ?c5
  (case k6 => k_is)
  (case k7 => k_is)
  (case kr => (show dep < recursionLimit; lia))
  (case k9 => first | exact BindsTo.of_eq rfl | exact binds_K (by k_in) rfl (by k_is) rfl rfl rfl)
  (case c5 => decide)
  (case kB => exact locs rfl)
  (case c2 => exact rfl)
  (case c3 => exact rfl)
  (case c4 => exact rfl)
  k_whole
  clear F N C X₀
  intro g L' h₁ C' F' N' l1
  have X' := C'.X
  obtain ⟨_, _, _, mg, mb, T'⟩ := C'.T
  try dsimp only
  repeat' ((fail_if_success (with_reducible show wpAny _ _ (exec (Stmt.For _ _ _ _ _) _) _ _ _)); first | ((first | ((with_reducible show wpAny _ _ (binaryOp Operator.FloorDiv (Value.int _ _) (Value.int _ _)) _ _ _); with_reducible (refine div_pos (by decide) (by decide) ?_)) | ((with_reducible show wpAny _ _ (binaryOp Operator.Mod (Value.int _ _) (Value.int _ _)) _ _ _); with_reducible (refine mod_pos (by decide) ?_)) | ((with_reducible show wpAny _ _ (compareOp CmpOp.NotIn (Value.int _ _) (Value.ref _)) _ _ _); refine notin_list_ints (PySem.IsL.isList (News.get (by k_asm) (by k_mem))) (by assumption) ?_)); try dsimp only) | (walk1; try dsimp only) | (dsimp only; walk1))
  rename (Fr _ _ _ _) => F0
  with_unfolding_all refine' For_invVF F0 ?k1 ?k2 ?_
  (case k1 => exact rfl)
  (case k2 => exact rfl)

  repeat' ((fail_if_success (with_reducible show wpAny _ _ (pyIter _) _ _ _)); (fail_if_success (with_reducible show wpAny _ _ (binaryOp Operator.Add _ _) _ _ _)); first | ((first | ((with_reducible show wpAny _ _ (binaryOp Operator.FloorDiv (Value.int _ _) (Value.int _ _)) _ _ _); with_reducible (refine div_pos (by decide) (by decide) ?_)) | ((with_reducible show wpAny _ _ (binaryOp Operator.Mod (Value.int _ _) (Value.int _ _)) _ _ _); with_reducible (refine mod_pos (by decide) ?_)) | ((with_reducible show wpAny _ _ (compareOp CmpOp.NotIn (Value.int _ _) (Value.ref _)) _ _ _); refine notin_list_ints (PySem.IsL.isList (News.get (by k_asm) (by k_mem))) (by assumption) ?_)); try dsimp only) | (walk1; try dsimp only) | (dsimp only; walk1))
  rename (Fr _ _ _ _) => F1
  rename (News _ _ _ _) => N1
  have N0 : News g L' h₁ ((a, listOf vs.toArray n) :: news) := fun p hp => by
    rcases List.mem_cons.mp hp with q | q
    · exact q ▸ N1 _ ha
    · exact N1 p q
  refine for_list1 (y := Str.ofString "shelf") (fun i val nx => ∃ r vs' n', val = .ref r ∧ nx = (r, listOf vs'.toArray n') :: news ∧ IntsAre vs' (shelfOf ns (ms.take i))) rfl (List.mem_cons_of_mem _ hd) F1 N0 rfl ⟨a, vs, n, rfl, rfl, hi⟩ ?_ ?_
  · clear F1 N1 N0
    rintro i v val nx h2 tk2 own hv hoff hm ⟨r, vs', n', rfl, rfl, hi'⟩ F2 N2
    have hlt : i < ms.length := by
      have := hj.length
      have := (List.getElem?_eq_some_iff.mp hv).1
      lia
    obtain ⟨t0, hx0⟩ := hj.get i ms[i] (List.getElem?_eq_getElem hlt)
    obtain rfl : v = .int ms[i] t0 := Option.some.inj (hv.symm.trans hx0)
    rw [List.cons_append] at N2
    repeat' ((fail_if_success (with_reducible show wpAny _ _ (binaryOp Operator.Add _ _) _ _ _)); first | ((first | ((with_reducible show wpAny _ _ (binaryOp Operator.FloorDiv (Value.int _ _) (Value.int _ _)) _ _ _); with_reducible (refine div_pos (by decide) (by decide) ?_)) | ((with_reducible show wpAny _ _ (binaryOp Operator.Mod (Value.int _ _) (Value.int _ _)) _ _ _); with_reducible (refine mod_pos (by decide) ?_)) | ((with_reducible show wpAny _ _ (compareOp CmpOp.NotIn (Value.int _ _) (Value.ref _)) _ _ _); refine notin_list_ints (PySem.IsL.isList (News.get (by k_asm) (by k_mem))) (by assumption) ?_)); try dsimp only) | (walk1; try dsimp only) | (dsimp only; walk1))
    · rename ((List.any _ _) = true) => hq
      refine ⟨_, _, _, _, (r, listOf vs'.toArray n') :: news, rfl, F2, N2, fun p hp => ?_, fun p hp => ?_, hoff, hm, .ref r, rfl, fun z h1 h2 => (if_neg h1).trans (if_neg h2), r, vs', n', rfl, rfl, ?_⟩
      · rcases List.mem_cons.mp hp with q | q
        · exact q ▸ List.mem_cons_self ..
        · exact List.mem_cons_of_mem _ (List.mem_append_left _ q)
      · exact List.mem_cons_of_mem _ (List.mem_append_right _ hp)
      · rw [shelf_in hlt hq]; exact hi'
    · rename (Fr _ _ _ _) => F3
      rename (News _ _ _ _) => N3
      rename ((List.any _ _) = false) => hq
      have hl3 := shelfOf_length ns (ms.take i)
      have hl4 : (ms.take i).length ≤ ms.length := by rw [List.length_take]; lia
      refine add_lists_ints F3 N3 (PySem.IsL.isList (N3 _ (List.mem_cons_of_mem _ (List.mem_cons_self ..))).1) (PySem.IsL.isList (N3 _ (List.mem_cons_self ..)).1) hi' (.cons _ _ .nil) ?_ (by rw [sizeLine_eq]; simp only [List.length_cons, List.length_nil]; lia)
      intro h4 F4 N4 hi4
      repeat' (first | ((first | ((with_reducible show wpAny _ _ (binaryOp Operator.FloorDiv (Value.int _ _) (Value.int _ _)) _ _ _); with_reducible (refine div_pos (by decide) (by decide) ?_)) | ((with_reducible show wpAny _ _ (binaryOp Operator.Mod (Value.int _ _) (Value.int _ _)) _ _ _); with_reducible (refine mod_pos (by decide) ?_)) | ((with_reducible show wpAny _ _ (compareOp CmpOp.NotIn (Value.int _ _) (Value.ref _)) _ _ _); refine notin_list_ints (PySem.IsL.isList (News.get (by k_asm) (by k_mem))) (by assumption) ?_)); try dsimp only) | (walk1; try dsimp only) | (dsimp only; walk1))
      rename (Fr _ _ _ _) => F5
      rename (News _ _ _ _) => N5
      refine inv_end_new F5 N5 ?_ ?_ ⟨List.mem_cons_of_mem _ hd, _, rfl, fun z h1 h2 => (if_neg h2).trans ((if_neg h1).trans (if_neg h2)), _, _, _, rfl, rfl, ?_⟩
      · intro p hp e
        have := Heap.lt_size (N3 p (List.mem_cons_of_mem _ (List.mem_cons_of_mem _ (List.mem_append_right _ hp)))).1
        rw [e] at this
        exact Nat.lt_irrefl _ this
      · exact fun p hp b hb => hoff p hp b (List.mem_cons_of_mem _ hb)
      · rw [shelf_out hlt hq]; exact hi4
  · clear F1 N1 N0
    rintro u val nx h2 tk2 ⟨r, vs', n', rfl, rfl, hi'⟩ F2 N2
    rw [hj.length, List.take_length] at hi'
    repeat' (first | ((first | ((with_reducible show wpAny _ _ (binaryOp Operator.FloorDiv (Value.int _ _) (Value.int _ _)) _ _ _); with_reducible (refine div_pos (by decide) (by decide) ?_)) | ((with_reducible show wpAny _ _ (binaryOp Operator.Mod (Value.int _ _) (Value.int _ _)) _ _ _); with_reducible (refine mod_pos (by decide) ?_)) | ((with_reducible show wpAny _ _ (compareOp CmpOp.NotIn (Value.int _ _) (Value.ref _)) _ _ _); refine notin_list_ints (PySem.IsL.isList (News.get (by k_asm) (by k_mem))) (by assumption) ?_)); try dsimp only) | (walk1; try dsimp only) | (dsimp only; walk1))
    exact leaveK_ F2 N2 fun F3 N3 => h _ _ _ _ _ hi' F3 N3

end Mine
namespace Mine
open PySem PySem.W PyProof.Rows PySem.Calls
theorem enterC {w : World} {A : Around} {s : Shared} {h₀ : Heap} {L : Addr} {m : Str → Option Value} {news : List (Addr × Obj)}
    {R : Result → Shared → Prop} {name qual : Str} {params : Arguments} {body : List Stmt} {scope : Scope} {dV kV doc pm cdv ct oc : Value} {an od : Option Addr} {osl : Array (Option Value)} {f : Addr} {args : Args} {binds : List (Str × Value)}
    (C : Env0 w A h₀ L) (F : Fr h₀ L s.heap m) (N : News h₀ L s.heap news)
    (ho : (Mine.hd.heap_39 w.params).lookup f = some ⟨oc, od, .func (fnOf name qual params body scope dV kV doc pm an cdv ct), osl⟩) (hcd : codeIn (Mine.hd.heap_39 w.params) cdv qual = true) (hroom : A.depth < recursionLimit)
    (hbind : BindsTo s (fnOf name qual params body scope dV kV doc pm an cdv ct) args binds) (hkind : (binds.all fun y => scope.names.lookup y.1 == some .local || scope.names.lookup y.1 == some .cell) = true)
    (hnd : ((cellsFrom 0 scope.names []).map (·.1)).Nodup)
    (h : ∀ g L' h₁ tk cells, Env0 w (A.deeper (envOfC qual scope L' f cdv)) g L' → Fr g L' h₁ (bindL (envOfC qual scope L' f cdv).kindOf binds fun _ => none) → News g L' h₁ (cells ++ news) →
      CellsAre (bindC (envOfC qual scope L' f cdv).kindOf binds fun _ => none) (cellsFrom (L' + 1) scope.names []) cells → (∀ p ∈ news, p.1 < L') →
      wpAny (model PySem.Challenge.rw_pa0042_01.row.prog w) (A.deeper (envOfC qual scope L' f cdv)) (execs body (envOfC qual scope L' f cdv))
        (fun fl s' => LeaveK h₀ L m g R (match fl with | .ret v => v | _ => .none) s') (fun _ _ => False)
        { s with heap := h₁, toks := tk })
    (hco : scope.isCoroutine = false) (hgen : scope.isGenerator = false) (hk : scope.kind = .function) : codeAny (model PySem.Challenge.rw_pa0042_01.row.prog w) A (.call (.ref f) args) R s := by
  obtain ⟨X, ⟨p, loose, mean, mg, mb, T⟩, ⟨A₀, base, outer, env, B, hA, hf, hke⟩, H⟩ := C
  refine callX_cells B F N T.nolimit hA hf hke ((X.keeps F.keep) _ _ ho) rfl (codeRec_of (X.keeps F.keep) hcd) hroom hbind (kindsX hkind) hnd (fun g L' h₁ tk cells FG F' N' Y B' st l => ?_) hco hgen hk
  refine wpAny_noRaise (h g L' h₁ tk cells ?_ F' N' Y l)
  refine ⟨X.keeps st, ⟨p, loose, mean, mg, mb, T.keeps st⟩, ⟨A, base, env :: outer, envOfC qual scope L' f cdv, B', ?_, rfl, hk⟩, H⟩
  show A.frames.map _ = _
  rw [hA]; rfl
section
open LCg LCt
variable {prog : Program} {w : World} {A : Around} {s : Shared} {h₀ : Heap} {L : Addr} {m : Str → Option Value} {env : Env} {ct elt : Expr} {x : Str} {scope : Scope} {cl : List (Str × Addr)} {S : List (Addr × Obj) → Prop} {P : Nat → Value → Prop} {Fin : List Value → List (Addr × Obj) → Prop}
theorem compEnd_mono {s₁ s₂ : Shared} {I C D : Addr} {oI oC oD : Obj} {r r' : Value → List (Addr × Obj) → Prop} {y : Value} (h : CompEnd h₀ L m s₁ I oI C oC D oD S r y s₂) (hr : ∀ y nw, r y nw → r' y nw) : CompEnd h₀ L m s₁ I oI C oC D oD S r' y s₂ := by
  obtain ⟨h', tk, news', e, F, N, off, hS, q⟩ := h
  exact ⟨h', tk, news', e, F, N, off, hS, hr _ _ q⟩
theorem comp_inv {n : Nat} (Inv : Nat → List Value → List (Addr × Obj) → Prop)
    (turn : ∀ i ys news, i < n → Inv i ys news → ∀ v I oI C oC D m₂ h tk, P i v → NsObj oC m₂ → m₂ x = some v → Fr h₀ L h m → News h₀ L h ((I, oI) :: (C, oC) :: (D, lst ys) :: news) → Off3 I C D news → ((@Ne Nat I C) ∧ (@Ne Nat I D) ∧ (@Ne Nat C D)) →
      wpAny (model prog w) A (eval elt (compEnvC scope cl C env)) (CompEnd h₀ L m { s with heap := h, toks := tk } I oI C oC D (lst ys) S (fun y news' => Inv (i + 1) (ys ++ [y]) news')) (fun _ _ => False) { s with heap := h, toks := tk })
    (fin : ∀ ys news, Inv n ys news → Fin ys news) : ∀ k i ys news, i + k = n → Inv i ys news → CompRest prog w A h₀ L m env elt x scope cl s S P Fin k i ys news
  | 0, i, ys, news, e, hI => fin ys news (by rw [← e]; exact hI)
  | k + 1, i, ys, news, e, hI => by
    intro v I oI C oC D m₂ h tk E' hP hC hx F N off ne
    refine wpAny_noRaise (wpAny_mono (turn i ys news (by lia) hI v I oI C oC D m₂ h tk hP hC hx F N off ne) (fun y s₂ q => ?_) fun _ _ z => z)
    exact compEnd_mono q fun y nw hI' => comp_inv Inv turn fin k (i + 1) _ _ (by lia) hI'
theorem comp_invT {n : Nat} (Inv : Nat → List Value → List (Addr × Obj) → Prop)
    (turn : ∀ i ys news, i < n → Inv i ys news → ∀ v I oI C oC D m₂ h tk, P i v → NsObj oC m₂ → m₂ x = some v → Fr h₀ L h m → News h₀ L h ((I, oI) :: (C, oC) :: (D, lst ys) :: news) → Off3 I C D news → ((@Ne Nat I C) ∧ (@Ne Nat I D) ∧ (@Ne Nat C D)) →
      wpAny (model prog w) A (isTrue ct (compEnvC scope cl C env) (eval ct (compEnvC scope cl C env))) (fun ok s' => if ok = true then
        wpAny (model prog w) A (eval elt (compEnvC scope cl C env)) (CompEnd h₀ L m { s with heap := h, toks := tk } I oI C oC D (lst ys) S (fun y news' => Inv (i + 1) (ys ++ [y]) news')) (fun _ _ => False) s'
        else CompEnd h₀ L m { s with heap := h, toks := tk } I oI C oC D (lst ys) S (fun _ news' => Inv (i + 1) ys news') Value.none s') (fun _ _ => False) { s with heap := h, toks := tk })
    (fin : ∀ ys news, Inv n ys news → Fin ys news) : ∀ k i ys news, i + k = n → Inv i ys news → CompRestT prog w A h₀ L m env ct elt x scope cl s S P Fin k i ys news
  | 0, i, ys, news, e, hI => fin ys news (by rw [← e]; exact hI)
  | k + 1, i, ys, news, e, hI => by
    intro v I oI C oC D m₂ h tk E' hP hC hx F N off ne
    refine wpAny_noRaise (wpAny_mono (turn i ys news (by lia) hI v I oI C oC D m₂ h tk hP hC hx F N off ne) (fun ok s₂ q => ?_) fun _ _ z => z)
    cases ok with
    | true =>
      simp only [if_true] at q ⊢
      refine wpAny_mono q (fun y s₃ q' => ?_) fun _ _ z => z.elim
      exact compEnd_mono q' fun y nw hI' => comp_invT Inv turn fin k (i + 1) _ _ (by lia) hI'
    | false =>
      simp only [Bool.false_eq_true, if_false] at q ⊢
      exact compEnd_mono q fun y nw hI' => comp_invT Inv turn fin k (i + 1) _ _ (by lia) hI'
end
end Mine
namespace Mine
open PySem PySem.W PyProof.Rows PySem.Calls
open LCg
noncomputable def rk (k : Int) : Int := if k < 52 then k + 12 else if k < 62 then k - 50 else k - 62
noncomputable def figs (x : Int) : List Int := [x / 262144 % 64, x / 4096 % 64, x / 64 % 64, x / 1 % 64]
theorem intsAre_snoc {ys : List Value} {ns : List Int} {n : Int} {t : Tok} (h : IntsAre ys ns) : IntsAre (ys ++ [.int n t]) (ns ++ [n]) := by
  induction h with
  | nil => exact .cons n t .nil
  | cons i u _ ih => exact .cons i u ih
theorem off1_ne {D : Addr} : ∀ {l : List (Addr × Obj)}, Off1 D l → ∀ p ∈ l, p.1 ≠ D
  | [], _, _, h => nomatch h
  | _ :: _, x, p, h => by
    rcases List.mem_cons.mp h with rfl | h
    · exact x.1
    · exact off1_ne x.2 p h
theorem rank_call {w : World} {A : Around} {s : Shared} {h₀ : Heap} {L : Addr} {m : Str → Option Value} {news : List (Addr × Obj)} {R : Result → Shared → Prop} {x : Int} {t : Tok}
    (C : Env0 w A h₀ L) (F : Fr h₀ L s.heap m) (N : News h₀ L s.heap news) (hroom : A.depth + 3 < recursionLimit) (h0 : 0 ≤ x) (h1 : x < 16777216)
    (h : ∀ h' r vs' n' tk, IntsAre vs' ((figs x).map rk) → (∀ p ∈ news, p.1 ≠ r) → Fr h₀ L h' m → News h₀ L h' ((r, listOf vs'.toArray n') :: news) → R (.ok (.ret (.ref r))) { s with heap := h', toks := tk }) :
    codeAny (model PySem.Challenge.rw_pa0042_01.row.prog w) A (.call (.ref 149) ⟨[.int x t], []⟩) R s := by
  have X₀ := C.X; revert X₀; k_fill; intro X₀
  obtain ⟨hdl, dep, frs, gds, unt⟩ := A
  have hH : hdl = none := C.H
  subst hH
  replace hroom : dep + 3 < recursionLimit := hroom
  refine' enterC (binds := [(Str.ofString "x", .int x t)]) C F N ?k6 ?k7 ?kr ?k9 ?kB ?kD ?_ ?c2 ?c3 ?c4
  (case k6 => k_is)
  (case k7 => k_is)
  (case kr => (show dep < recursionLimit; lia))
  (case k9 => first | exact BindsTo.of_eq rfl | exact binds_K (by k_in) rfl (by k_is) rfl rfl rfl)
  (case kB => exact rfl)
  (case kD => decide +kernel)
  (case c2 => exact rfl)
  (case c3 => exact rfl)
  (case c4 => exact rfl)
  k_whole
  clear F N C X₀
  intro g L' h₁ tk' cells' C' F' N' Y' l1
  k_cells Y'
  (try simp only [List.cons_append, List.nil_append] at N')
  have X' := C'.X
  obtain ⟨_, _, _, mg, mb, T'⟩ := C'.T
  try dsimp only
  walk1
  refine LCg.Assign_ListComp_U (F₀ := by k_asm) (by rfl) (by with_unfolding_all rfl) (by with_unfolding_all rfl) (by decide) (by rfl) (by decide) (by rfl) (by rfl) (by rfl) ?_
  iterate 11 (first | ((with_reducible show wpAny _ _ (binaryOp Operator.FloorDiv (Value.int _ _) (Value.int _ _)) _ _ _); with_reducible (refine div_pos (by decide) (by decide) ?_)) | ((with_reducible show wpAny _ _ (binaryOp Operator.Mod (Value.int _ _) (Value.int _ _)) _ _ _); with_reducible (refine mod_pos (by decide) ?_)) | walk1 | (dsimp only; walk1))
  rename (Fr _ _ _ _) => F1
  rename (News _ _ _ _) => N1
  refine CompSrc.ledger rfl F1 N1 (List.mem_cons_self ..) (by rw [sizeLine_eq]; exact Nat.le_of_ble_eq_true rfl) fun g2 => ?_
  refine comp_inv (n := 4) (fun i ys nw => nw = _ ∧ IntsAre ys ((figs x).take i)) ?turn ?fin 4 0 [] _ rfl ⟨rfl, .nil⟩
  case turn =>
    rintro i ys nw hi ⟨rfl, hI⟩ v I oI Cc oC D m₂ h3 tk3 hP hC hx F3 N3 off ne
    have hi4 : i = 0 ∨ i = 1 ∨ i = 2 ∨ i = 3 := by lia
    clear F1 N1
    rcases hi4 with rfl | rfl | rfl | rfl
    · obtain ⟨tv, rfl⟩ : ∃ tv, v = .int 3 tv := ⟨_, (Option.some.inj hP).symm⟩
      clear hP
      repeat' (first | ((first | ((with_reducible show wpAny _ _ (binaryOp Operator.FloorDiv (Value.int _ _) (Value.int _ _)) _ _ _); with_reducible (refine div_pos (by decide) (by decide) ?_)) | ((with_reducible show wpAny _ _ (binaryOp Operator.Mod (Value.int _ _) (Value.int _ _)) _ _ _); with_reducible (refine mod_pos (by decide) ?_))); try dsimp only) | (walk1; try dsimp only) | (dsimp only; walk1))
      have hI2 : ∀ t, IntsAre (ys ++ [.int (x / 262144 % 64) t]) ((figs x).take 0 ++ [x / 262144 % 64]) := fun t => intsAre_snoc hI
      exact ⟨_, _, _, rfl, F3, N3, off, .inr ⟨_, List.mem_cons_self .., rfl, _, rfl⟩, rfl, hI2 _⟩
    · obtain ⟨tv, rfl⟩ : ∃ tv, v = .int 2 tv := ⟨_, (Option.some.inj hP).symm⟩
      clear hP
      repeat' (first | ((first | ((with_reducible show wpAny _ _ (binaryOp Operator.FloorDiv (Value.int _ _) (Value.int _ _)) _ _ _); with_reducible (refine div_pos (by decide) (by decide) ?_)) | ((with_reducible show wpAny _ _ (binaryOp Operator.Mod (Value.int _ _) (Value.int _ _)) _ _ _); with_reducible (refine mod_pos (by decide) ?_))); try dsimp only) | (walk1; try dsimp only) | (dsimp only; walk1))
      have hI2 : ∀ t, IntsAre (ys ++ [.int (x / 4096 % 64) t]) ((figs x).take 1 ++ [x / 4096 % 64]) := fun t => intsAre_snoc hI
      exact ⟨_, _, _, rfl, F3, N3, off, .inr ⟨_, List.mem_cons_self .., rfl, _, rfl⟩, rfl, hI2 _⟩
    · obtain ⟨tv, rfl⟩ : ∃ tv, v = .int 1 tv := ⟨_, (Option.some.inj hP).symm⟩
      clear hP
      repeat' (first | ((first | ((with_reducible show wpAny _ _ (binaryOp Operator.FloorDiv (Value.int _ _) (Value.int _ _)) _ _ _); with_reducible (refine div_pos (by decide) (by decide) ?_)) | ((with_reducible show wpAny _ _ (binaryOp Operator.Mod (Value.int _ _) (Value.int _ _)) _ _ _); with_reducible (refine mod_pos (by decide) ?_))); try dsimp only) | (walk1; try dsimp only) | (dsimp only; walk1))
      have hI2 : ∀ t, IntsAre (ys ++ [.int (x / 64 % 64) t]) ((figs x).take 2 ++ [x / 64 % 64]) := fun t => intsAre_snoc hI
      exact ⟨_, _, _, rfl, F3, N3, off, .inr ⟨_, List.mem_cons_self .., rfl, _, rfl⟩, rfl, hI2 _⟩
    · obtain ⟨tv, rfl⟩ : ∃ tv, v = .int 0 tv := ⟨_, (Option.some.inj hP).symm⟩
      clear hP
      repeat' (first | ((first | ((with_reducible show wpAny _ _ (binaryOp Operator.FloorDiv (Value.int _ _) (Value.int _ _)) _ _ _); with_reducible (refine div_pos (by decide) (by decide) ?_)) | ((with_reducible show wpAny _ _ (binaryOp Operator.Mod (Value.int _ _) (Value.int _ _)) _ _ _); with_reducible (refine mod_pos (by decide) ?_))); try dsimp only) | (walk1; try dsimp only) | (dsimp only; walk1))
      have hI2 : ∀ t, IntsAre (ys ++ [.int (x / 1 % 64) t]) ((figs x).take 3 ++ [x / 1 % 64]) := fun t => intsAre_snoc hI
      exact ⟨_, _, _, rfl, F3, N3, off, .inr ⟨_, List.mem_cons_self .., rfl, _, rfl⟩, rfl, hI2 _⟩
  case fin =>
    rintro ys nw ⟨rfl, hI⟩ D1 h4 tk4 F4 N4 off4
    clear F1 N1
    repeat' ((fail_if_success (with_reducible show wpAny _ _ (eval (Expr.ListComp _ _ _ _) _) _ _ _)); first | ((first | ((with_reducible show wpAny _ _ (binaryOp Operator.FloorDiv (Value.int _ _) (Value.int _ _)) _ _ _); with_reducible (refine div_pos (by decide) (by decide) ?_)) | ((with_reducible show wpAny _ _ (binaryOp Operator.Mod (Value.int _ _) (Value.int _ _)) _ _ _); with_reducible (refine mod_pos (by decide) ?_))); try dsimp only) | (walk1; try dsimp only) | (dsimp only; walk1))
    refine LCg.ListComp_U (F₀ := by k_asm) (by with_unfolding_all rfl) (by decide) (by rfl) (by decide) (by rfl) ?_
    repeat' ((fail_if_success (with_reducible show wpAny _ _ (eval (Expr.ListComp _ _ _ _) _) _ _ _)); first | ((first | ((with_reducible show wpAny _ _ (binaryOp Operator.FloorDiv (Value.int _ _) (Value.int _ _)) _ _ _); with_reducible (refine div_pos (by decide) (by decide) ?_)) | ((with_reducible show wpAny _ _ (binaryOp Operator.Mod (Value.int _ _) (Value.int _ _)) _ _ _); with_reducible (refine mod_pos (by decide) ?_))); try dsimp only) | (walk1; try dsimp only) | (dsimp only; walk1))
    refine CompSrc.ledger rfl F4 N4 (List.mem_cons_self ..) (by rw [sizeLine_eq, List.size_toArray, hI.length]; exact Nat.le_of_ble_eq_true rfl) fun g2 => ?_
    refine comp_inv (n := ys.toArray.size) (fun i zs nw => nw = _ ∧ IntsAre zs (((figs x).map rk).take i)) ?turn2 ?fin2 ys.toArray.size 0 [] _ (by lia) ⟨rfl, .nil⟩
    case turn2 =>
      rintro i zs nw hi ⟨rfl, hZ⟩ v I oI Cc oC D m₂ h5 tk5 hP hC hx F5 N5 off ne
      have hlen : ys.length = 4 := hI.length
      have hi4 : i < (figs x).length := by rw [List.size_toArray] at hi; show i < 4; lia
      have hfi : (figs x)[i]? = some (figs x)[i] := List.getElem?_eq_getElem hi4
      obtain ⟨tv, hv⟩ := hI.get i (figs x)[i] hfi
      obtain rfl : v = .int (figs x)[i] tv := Option.some.inj ((by simpa using hP : ys[i]? = some v).symm.trans hv)
      have hk : ((figs x).map rk).take (i + 1) = ((figs x).map rk).take i ++ [rk (figs x)[i]] := by
        rw [List.take_add_one, List.getElem?_map, hfi]; rfl
      generalize (figs x)[i] = k at hx hk
      clear hP hv hfi
      repeat' (first | ((first | ((with_reducible show wpAny _ _ (binaryOp Operator.FloorDiv (Value.int _ _) (Value.int _ _)) _ _ _); with_reducible (refine div_pos (by decide) (by decide) ?_)) | ((with_reducible show wpAny _ _ (binaryOp Operator.Mod (Value.int _ _) (Value.int _ _)) _ _ _); with_reducible (refine mod_pos (by decide) ?_))); try dsimp only) | (walk1; try dsimp only) | (dsimp only; walk1))
      all_goals (refine ⟨_, _, _, rfl, F5, N5, off, .inr ⟨_, List.mem_cons_self .., rfl, _, rfl⟩, rfl, ?_⟩; rw [hk])
      · rw [show rk k = k + 12 from if_pos (by assumption)]; exact intsAre_snoc hZ
      · rw [show rk k = k - 50 from (if_neg (by assumption)).trans (if_pos (by assumption))]; exact intsAre_snoc hZ
      · rw [show rk k = k - 62 from (if_neg (by assumption)).trans (if_neg (by assumption))]; exact intsAre_snoc hZ
    case fin2 =>
      rintro zs nw ⟨rfl, hZ⟩ D h5 tk5 F5 N5 off5
      have hZ2 : IntsAre zs ((figs x).map rk) := by
        rw [List.size_toArray, hI.length] at hZ
        exact hZ
      have hne := off1_ne off5
      refine leaveK_ (news' := (D, listOf zs.toArray zs.length) :: news) F5 (fun p hp => ?_) fun F6 N6 => h _ _ zs _ _ hZ2 (fun p hp => hne p (List.mem_cons_of_mem _ (List.mem_cons_of_mem _ (List.mem_cons_of_mem _ hp)))) F6 N6
      rcases List.mem_cons.mp hp with q | q
      · exact q ▸ N5 _ (List.mem_cons_self ..)
      · exact N5 p (List.mem_cons_of_mem _ (List.mem_cons_of_mem _ (List.mem_cons_of_mem _ (List.mem_cons_of_mem _ q))))
end Mine
namespace Mine
open PySem PySem.W PyProof.Rows PySem.Calls
section
variable {prog : Program} {w : World} {A : Around} {E : Value → Shared → Prop} {s : Shared} {h₀ : Heap} {L a b : Addr} {m : Str → Option Value} {news news' : List (Addr × Obj)} {vs : List Value} {n k : Nat}
theorem ne_nil {Q : Value → Shared → Prop} (ha : s.heap.get? a = some (listOf vs.toArray n)) (hb : s.heap.get? b = some (listOf #[] k)) (hu : A.units < cLine) (h : Q (.bool (decide (0 < vs.length))) s) :
    wpAny (model prog w) A (compareOp .NotEq (.ref a) (.ref b)) Q E s := by
  refine cmp_ofNotEq ?_
  by_cases hv : vs.length = 0
  · have e : vs = [] := List.eq_nil_of_length_eq_zero hv
    subst e
    exact richCompare_meets_room (op := .NotEq) ⟨_, ha, rfl⟩ ⟨_, hb, rfl⟩ F.slot_list_ne F.entry_list_ne (F.args_list_ne_2 _ _) (PySem.SeqAt.list_neAt a b _ _ n k none none #[] #[] rfl (fun _ => true))
      ⟨ha, hb, (fun j h1 _ => absurd h1 (Nat.not_lt_zero _)), ⟨(fun x => nomatch x), h⟩⟩ hu
  · have hs : (vs.toArray.size != (#[] : Array Value).size) = true := by simpa using hv
    refine richCompare_meets_room (op := .NotEq) ⟨_, ha, rfl⟩ ⟨_, hb, rfl⟩ F.slot_list_ne F.entry_list_ne (F.args_list_ne_2 _ _) (PySem.SeqAt.list_ne_lengthsAt a b _ _ n k none none #[] #[] hs)
      ⟨ha, hb, ⟨(fun x => nomatch x), ?_⟩⟩ hu
    rw [decide_eq_true (by lia : 0 < vs.length)] at h
    exact h
end
/-- a figure's sign -/
noncomputable def sg (v : Int) : Int := if v < 26 then v + 65 else if v < 52 then v + 71 else if v < 62 then v - 4 else if v = 62 then 43 else 47
theorem Sg.eq {v c : Int} (h : Sg v c) : c = sg v := by
  unfold Sg at h
  unfold sg
  rcases h with ⟨_, h, rfl⟩ | ⟨h0, h, rfl⟩ | ⟨h0, h, rfl⟩ | ⟨rfl, rfl⟩ | ⟨rfl, rfl⟩
  · rw [if_pos h]
  · rw [if_neg (Int.not_lt.mpr h0), if_pos h]
  · rw [if_neg (Int.not_lt.mpr (Int.le_trans (by decide) h0)), if_neg (Int.not_lt.mpr h0), if_pos h]
  · rfl
  · rfl
/-- the writing of a number, as a bytes -/
noncomputable def EncV (x : Int) (v : Value) : Prop := ∃ c1 c2 c3 c4 t, v = .bytes ([c1, c2, c3, c4].map fun n : Int => n.toNat.toUInt8).toArray t ∧ Sg (x / 262144) c1 ∧ Sg (x / 4096 % 64) c2 ∧ Sg (x / 64 % 64) c3 ∧ Sg (x % 64) c4
noncomputable def code (x : Int) : Nat := (((sg (x / 262144) * 256 + sg (x / 4096 % 64)) * 256 + sg (x / 64 % 64)) * 256 + sg (x % 64)).toNat
theorem toNat8 {c : Int} (h0 : 0 ≤ c) (h1 : c < 256) : c.toNat.toUInt8.toNat = c.toNat := by
  show c.toNat % 256 = c.toNat
  exact Nat.mod_eq_of_lt (by lia)
theorem toNatOct {k : Int} : (((k % 256).toNat.toUInt8.toNat : Nat) : Int) = k % 256 := by
  rw [toNat8 (Int.emod_nonneg _ (by decide)) (Int.emod_lt_of_pos _ (by decide)), Int.toNat_of_nonneg (Int.emod_nonneg _ (by decide))]
theorem toNatSg {v c : Int} (s : Sg v c) : ((c.toNat.toUInt8.toNat : Nat) : Int) = c := by
  have r := s.range
  rw [toNat8 (Int.le_trans (by decide) r.1) (Int.lt_trans r.2 (by decide)), Int.toNat_of_nonneg (Int.le_trans (by decide) r.1)]
theorem EncV.by_ {x : Int} {v : Value} (h : EncV x v) : By v := by
  obtain ⟨c1, c2, c3, c4, t, rfl, _⟩ := h
  exact ⟨_, t, rfl, rfl⟩
theorem num4 {a b c d : UInt8} {p q r s : Int} (ha : (a.toNat : Int) = p) (hb : (b.toNat : Int) = q) (hc : (c.toNat : Int) = r) (hd : (d.toNat : Int) = s) :
    num [a, b, c, d] = (((p * 256 + q) * 256 + r) * 256 + s).toNat := by
  subst ha hb hc hd
  simp only [num, List.length_cons, List.length_nil]
  lia
theorem EncV.vn {x : Int} {v : Value} (h : EncV x v) : vn v = code x := by
  obtain ⟨c1, c2, c3, c4, t, rfl, s1, s2, s3, s4⟩ := h
  unfold code
  rw [← s1.eq, ← s2.eq, ← s3.eq, ← s4.eq]
  exact num4 (toNatSg s1) (toNatSg s2) (toNatSg s3) (toNatSg s4)
theorem encV_of {x : Int} {c1 c2 c3 c4 : Int} {t : Tok} (h0 : 0 ≤ x) (h1 : x < 16777216)
    (s1 : Sg (((x / 65536 % 256).toNat.toUInt8.toNat : Int) / 4) c1) (s2 : Sg (((x / 65536 % 256).toNat.toUInt8.toNat : Int) % 4 * 16 + ((x / 256 % 256).toNat.toUInt8.toNat : Int) / 16) c2)
    (s3 : Sg (((x / 256 % 256).toNat.toUInt8.toNat : Int) % 16 * 4 + ((x % 256).toNat.toUInt8.toNat : Int) / 64) c3) (s4 : Sg (((x % 256).toNat.toUInt8.toNat : Int) % 64) c4) :
    EncV x (.bytes ([c1, c2, c3, c4].map fun n : Int => n.toNat.toUInt8).toArray t) := by
  simp only [toNatOct] at s1 s2 s3 s4
  refine ⟨c1, c2, c3, c4, t, rfl, ?_, ?_, ?_, ?_⟩
  · rw [show x / 262144 = x / 65536 % 256 / 4 by lia]; exact s1
  · rw [show x / 4096 % 64 = x / 65536 % 256 % 4 * 16 + x / 256 % 256 / 16 by clear h0 h1 s1 s2 s3 s4; lia]; exact s2
  · rw [show x / 64 % 64 = x / 256 % 256 % 16 * 4 + x % 256 / 64 by clear h0 h1 s1 s2 s3 s4; lia]; exact s3
  · rw [show x % 64 = x % 256 % 64 by clear h0 h1 s1 s2 s3 s4; lia]; exact s4
end Mine
namespace Mine
open PySem PySem.W PyProof.Rows PySem.Calls
open LCg
theorem allLt_mem {d : Addr} : ∀ {l : List (Addr × Obj)}, AllLt d l → ∀ p ∈ l, p.1 < d
  | [], _, _, hp => nomatch hp
  | _ :: _, h, p, hp => by
    rcases List.mem_cons.mp hp with rfl | q
    · exact h.1
    · exact allLt_mem h.2 p q
theorem off_call {w : World} {A : Around} {s : Shared} {h₀ : Heap} {L : Addr} {m : Str → Option Value} {news : List (Addr × Obj)} {R : Result → Shared → Prop} {a : Addr} {vs : List Value} {ns : List Int} {n : Nat}
    (C : Env0 w A h₀ L) (F : Fr h₀ L s.heap m) (N : News h₀ L s.heap news) (hroom : A.depth + 6 < recursionLimit) (ha : (a, listOf vs.toArray n) ∈ news) (hi : IntsAre vs ns) (hr : ∀ x ∈ ns, 0 ≤ x ∧ x < 16777216) (hz : ns.length ≤ 100) (hun : A.units + 20 < cLine)
    (h : ∀ h' r (us : List Value) k tk, (us.map vn).Perm (ns.map code) → us.Pairwise (fun a b => vn a ≤ vn b) → (∀ u ∈ us, ∃ x ∈ ns, EncV x u) → (∀ p ∈ news, p.1 ≠ r) → Fr h₀ L h' m → News h₀ L h' ((r, listOf us.toArray k) :: news) → R (.ok (.ret (.ref r))) { s with heap := h', toks := tk }) :
    codeAny (model PySem.Challenge.rw_pa0042_01.row.prog w) A (.call (.ref 161) ⟨[.ref a], []⟩) R s := by
  have X₀ := C.X; revert X₀; k_fill; intro X₀
  obtain ⟨hdl, dep, frs, gds, unt⟩ := A
  have hH : hdl = none := C.H
  subst hH
  replace hroom : dep + 6 < recursionLimit := hroom
  refine' enter (binds := [(Str.ofString "shelf", .ref a)]) C F N ?k6 ?k7 ?kr ?k9 ?kB ?_ ?c2 ?c3 ?c4 ?c5
  (case k6 => k_is)
  (case k7 => k_is)
  (case kr => (show dep < recursionLimit; lia))
  (case k9 => first | exact BindsTo.of_eq rfl | exact binds_K (by k_in) rfl (by k_is) rfl rfl rfl)
  (case c5 => decide)
  (case kB => exact locs rfl)
  (case c2 => exact rfl)
  (case c3 => exact rfl)
  (case c4 => exact rfl)
  k_whole
  clear F N C X₀
  intro g L' h₁ C' F' N' l1
  have X' := C'.X
  obtain ⟨_, _, _, mg, mb, T'⟩ := C'.T
  try dsimp only
  walk1
  refine LCg.Assign_ListComp_U (F₀ := by k_asm) (by rfl) (by with_unfolding_all rfl) (by with_unfolding_all rfl) (by decide) (by rfl) (by decide) (by rfl) (by rfl) (by rfl) ?_
  walk1
  refine CompSrc.ledger rfl F' N' ha (by rw [sizeLine_eq, List.size_toArray, hi.length]; lia) fun g2 => ?_
  refine comp_inv (n := vs.toArray.size) (fun i ys nw => nw = news ∧ ys.map vn = (ns.take i).map code ∧ ∀ y ∈ ys, ∃ x ∈ ns, EncV x y) ?turn ?fin vs.toArray.size 0 [] _ (by lia) ⟨rfl, rfl, fun _ h => nomatch h⟩
  case turn =>
    rintro i ys nw hi2 ⟨rfl, hY, hE⟩ v I oI Cc oC D m₂ h3 tk3 hP hC hx F3 N3 off ne
    have hlt : i < ns.length := by rw [List.size_toArray, hi.length] at hi2; exact hi2
    obtain ⟨tv, hv⟩ := hi.get i ns[i] (List.getElem?_eq_getElem hlt)
    obtain rfl : v = .int ns[i] tv := Option.some.inj ((by simpa using hP : vs[i]? = some v).symm.trans hv)
    have hmem : ns[i] ∈ ns := List.getElem_mem hlt
    have hrx := hr _ hmem
    have htk : (ns.take (i + 1)).map code = (ns.take i).map code ++ [code ns[i]] := by
      rw [take_snoc hlt, List.map_append]; rfl
    generalize ns[i] = x at hx hmem hrx htk
    clear F' N' hP hv
    repeat' (first | ((first | ((with_reducible show wpAny _ _ (call (Value.ref _) _ _) _ _ _); first | (refine wpAny_call (octets_call (by assumption) (by k_asm) (by k_asm) (by simp only [depth_deeper]; lia) ?_); intro _ _ _ _ _; (try dsimp only [List.map]); (try k_sweep)) | (refine wpAny_call (encode_call (by assumption) (by k_asm) (by k_asm) (by simp only [depth_deeper]; lia) ?_); intro _ _ _ _ _ _ _ _ _ _ _ _ _; (try dsimp only); (try k_sweep)))); try dsimp only) | (walk1; try dsimp only) | (dsimp only; walk1))
    rename Sg (_ / 4) _ => s1
    rename Sg (_ * 16 + _) _ => s2
    rename Sg (_ * 4 + _) _ => s3
    rename Sg (_ % 64) _ => s4
    rename (Fr _ _ _ _) => F4
    rename (News _ _ _ _) => N4
    have hE3 := fun t => encV_of (t := t) hrx.1 hrx.2 s1 s2 s3 s4
    refine ⟨_, _, _, rfl, F4, N4, off, .inr ⟨_, ha, rfl, _, rfl⟩, rfl, ?_, ?_⟩
    · rw [htk, List.map_append, hY, List.map_singleton, (hE3 _).vn]
    · intro y hy
      rcases List.mem_append.mp hy with q | q
      · exact hE y q
      · exact ⟨x, hmem, List.mem_singleton.mp q ▸ hE3 _⟩
  case fin =>
    rintro ys nw ⟨rfl, hY, hE⟩ D h3 tk3 F3 N3 off3
    clear F' N'
    have hyl : ys.length = ns.length := by
      have e := congrArg List.length hY
      rw [List.size_toArray, hi.length, List.take_length, List.length_map, List.length_map] at e
      exact e
    have hY2 : ys.map vn = ns.map code := by
      rw [List.size_toArray, hi.length, List.take_length] at hY
      exact hY
    have hDn := off1_ne off3
    have hAB : AllBy ys := fun y hy => let ⟨_, _, q⟩ := hE y hy; q.by_
    repeat' ((fail_if_success (with_reducible show wpAny _ _ (call (.ref 123) _) _ _ _)); first | ((first | ((with_reducible show wpAny _ _ (call (Value.ref _) _ _) _ _ _); first | (refine wpAny_call (octets_call (by assumption) (by k_asm) (by k_asm) (by simp only [depth_deeper]; lia) ?_); intro _ _ _ _ _; (try dsimp only [List.map]); (try k_sweep)) | (refine wpAny_call (encode_call (by assumption) (by k_asm) (by k_asm) (by simp only [depth_deeper]; lia) ?_); intro _ _ _ _ _ _ _ _ _ _ _ _ _; (try dsimp only); (try k_sweep)))); try dsimp only) | (walk1; try dsimp only) | (dsimp only; walk1))
    refine wpAny_call (heapify_call C' F3 N3 (by show dep + 1 + 2 < _; lia) hDn (by lia) hAB fun h4 vs' tk4 hp hh F4 N4 => ?_)
    clear F3 N3
    repeat' ((fail_if_success (with_reducible show wpAny _ _ (exec (Stmt.While ..) _) _ _ _)); first | ((first | ((with_reducible show wpAny _ _ (call (Value.ref _) _ _) _ _ _); first | (refine wpAny_call (octets_call (by assumption) (by k_asm) (by k_asm) (by simp only [depth_deeper]; lia) ?_); intro _ _ _ _ _; (try dsimp only [List.map]); (try k_sweep)) | (refine wpAny_call (encode_call (by assumption) (by k_asm) (by k_asm) (by simp only [depth_deeper]; lia) ?_); intro _ _ _ _ _ _ _ _ _ _ _ _ _; (try dsimp only); (try k_sweep)))); try dsimp only) | (walk1; try dsimp only) | (dsimp only; walk1))
    rename (Fr _ _ _ _) => F5
    rename (News _ _ _ _) => N5
    rename (D < _ ∧ AllLt _ _) => hTD
    rename_i T _ _
    with_unfolding_all refine ksw_while (σ := List Value × Nat × List Value × Nat) (fun c => (T, listOf c.2.2.1.toArray c.2.2.2) :: (D, listOf c.1.toArray c.2.1) :: nw) (fun _ => []) (fun _ => True) [] (fun c => (c.2.2.1 ++ c.1).Perm ys ∧ HeapFrom 0 c.1 ∧ c.2.2.1.Pairwise (fun a b => vn a ≤ vn b) ∧ ∀ t ∈ c.2.2.1, ∀ x ∈ c.1, vn t ≤ vn x) (fun c => c.1.length) (vs', ys.length, [], 0) F5 N5 trivial (List.forall_mem_nil _) ⟨hp, hh, List.Pairwise.nil, fun _ q => nomatch q⟩ ?turn PassesOwn.never
    case turn =>
      clear F5 N5
      rintro ⟨hs, n1, ts, n2⟩ u h6 tk6 _ ⟨pP, pH, pS, pL⟩ F6 N6
      dsimp only [kstB] at pP pH pS pL F6 N6
      repeat' ((fail_if_success (with_reducible show wpAny _ _ (compareOp CmpOp.NotEq _ _) _ _ _)); first | ((first | ((with_reducible show wpAny _ _ (call (Value.ref _) _ _) _ _ _); first | (refine wpAny_call (octets_call (by assumption) (by k_asm) (by k_asm) (by simp only [depth_deeper]; lia) ?_); intro _ _ _ _ _; (try dsimp only [List.map]); (try k_sweep)) | (refine wpAny_call (encode_call (by assumption) (by k_asm) (by k_asm) (by simp only [depth_deeper]; lia) ?_); intro _ _ _ _ _ _ _ _ _ _ _ _ _; (try dsimp only); (try k_sweep)))); try dsimp only) | (walk1; try dsimp only) | (dsimp only; walk1))
      rename (News _ _ _ _) => N7
      refine ne_nil (N7 _ (.tail _ (.tail _ (.head _)))).1 (N7 _ (.head _)).1 (by have q : unt + 20 < cLine := hun; show unt + 3 < cLine; lia) ?_
      rename (Fr _ _ _ _) => F7
      by_cases hz1 : 0 < hs.length
      · rw [decide_eq_true hz1]
        repeat' ((fail_if_success (with_reducible show wpAny _ _ (call (.ref 116) _) _ _ _)); first | ((first | ((with_reducible show wpAny _ _ (call (Value.ref _) _ _) _ _ _); first | (refine wpAny_call (octets_call (by assumption) (by k_asm) (by k_asm) (by simp only [depth_deeper]; lia) ?_); intro _ _ _ _ _; (try dsimp only [List.map]); (try k_sweep)) | (refine wpAny_call (encode_call (by assumption) (by k_asm) (by k_asm) (by simp only [depth_deeper]; lia) ?_); intro _ _ _ _ _ _ _ _ _ _ _ _ _; (try dsimp only); (try k_sweep)))); try dsimp only) | (walk1; try dsimp only) | (dsimp only; walk1))
        have hB1 : AllBy hs := fun y hy => hAB y (pP.mem_iff.mp (List.mem_append.mpr (.inr hy)))
        have hl1 : hs.length ≤ ys.length := by rw [← pP.length_eq, List.length_append]; lia
        refine wpAny_call (heappop_call (n := n1) (rest := (T, listOf ts.toArray n2) :: nw) C' F7 (fun p hp => ?_) (by show dep + 1 + 2 < _; lia) ?_ (by lia) hz1 hB1 pH fun h8 v hs' tk8 qp qH qm F8 N8 => ?_)
        · rcases List.mem_cons.mp hp with q | q
          · exact N7 _ (.tail _ (.tail _ (q ▸ .head _)))
          · rcases List.mem_cons.mp q with q | q
            · exact N7 _ (.tail _ (q ▸ .head _))
            · exact N7 _ (.tail _ (.tail _ (.tail _ q)))
        · intro p hp
          rcases List.mem_cons.mp hp with rfl | q
          · exact Ne.symm (Nat.ne_of_lt hTD.1)
          · exact hDn p q
        clear F7 N7
        repeat' ((fail_if_success (with_reducible show wpAny _ _ (call (.builtin "list.append") _) _ _ _)); first | ((first | ((with_reducible show wpAny _ _ (call (Value.ref _) _ _) _ _ _); first | (refine wpAny_call (octets_call (by assumption) (by k_asm) (by k_asm) (by simp only [depth_deeper]; lia) ?_); intro _ _ _ _ _; (try dsimp only [List.map]); (try k_sweep)) | (refine wpAny_call (encode_call (by assumption) (by k_asm) (by k_asm) (by simp only [depth_deeper]; lia) ?_); intro _ _ _ _ _ _ _ _ _ _ _ _ _; (try dsimp only); (try k_sweep)))); try dsimp only) | (walk1; try dsimp only) | (dsimp only; walk1))
        have hU : Upd T (listOf ts.toArray n2) (listOf (ts.toArray.push v) (n2 + 1)) ((D, listOf hs'.toArray (n1 + 1)) :: (T, listOf ts.toArray n2) :: nw) ((D, listOf hs'.toArray (n1 + 1)) :: (T, listOf (ts.toArray.push v) (n2 + 1)) :: nw) := by
          refine .tail (Nat.ne_of_lt hTD.1) (.head ?_)
          exact fun p hp => Nat.ne_of_lt (allLt_mem hTD.2 p hp)
        refine append_K F8 N8 hU (fun h9 F9 N9 => ?_) (by rw [sizeLine_eq, List.size_toArray]; have := pP.length_eq; rw [List.length_append] at this; lia)
        clear F8 N8
        repeat' (first | ((first | ((with_reducible show wpAny _ _ (call (Value.ref _) _ _) _ _ _); first | (refine wpAny_call (octets_call (by assumption) (by k_asm) (by k_asm) (by simp only [depth_deeper]; lia) ?_); intro _ _ _ _ _; (try dsimp only [List.map]); (try k_sweep)) | (refine wpAny_call (encode_call (by assumption) (by k_asm) (by k_asm) (by simp only [depth_deeper]; lia) ?_); intro _ _ _ _ _ _ _ _ _ _ _ _ _; (try dsimp only); (try k_sweep)))); try dsimp only) | (walk1; try dsimp only) | (dsimp only; walk1))
        rw [show ts.toArray.push v = (ts ++ [v]).toArray by simp] at N9
        have hlen : hs'.length + 1 = hs.length := qp.length_eq
        refine ksw_end (hs', n1 + 1, ts ++ [v], n2 + 1) F9 (fun p hp => ?_) (fun _ hp => hp) trivial (List.forall_mem_nil _) (by ksw_same) ⟨?_, qH, ?_, ?_⟩ ?_
        · rcases List.mem_cons.mp hp with q | q
          · exact N9 _ (.tail _ (q ▸ .head _))
          · rcases List.mem_cons.mp q with q | q
            · exact N9 _ (q ▸ .head _)
            · exact N9 _ (.tail _ (.tail _ q))
        · dsimp only
          rw [List.append_assoc]
          exact (List.Perm.append_left ts qp).trans pP
        · dsimp only
          refine List.pairwise_append.mpr ⟨pS, List.pairwise_singleton _ _, fun a ha b hb => ?_⟩
          rw [List.mem_singleton.mp hb]
          exact pL a ha v (qp.mem_iff.mp (.head _))
        · dsimp only
          intro t ht x hx
          rcases List.mem_append.mp ht with q | q
          · exact pL t q x (qp.mem_iff.mp (.tail _ hx))
          · rw [List.mem_singleton.mp q]
            exact qm x (qp.mem_iff.mp (.tail _ hx))
        · dsimp only
          lia
      · rw [decide_eq_false hz1]
        have e0 : hs = [] := List.eq_nil_of_length_eq_zero (by lia)
        subst e0
        repeat' (first | ((first | ((with_reducible show wpAny _ _ (call (Value.ref _) _ _) _ _ _); first | (refine wpAny_call (octets_call (by assumption) (by k_asm) (by k_asm) (by simp only [depth_deeper]; lia) ?_); intro _ _ _ _ _; (try dsimp only [List.map]); (try k_sweep)) | (refine wpAny_call (encode_call (by assumption) (by k_asm) (by k_asm) (by simp only [depth_deeper]; lia) ?_); intro _ _ _ _ _ _ _ _ _ _ _ _ _; (try dsimp only); (try k_sweep)))); try dsimp only) | (walk1; try dsimp only) | (dsimp only; walk1))
        rw [List.append_nil] at pP
        refine leaveK_ (news' := (T, listOf ts.toArray n2) :: nw) F7 (fun p hp => ?_) fun F8 N8 => h _ _ ts _ _ (hY2 ▸ pP.map vn) pS (fun u hu => hE u (pP.mem_iff.mp hu)) (fun p hp => Nat.ne_of_lt (allLt_mem hTD.2 p hp)) F8 N8
        rcases List.mem_cons.mp hp with q | q
        · exact N7 _ (.tail _ (q ▸ .head _))
        · exact N7 _ (.tail _ (.tail _ (.tail _ q)))
end Mine
namespace Mine
open PySem PySem.W PyProof.Rows PySem.Calls
/-- an order of the numbers below n -/
structure Ord (n : Nat) (p : Array Nat) : Prop where
  size : p.size = n
  perm : p.toList.Perm (List.range n)
theorem getD_eq {p : Array Nat} {i : Nat} : p.getD i 0 = (p[i]?).getD 0 := by simp
theorem Ord.lt {n : Nat} {p : Array Nat} (h : Ord n p) (h0 : 0 < n) (i : Nat) : p.getD i 0 < n := by
  rw [getD_eq]
  by_cases hi : i < p.size
  · rw [Array.getElem?_eq_getElem hi]
    have : p[i] ∈ p.toList := by simp
    exact List.mem_range.mp (h.perm.mem_iff.mp this)
  · rw [Array.getElem?_eq_none (by lia)]
    exact h0
theorem Ord.inj {n : Nat} {p : Array Nat} (h : Ord n p) {i j : Nat} (hi : i < n) (hj : j < n) (e : p.getD i 0 = p.getD j 0) : i = j := by
  have nd : p.toList.Nodup := h.perm.nodup_iff.mpr List.nodup_range
  have hi' : i < p.toList.length := by rw [Array.length_toList, h.size]; exact hi
  have hj' : j < p.toList.length := by rw [Array.length_toList, h.size]; exact hj
  rw [getD_eq, getD_eq, Array.getElem?_eq_getElem (by rw [h.size]; exact hi), Array.getElem?_eq_getElem (by rw [h.size]; exact hj)] at e
  exact (List.getElem_inj (h₀ := hi') (h₁ := hj') nd).mp (by simpa using e)
theorem Ord.range (n : Nat) : Ord n (List.toArray (List.range n)) := ⟨by simp, by simp⟩
theorem Ord.rev {n : Nat} {p : Array Nat} (h : Ord n p) (i j : Nat) : Ord n (kas_rev p i j) := ⟨(mirror_size ..).trans h.size, (Array.perm_iff_toList_perm.mp (mirror_perm ..)).trans h.perm⟩
theorem Ord.bubble {n : Nat} {p : Array Nat} (h : Ord n p) (i j : Nat) : Ord n (PyProof.Rows.bubble p i j) := ⟨(bubble_size ..).trans h.size, (Array.perm_iff_toList_perm.mp (bubble_perm ..)).trans h.perm⟩
section
variable {n : Nat} {key : Nat → Nat} {cmp : Nat → Nat → (Bool → Shared → Prop) → Shared → Prop} {I : Shared → Prop}
noncomputable def Inc (key : Nat → Nat) (p : Array Nat) (k : Nat) : Prop := ∀ i j, i < j → j < k → key (p.getD i 0) < key (p.getD j 0)
structure Cmp (n : Nat) (key : Nat → Nat) (cmp : Nat → Nat → (Bool → Shared → Prop) → Shared → Prop) (I : Shared → Prop) : Prop where
  pos : 0 < n
  inj : ∀ i j, i < n → j < n → key i = key j → i = j
  ask : ∀ i j C s, i < n → j < n → i ≠ j → I s → (∀ s', I s' → C (decide (key i < key j)) s') → cmp i j C s
theorem Cmp.at (hc : Cmp n key cmp I) {α : Type} {p : Array Nat} (hp : Ord n p) {i j : Nat} {k : Bool → KasT α} {Q : α → Shared → Prop} {s : Shared} (hi : i < n) (hj : j < n) (hij : i ≠ j) (hI : I s)
    (h1 : key (p.getD i 0) < key (p.getD j 0) → ∀ s', I s' → (k true).kasWp cmp Q s') (h2 : ¬ key (p.getD i 0) < key (p.getD j 0) → ∀ s', I s' → (k false).kasWp cmp Q s') :
    (KasT.ask (p.getD i 0) (p.getD j 0) k).kasWp cmp Q s := by
  refine hc.ask _ _ _ s (hp.lt hc.pos _) (hp.lt hc.pos _) (fun e => hij (hp.inj hi hj e)) hI fun s' hI' => ?_
  by_cases hlt : key (p.getD i 0) < key (p.getD j 0)
  · rw [decide_eq_true hlt]; exact h1 hlt s' hI'
  · rw [decide_eq_false hlt]; exact h2 hlt s' hI'
theorem Cmp.ne (hc : Cmp n key cmp I) {p : Array Nat} (hp : Ord n p) {i j : Nat} (hi : i < n) (hj : j < n) (h : i ≠ j) : key (p.getD i 0) ≠ key (p.getD j 0) :=
  fun e => h (hp.inj hi hj (hc.inj _ _ (hp.lt hc.pos _) (hp.lt hc.pos _) e))
theorem Inc.succ {p : Array Nat} {a : Nat} (hi : Inc key p a) (h : 0 < a → key (p.getD (a - 1) 0) < key (p.getD a 0)) : Inc key p (a + 1) := by
  intro i j hij hj
  by_cases hja : j < a
  · exact hi i j hij hja
  · obtain rfl : j = a := by lia
    have h' := h (by lia)
    by_cases hia : i = j - 1
    · rw [hia]; exact h'
    · exact Nat.lt_trans (hi i (j - 1) (by lia) (by lia)) h'
theorem asc_wp (hc : Cmp n key cmp I) {p : Array Nat} (hp : Ord n p) : ∀ (f a : Nat) (s : Shared) {Q : Nat → Shared → Prop}, 1 ≤ a → a + f = n → Inc key p a → I s →
    (∀ m s', a ≤ m → m ≤ n → Inc key p m → I s' → Q m s') → (kas_asc p f a).kasWp cmp Q s
  | 0, a, s, Q, h1, e, hi, hI, h => h a s (Nat.le_refl _) (by lia) hi hI
  | f + 1, a, s, Q, h1, e, hi, hI, h => by
    refine hc.at hp (by lia) (by lia) (by lia) hI (fun hlt s' hI' => ?_) fun hlt s' hI' => ?_
    · exact h a s' (Nat.le_refl _) (by lia) hi hI'
    · refine asc_wp hc hp f (a + 1) s' (by lia) (by lia) (hi.succ fun _ => ?_) hI' fun m s'' h3 h4 h5 h6 => h m s'' (by lia) h4 h5 h6
      have := hc.ne hp (i := a) (j := a - 1) (by lia) (by lia) (by lia)
      lia
noncomputable def Dec (key : Nat → Nat) (p : Array Nat) (k : Nat) : Prop := ∀ i j, i < j → j < k → key (p.getD j 0) < key (p.getD i 0)
theorem Dec.succ {p : Array Nat} {a : Nat} (hi : Dec key p a) (h : 0 < a → key (p.getD a 0) < key (p.getD (a - 1) 0)) : Dec key p (a + 1) := by
  intro i j hij hj
  by_cases hja : j < a
  · exact hi i j hij hja
  · obtain rfl : j = a := by lia
    have h' := h (by lia)
    by_cases hia : i = j - 1
    · rw [hia]; exact h'
    · exact Nat.lt_trans h' (hi i (j - 1) (by lia) (by lia))
theorem Dec.rev {p : Array Nat} {m : Nat} (hp : Ord n p) (hm : m ≤ n) (hd : Dec key p m) : Inc key (kas_rev p 0 m) m := by
  intro i j hij hj
  have e : ∀ k, k < m → (kas_rev p 0 m).getD k 0 = p.getD (m - 1 - k) 0 := fun k hk => by
    rw [getD_eq, getD_eq]
    show ((mirror p 0 m ((m - 0) / 2))[k]?).getD 0 = _
    rw [getElem?_mirror_all (by rw [hp.size]; exact hm), if_pos (by lia), Nat.zero_add]
  rw [e i (by lia), e j hj]
  exact hd _ _ (by lia) (by lia)
theorem desc_wp (hc : Cmp n key cmp I) {p : Array Nat} (hp : Ord n p) : ∀ (f a : Nat) (s : Shared) {Q : Array Nat × Nat × Nat → Shared → Prop}, 1 ≤ a → a + f = n → Dec key p a → I s →
    (∀ m s', a ≤ m → m ≤ n → Dec key p m → I s' → Q (p, m, 0) s') → (kas_desc f p a 0).kasWp cmp Q s
  | 0, a, s, Q, h1, e, hi, hI, h => h a s (Nat.le_refl _) (by lia) hi hI
  | f + 1, a, s, Q, h1, e, hi, hI, h => by
    refine hc.at hp (by lia) (by lia) (by lia) hI (fun hlt s' hI' => ?_) fun hlt s' hI' => ?_
    · exact desc_wp hc hp f (a + 1) s' (by lia) (by lia) (hi.succ fun _ => hlt) hI' fun m s'' h3 h4 h5 h6 => h m s'' (by lia) h4 h5 h6
    · refine hc.at hp (by lia) (by lia) (by lia) hI' (fun hlt2 s2 hI2 => ?_) fun hlt2 s2 hI2 => ?_
      · exact h a s2 (Nat.le_refl _) (by lia) hi hI2
      · have := hc.ne hp (i := a) (j := a - 1) (by lia) (by lia) (by lia)
        lia
theorem tail3_wp (hc : Cmp n key cmp I) {p : Array Nat} (hp : Ord n p) {m : Nat} {s : Shared} {Q : Nat × Array Nat → Shared → Prop} (h1 : 1 ≤ m) (hm : m ≤ n) (hd : Dec key p m) (hI : I s)
    (h : ∀ m p' s', 1 ≤ m → m ≤ n → Ord n p' → Inc key p' m → I s' → Q (m, p') s') : (kas_tail3 m n p).kasWp cmp Q s := by
  unfold kas_tail3
  rw [KasT.kasWp_bind]
  exact asc_wp hc (hp.rev 0 m) (n - m) m s h1 (by lia) (hd.rev hp hm) hI fun m' s' h3 h4 h5 h6 => h m' _ s' (by lia) h4 (hp.rev 0 m) h5 h6
theorem count_wp (hc : Cmp n key cmp I) {p : Array Nat} (hp : Ord n p) {s : Shared} {Q : Nat × Array Nat → Shared → Prop} (h2 : 2 ≤ n) (hI : I s)
    (h : ∀ m p' s', 1 ≤ m → m ≤ n → Ord n p' → Inc key p' m → I s' → Q (m, p') s') : (kas_count n p).kasWp cmp Q s := by
  unfold kas_count
  rw [KasT.kasWp_bind]
  have h01 : Inc key p 1 := fun i j a b => by lia
  cases hn : n - 1 with
  | zero => lia
  | succ f =>
    refine hc.at hp (by lia) (by lia) (by lia) hI (fun hlt s' hI' => ?_) fun hlt s' hI' => ?_
    · show KasT.kasWp cmp (if (1 == n) = true then KasT.ret (1, p) else if 1 > 1 then KasT.ask (p.getD 0 0) (p.getD (1 - 1) 0) fun c => if c = true then KasT.ret (1, p) else kas_descPart 1 n (kas_rev p 0 1) else kas_descPart 1 n p) Q s'
      rw [if_neg (by simp; lia), if_neg (by lia)]
      unfold kas_descPart
      rw [KasT.kasWp_bind]
      refine desc_wp hc hp (n - (1 + 1)) (1 + 1) s' (by lia) (by lia) (fun i j a b => ?_) hI' fun m s2 h3 h4 h5 h6 => ?_
      · obtain rfl : j = 1 := by lia
        obtain rfl : i = 0 := by lia
        exact hlt
      · show (kas_tail3 m n p).kasWp cmp Q s2
        exact tail3_wp hc hp (by lia) h4 h5 h6 h
    · refine asc_wp hc hp f (1 + 1) s' (by lia) (by lia) (h01.succ fun _ => ?_) hI' fun m s'' h3 h4 h5 h6 => ?_
      · have := hc.ne hp (i := 1) (j := 1 - 1) (by lia) (by lia) (by lia)
        lia
      · by_cases hmn : m = n
        · show KasT.kasWp cmp (if (m == n) = true then _ else _) Q s''
          rw [if_pos (by simp [hmn])]
          exact h m p s'' (by lia) h4 hp h5 h6
        · show KasT.kasWp cmp (if (m == n) = true then _ else _) Q s''
          rw [if_neg (by simp [hmn]), if_pos (by lia)]
          refine hc.at hp (by lia) (by lia) (by lia) h6 (fun hlt2 s2 hI2 => ?_) fun hlt2 s2 hI2 => ?_
          · exact h m p s2 (by lia) h4 hp h5 hI2
          · exact absurd (h5 0 (m - 1) (by lia) (by lia)) hlt2
theorem place_wp (hc : Cmp n key cmp I) {p : Array Nat} (hp : Ord n p) {k : Nat} (hk : k < n) (hi : Inc key p k) : ∀ (f l r : Nat) (s : Shared) {Q : Nat → Shared → Prop}, l ≤ r → r ≤ k → r - l ≤ f →
    (∀ i, i < l → key (p.getD i 0) < key (p.getD k 0)) → (∀ i, r ≤ i → i < k → key (p.getD k 0) < key (p.getD i 0)) → I s →
    (∀ l s', l ≤ k → (∀ i, i < l → key (p.getD i 0) < key (p.getD k 0)) → (∀ i, l ≤ i → i < k → key (p.getD k 0) < key (p.getD i 0)) → I s' → Q l s') → (kas_place p k f l r).kasWp cmp Q s
  | 0, l, r, s, Q, hlr, hr, hf, hA, hB, hI, h => h l s (by lia) hA (fun i h1 h2 => hB i (by lia) h2) hI
  | f + 1, l, r, s, Q, hlr, hr, hf, hA, hB, hI, h => by
    unfold kas_place
    by_cases hge : l ≥ r
    · rw [if_pos hge]
      exact h l s (by lia) hA (fun i h1 h2 => hB i (by lia) h2) hI
    · rw [if_neg hge]
      refine hc.at hp (by lia) (by lia) (by lia) hI (fun hlt s' hI' => ?_) fun hlt s' hI' => ?_
      · refine place_wp hc hp hk hi f l ((l + r) / 2) s' (by lia) (by lia) (by lia) hA (fun i h1 h2 => ?_) hI' h
        by_cases hie : i = (l + r) / 2
        · rw [hie]; exact hlt
        · exact Nat.lt_trans hlt (hi _ _ (by lia) h2)
      · have hne := hc.ne hp (i := k) (j := (l + r) / 2) hk (by lia) (by lia)
        refine place_wp hc hp hk hi f ((l + r) / 2 + 1) r s' (by lia) (by lia) (by lia) (fun i h1 => ?_) hB hI' h
        by_cases hie : i = (l + r) / 2
        · rw [hie]; lia
        · exact Nat.lt_trans (hi i ((l + r) / 2) (by lia) (by lia)) (by lia)
theorem Inc.bubble {p : Array Nat} {k l : Nat} (hp : Ord n p) (hk : k < n) (hi : Inc key p k) (hl : l ≤ k) (hA : ∀ i, i < l → key (p.getD i 0) < key (p.getD k 0)) (hB : ∀ i, l ≤ i → i < k → key (p.getD k 0) < key (p.getD i 0)) :
    Inc key (PyProof.Rows.bubble p k (k - l)) (k + 1) := by
  have e : ∀ i, (PyProof.Rows.bubble p k (k - l)).getD i 0 = if i = l then p.getD k 0 else if l < i ∧ i ≤ k then p.getD (i - 1) 0 else p.getD i 0 := fun i => by
    rw [getD_eq, getElem?_bubble (by rw [hp.size]; exact hk) _ (by lia), show k - (k - l) = l by lia]
    split
    · rw [getD_eq]
    · split <;> rw [getD_eq]
  intro i j hij hj
  rw [e i, e j]
  by_cases h1 : i = l
  · rw [if_pos h1, if_neg (by lia), if_pos (by lia)]
    exact hB _ (by lia) (by lia)
  · rw [if_neg h1]
    by_cases h2 : l < i ∧ i ≤ k
    · rw [if_pos h2, if_neg (by lia), if_pos (by lia)]
      exact hi _ _ (by lia) (by lia)
    · rw [if_neg h2]
      by_cases h3 : j = l
      · rw [if_pos h3]
        exact hA _ (by lia)
      · rw [if_neg h3]
        by_cases h4 : l < j ∧ j ≤ k
        · rw [if_pos h4]
          exact hi _ _ (by lia) (by lia)
        · rw [if_neg h4]
          exact hi _ _ hij (by lia)
theorem bin_wp (hc : Cmp n key cmp I) : ∀ (f k : Nat) (p : Array Nat) (s : Shared) {Q : Array Nat → Shared → Prop}, Ord n p → 1 ≤ k → k + f = n → Inc key p k → I s →
    (∀ p' s', Ord n p' → Inc key p' n → I s' → Q p' s') → (kas_bin f p k).kasWp cmp Q s
  | 0, k, p, s, Q, hp, h1, e, hi, hI, h => h p s hp ((show k = n by lia) ▸ hi) hI
  | f + 1, k, p, s, Q, hp, h1, e, hi, hI, h => by
    unfold kas_bin
    rw [KasT.kasWp_bind]
    refine place_wp hc hp (by lia) hi k 0 k s (by lia) (by lia) (by lia) (fun i a => by lia) (fun i a b => by lia) hI fun l s' hl hA hB hI' => ?_
    exact bin_wp hc f (k + 1) _ s' (hp.bubble _ _) (by lia) (by lia) (hi.bubble hp (by lia) hl hA hB) hI' h
theorem sort_wp (hc : Cmp n key cmp I) {s : Shared} {Q : Array Nat → Shared → Prop} (h2 : 2 ≤ n) (hI : I s) (h : ∀ p s', Ord n p → Inc key p n → I s' → Q p s') : (kas_sort n).kasWp cmp Q s := by
  unfold kas_sort
  rw [KasT.kasWp_bind]
  refine count_wp hc (Ord.range n) h2 hI fun m p s' h1 h3 h4 h5 h6 => ?_
  dsimp only
  by_cases hm : m < n
  · rw [if_pos hm, show max m 1 = m by lia]
    exact bin_wp hc (n - m) m p s' h4 h1 (by lia) h5 h6 h
  · rw [if_neg hm]
    exact h p s' h4 ((show m = n by lia) ▸ h5) h6
end
end Mine
namespace Mine
open PySem PySem.SeqAt
open AutoSeq1
open MeetsSeq MeetsSeq2 MeetsSeq3
theorem lt_loopAt (l b : Addr) (items items2 : Array Value) (n n2 : Nat) (dd dd2 : Option Addr) (sl sl2 : Array (Option Value)) (d : Nat) (f g : Nat → Int) (ft gt : Nat → Tok) (hx : ∀ j, j ≤ d → items[j]? = some (.int (f j) (ft j))) (hy : ∀ j, j ≤ d → items2[j]? = some (.int (g j) (gt j)))
    (hs : ∀ j, j < d → f j = g j) (hd : f d ≠ g d) (k : Nat) :
    ∀ i : Nat, i + k = d → Meets (Builtin.«list.__eq__.loop» ⟨[.ref l, .ref b, rawInt i, rawInt 0], []⟩)
      (fun A R s => s.heap.get? l = some { cls := .type "list", dict := dd, data := .seq items n, slots := sl } ∧ s.heap.get? b = some { cls := .type "list", dict := dd2, data := .seq items2 n2, slots := sl2 } ∧
        R (.ok (.ret (.bool (decide (f d < g d))))) s) := by
  induction k with
  | zero =>
    intro i hk prog w A R s h
    obtain ⟨hp, g', d', tk, os⟩ := s; obtain ⟨hl, hb, h⟩ := h
    obtain rfl : i = d := by lia
    wp_walk using wpAny_loadPart' hl, wpAny_loadPart' hb
    have hi1 : items[((i : Nat) : Int).toNat]? = some (.int (f i) (ft i)) := by rw [Int.toNat_natCast]; exact hx i (Nat.le_refl _)
    have hi2 : items2[((i : Nat) : Int).toNat]? = some (.int (g i) (gt i)) := by rw [Int.toNat_natCast]; exact hy i (Nat.le_refl _)
    rw [hi1, hi2]
    refine wpAny_bind (EqAt.int_int _ _ _ _ prog w _ _ ?_)
    rw [beq_eq_false_iff_ne.mpr hd]
    wp_walk using wpAny_loadPart' hl, wpAny_loadPart' hb
    rw [hi1, hi2]
    refine wpAny_bind (show wpAny (model prog w) _ (richCompare .Lt _ _) _ _ _ from wpAny_lt_int (a := f i) (b := g i) ?_)
    first | exact wpAny_pure h | exact wpAny_pure ⟨_, rfl, h⟩ | (wp_walk; trace_state; exact h)
  | succ k ih =>
    intro i hk prog w A R s h
    obtain ⟨hp, g', d', tk, os⟩ := s; obtain ⟨hl, hb, h⟩ := h
    wp_walk using wpAny_loadPart' hl, wpAny_loadPart' hb
    have hi1 : items[((i : Nat) : Int).toNat]? = some (.int (f i) (ft i)) := by rw [Int.toNat_natCast]; exact hx i (by lia)
    have hi2 : items2[((i : Nat) : Int).toNat]? = some (.int (g i) (gt i)) := by rw [Int.toNat_natCast]; exact hy i (by lia)
    have hc : ((i : Int) + 1) = ((i + 1 : Nat) : Int) := by push_cast; rfl
    rw [hi1, hi2]
    refine wpAny_bind (EqAt.int_int _ _ _ _ prog w _ _ ?_)
    rw [hs i (by lia), beq_self_eq_true]
    wp_walk
    rw [hc]
    exact ⟨plainId_quiet plain_eq_loop _, codeAny_builtin entry_eq_loop (by
      rw [Around.under_plainId plain_eq_loop _]
      exact ih (i + 1) (by lia) prog w A R _ ⟨hl, hb, h⟩)⟩
theorem list_ltAt (l b : Addr) (items items2 : Array Value) (n n2 : Nat) (dd dd2 : Option Addr) (sl sl2 : Array (Option Value)) (d : Nat) (f g : Nat → Int) (ft gt : Nat → Tok) (hx : ∀ j, j ≤ d → items[j]? = some (.int (f j) (ft j))) (hy : ∀ j, j ≤ d → items2[j]? = some (.int (g j) (gt j)))
    (hs : ∀ j, j < d → f j = g j) (hd : f d ≠ g d) :
    Meets (Builtin.«list.__lt__» ⟨[.ref l, .ref b], []⟩)
      (fun A R s => s.heap.get? l = some { cls := .type "list", dict := dd, data := .seq items n, slots := sl } ∧ s.heap.get? b = some { cls := .type "list", dict := dd2, data := .seq items2 n2, slots := sl2 } ∧
        R (.ok (.ret (.bool (decide (f d < g d))))) s) := by
  intro prog w A R s h
  obtain ⟨hp, g', d', tk, os⟩ := s; obtain ⟨hl, hb, h⟩ := h
  have f3 := AutoSeq1.sub_list_list
  wp_walk using wpAny_loadPart' hl, wpAny_loadPart' hb
  exact ⟨plainId_quiet plain_eq_loop _, codeAny_builtin entry_eq_loop (by
    rw [Around.under_plainId plain_eq_loop _]
    exact lt_loopAt l b items items2 n n2 dd dd2 sl sl2 d f g ft gt hx hy hs hd _ 0 (Nat.zero_add _) prog w A R _ ⟨hl, hb, h⟩)⟩
end Mine
namespace Mine
open PySem PySem.W PyProof.Rows PySem.Calls PySem.SeqAt
/-- a list's value, as a number's figures -/
noncomputable def val64 : List Int → Int
  | [] => 0
  | x :: r => x * 64 ^ r.length + val64 r
section
variable {prog : Program} {w : World} {A : Around} {E : Value → Shared → Prop} {s : Shared} {a b : Addr} {xs ys : List Value} {as bs : List Int} {n k : Nat}
theorem eqB_ints (hab : a ≠ b) (ha : s.heap.get? a = some (listOf xs.toArray n)) (hb : s.heap.get? b = some (listOf ys.toArray k)) (hx : IntsAre xs as) (hy : IntsAre ys bs) (hl : as.length = bs.length) (hu : A.units < cLine) {Q : Bool → Shared → Prop} (h : Q (decide (as = bs)) s) :
    wpAny (model prog w) A (eqBool (.ref a) (.ref b)) Q E s := by
  have e : RcAt A s (.ref a) (.ref b) ((List.range xs.toArray.size).all fun j => decide (as[j]? = bs[j]?)) := by
    refine RcAt.lists (PySem.IsL.isList (n := n) ha) (PySem.IsL.isList (n := k) hb) (by rw [List.size_toArray, List.size_toArray, hx.length, hy.length, hl]) hu fun j h1 h2 => ?_
    rw [List.size_toArray, hx.length] at h1
    rw [List.size_toArray, hy.length] at h2
    obtain ⟨t, e1⟩ := hx.get j as[j] (List.getElem?_eq_getElem h1)
    obtain ⟨u, e2⟩ := hy.get j bs[j] (List.getElem?_eq_getElem h2)
    have e3 : xs.toArray[j] = .int as[j] t := by have q := (List.getElem?_eq_some_iff.mp e1).2; simpa using q
    have e4 : ys.toArray[j] = .int bs[j] u := by have q := (List.getElem?_eq_some_iff.mp e2).2; simpa using q
    rw [e3, e4, List.getElem?_eq_getElem h1, List.getElem?_eq_getElem h2]
    have := EqAt.int_int (A := A.in1) (s := s) as[j] t bs[j] u
    rwa [show (as[j] == bs[j]) = decide (some as[j] = some bs[j]) by rw [Bool.eq_iff_iff]; simp] at this
  have e2 : ((List.range xs.toArray.size).all fun j => decide (as[j]? = bs[j]?)) = decide (as = bs) := by
    rw [List.size_toArray, hx.length]
    apply Bool.eq_iff_iff.mpr
    simp only [List.all_eq_true, List.mem_range, decide_eq_true_eq]
    constructor
    · intro q
      apply List.ext_getElem?
      intro i
      by_cases hi : i < as.length
      · exact q i hi
      · rw [List.getElem?_eq_none (by lia), List.getElem?_eq_none (by lia)]
    · intro q i _
      rw [q]
  rw [e2] at e
  exact EqAt.of_refs hab e prog w E Q h
theorem first_diff : ∀ {as bs : List Int}, as.length = bs.length → as ≠ bs → ∃ d, d < as.length ∧ (∀ j, j < d → as[j]? = bs[j]?) ∧ as[d]? ≠ bs[d]?
  | [], [], _, h => absurd rfl h
  | [], _ :: _, h, _ => by simp at h
  | _ :: _, [], h, _ => by simp at h
  | x :: as, y :: bs, h, hne => by
    by_cases e : x = y
    · subst e
      obtain ⟨d, h1, h2, h3⟩ := first_diff (as := as) (bs := bs) (by simpa using h) (fun q => hne (by rw [q]))
      refine ⟨d + 1, by simpa using h1, fun j hj => ?_, by simpa using h3⟩
      cases j with
      | zero => rfl
      | succ j => simpa using h2 j (by lia)
    · exact ⟨0, by simp, fun j hj => absurd hj (Nat.not_lt_zero _), by simpa using e⟩
theorem val64_range : ∀ {as : List Int}, (∀ x ∈ as, 0 ≤ x ∧ x < 64) → 0 ≤ val64 as ∧ val64 as < 64 ^ as.length
  | [], _ => by simp [val64]
  | x :: r, h => by
    have ih := val64_range (as := r) fun y hy => h y (.tail _ hy)
    have hx := h x (.head _)
    have e : (64 : Int) ^ (r.length + 1) = 64 ^ r.length * 64 := Int.pow_succ ..
    have hp : (0 : Int) < 64 ^ r.length := Int.pow_pos (by decide)
    simp only [val64, List.length_cons, e]
    have m1 : 0 ≤ x * 64 ^ r.length := Int.mul_nonneg hx.1 (Int.le_of_lt hp)
    have m2 : x * 64 ^ r.length ≤ 63 * 64 ^ r.length := Int.mul_le_mul_of_nonneg_right (by lia) (Int.le_of_lt hp)
    constructor
    · lia
    · lia
theorem val64_lt : ∀ {as bs : List Int} {d : Nat}, as.length = bs.length → (∀ x ∈ as, 0 ≤ x ∧ x < 64) → (∀ x ∈ bs, 0 ≤ x ∧ x < 64) → (∀ j, j < d → as[j]? = bs[j]?) → ∀ x y, as[d]? = some x → bs[d]? = some y → x ≠ y → (x < y ↔ val64 as < val64 bs)
  | [], [], d, _, _, _, _, x, y, h1, _, _ => by simp at h1
  | [], _ :: _, _, h, _, _, _, _, _, _, _, _ => by simp at h
  | _ :: _, [], _, h, _, _, _, _, _, _, _, _ => by simp at h
  | p :: as, q :: bs, 0, h, ha, hb, _, x, y, h1, h2, hne => by
    obtain rfl : p = x := by simpa using h1
    obtain rfl : q = y := by simpa using h2
    have r1 := val64_range (as := as) fun y hy => ha y (.tail _ hy)
    have r2 := val64_range (as := bs) fun y hy => hb y (.tail _ hy)
    have hl : as.length = bs.length := by simpa using h
    simp only [val64]
    rw [← hl] at r2 ⊢
    have hp : (0 : Int) < 64 ^ as.length := Int.pow_pos (by decide)
    generalize (64 : Int) ^ as.length = z at *
    constructor
    · intro hlt
      have m2 : (p + 1) * z ≤ q * z := Int.mul_le_mul_of_nonneg_right (by lia) (Int.le_of_lt hp)
      rw [Int.add_mul] at m2
      lia
    · intro hlt
      apply Classical.byContradiction
      intro hn
      have m2 : (q + 1) * z ≤ p * z := Int.mul_le_mul_of_nonneg_right (by lia) (Int.le_of_lt hp)
      rw [Int.add_mul] at m2
      lia
  | p :: as, q :: bs, d + 1, h, ha, hb, hs, x, y, h1, h2, hne => by
    obtain rfl : p = q := by simpa using hs 0 (by lia)
    have hl : as.length = bs.length := by simpa using h
    have ih := val64_lt (as := as) (bs := bs) (d := d) hl (fun y hy => ha y (.tail _ hy)) (fun y hy => hb y (.tail _ hy)) (fun j hj => by simpa using hs (j + 1) (by lia)) x y (by simpa using h1) (by simpa using h2) hne
    rw [ih]
    simp only [val64, hl]
    lia
theorem lt_ints (ha : s.heap.get? a = some (listOf xs.toArray n)) (hb : s.heap.get? b = some (listOf ys.toArray k)) (hx : IntsAre xs as) (hy : IntsAre ys bs) (hl : as.length = bs.length) (hne : as ≠ bs) (hu : A.units < cLine) (r1 : ∀ x ∈ as, 0 ≤ x ∧ x < 64) (r2 : ∀ x ∈ bs, 0 ≤ x ∧ x < 64)
    {Q : Bool → Shared → Prop} (h : Q (decide (val64 as < val64 bs)) s) : wpAny (model prog w) A (oneLt' true (.ref a) (.ref b)) Q E s := by
  obtain ⟨d, hd, hs, hD⟩ := first_diff hl hne
  have hd2 : d < bs.length := hl ▸ hd
  have hx' : ∀ j, ∃ t, j ≤ d → xs.toArray[j]? = some (.int (as[j]?.getD 0) t) := fun j => by
    by_cases hj : j ≤ d
    · obtain ⟨t, e⟩ := hx.get j as[j] (List.getElem?_eq_getElem (by lia))
      exact ⟨t, fun _ => by rw [List.getElem?_eq_getElem (l := as) (i := j) (by lia)]; simpa using e⟩
    · exact ⟨0, fun q => absurd q hj⟩
  have hy' : ∀ j, ∃ t, j ≤ d → ys.toArray[j]? = some (.int (bs[j]?.getD 0) t) := fun j => by
    by_cases hj : j ≤ d
    · obtain ⟨t, e⟩ := hy.get j bs[j] (List.getElem?_eq_getElem (by lia))
      exact ⟨t, fun _ => by rw [List.getElem?_eq_getElem (l := bs) (i := j) (by lia)]; simpa using e⟩
    · exact ⟨0, fun q => absurd q hj⟩
  have ea : as[d]? = some as[d] := List.getElem?_eq_getElem hd
  have eb : bs[d]? = some bs[d] := List.getElem?_eq_getElem hd2
  have hne2 : as[d] ≠ bs[d] := fun q => hD (by rw [ea, eb, q])
  have key := val64_lt hl r1 r2 hs _ _ ea eb hne2
  rw [oneLt'_eq]
  simp only [if_true]
  refine wpAny_bind (wpAny_cRoomFor hu ?_)
  refine wpAny_bind (wpAny_callSpecialIfBound?_slot (T := "list") ⟨_, ha, rfl⟩ F.slot_list_lt (call_meets F.slot_list_lt ⟨_, ha, rfl⟩ F.entry_list_lt (F.args_list_lt_2 _ _)
    (list_ltAt a b _ _ n k none none #[] #[] d (fun j => as[j]?.getD 0) (fun j => bs[j]?.getD 0) (fun j => Classical.choose (hx' j)) (fun j => Classical.choose (hy' j)) (fun j hj => Classical.choose_spec (hx' j) hj) (fun j hj => Classical.choose_spec (hy' j) hj) (fun j hj => by rw [hs j hj]) (by rw [ea, eb]; exact hne2)) ⟨ha, hb, ?_⟩))
  refine wpAny_truthy_bool ?_
  rw [ea, eb]
  show Q (decide (as[d] < bs[d])) s
  rw [show decide (as[d] < bs[d]) = decide (val64 as < val64 bs) from decide_eq_decide.mpr key]
  exact h
end
end Mine
namespace Mine
open PySem PySem.W PyProof.Rows PySem.Calls PySem.SeqAt
theorem zip_few : ∀ {vs : List Value}, vs.length < 2 → (vs.toArray.zip vs.toArray).map (·.2) = vs.toArray
  | [], _ => by simp
  | [_], _ => by simp [Array.zip]
  | _ :: _ :: _, h => by simp at h; lia
section
variable {prog : Program} {w : World} {A : Around} {E : Value → Shared → Prop} {s : Shared} {h₀ : Heap} {L a l : Addr} {m : Str → Option Value} {news : List (Addr × Obj)} {vs : List Value}
theorem sort_few {n : Nat} {P : PySem.Fin → Shared → Prop} (F : Fr h₀ L s.heap m) (N : News h₀ L s.heap news) (ho : s.heap.get? a = some (seqObj "list" vs.toArray n)) (haL : a ≠ L) (ha0 : h₀.get? a = none) (hna : ∀ p ∈ news, p.1 ≠ a)
    (h2 : vs.length < 2) (h : ∀ c h', Fr h₀ L h' m → News h₀ L h' ((a, listOf vs.toArray c) :: news) → P (.done (.ret .none)) { s with heap := h' }) :
    wpAny (model prog w) A (Builtin.«list.sort» ⟨[.ref a], []⟩) P E s := by
  have s1 := Heap.SameBut.update s.heap a (Obj.mapSeq fun _ => (#[] : Array Value))
  obtain ⟨e1, ho1⟩ : ∃ e1, (s.heap.update a (Obj.mapSeq fun _ => (#[] : Array Value))).get? a = some (seqObj "list" #[] e1) := ⟨_, get?_update_seq ho fun _ => #[]⟩
  generalize hg : s.heap.update a (Obj.mapSeq fun _ => (#[] : Array Value)) = g1 at s1 ho1
  have up : ∀ b o, g1.get? b = some o → ((g1.push (seqObj "tuple" vs.toArray 0)).push (seqObj "list" #[] 0)).get? b = some o := fun b o e => Heap.get?_push_of_some _ (Heap.get?_push_of_some _ e)
  have ho3 := up _ _ ho1
  have F3 : Fr h₀ L ((g1.push (seqObj "tuple" vs.toArray 0)).push (seqObj "list" #[] 0)) m := ((kas_fr F s1 haL ha0).push _).push _
  have N3 : News h₀ L ((g1.push (seqObj "tuple" vs.toArray 0)).push (seqObj "list" #[] 0)) news := (kas_news N s1 hna).grown up
  generalize hg3 : (g1.push (seqObj "tuple" vs.toArray 0)).push (seqObj "list" #[] 0) = g3 at ho3 F3 N3
  rw [list_sort_plain]
  refine wpAny_bind (listItems_at ho rfl ?_)
  refine wpAny_bind (listUpdate_at ho rfl ?_ (by rw [List.size_toArray, sizeLine_eq]; lia) (Nat.zero_le _))
  refine wpAny_bind (seqEpoch_at (by rw [hg]; exact ho1) rfl ?_)
  refine wpAny_bind (wpAny_newTuple ?_ (by show vs.length ≤ _; rw [sizeLine_eq]; lia))
  refine wpAny_bind (wpAny_newList ?_ (Nat.zero_le _))
  refine wpAny_holding ?_
  rw [hg]
  show wpAny (model prog w) A _ P E { s with heap := (g1.push (seqObj "tuple" vs.toArray 0)).push (seqObj "list" #[] 0) }
  rw [hg3]
  dsimp only
  have hn2 : vs.toArray.size < 2 := by rw [List.size_toArray]; lia
  rw [if_pos hn2, if_pos hn2]
  refine wpAny_bind (wpAny_pure ?_)
  refine wpAny_bind (wpAny_pure ?_)
  have hout : (arrOf (SortSt.mk' general' (vs.toArray.zip vs.toArray) #[] 7 none)).map (·.2) = vs.toArray := by
    exact zip_few h2
  dsimp only
  rw [hout]
  have s2 := Heap.SameBut.update g3 a (Obj.mapSeq fun _ => vs.toArray)
  obtain ⟨c2, hc2⟩ : ∃ c2, (g3.update a (Obj.mapSeq fun _ => vs.toArray)).get? a = some (seqObj "list" vs.toArray c2) := ⟨_, get?_update_seq ho3 fun _ => vs.toArray⟩
  refine wpAny_bind (seqEpoch_at ho3 rfl ?_)
  refine wpAny_bind (listUpdate_at ho3 rfl ?_ (Nat.zero_le _) (by rw [List.size_toArray, sizeLine_eq]; lia))
  show wpAny (model prog w) A _ P E { s with heap := g3.update a (Obj.mapSeq fun _ => vs.toArray) }
  simp only [bne_self_eq_false, Bool.false_eq_true, if_false]
  refine wpAny_pure (h c2 _ (kas_fr F3 s2 haL ha0) fun p hp => ?_)
  rcases List.mem_cons.mp hp with rfl | hp
  · exact ⟨hc2, haL, ha0⟩
  · exact kas_news N3 s2 hna p hp
theorem sorted_few {Q : Value → Shared → Prop} (F : Fr h₀ L s.heap m) (N : News h₀ L s.heap news) (hl : s.heap.IsList l vs.toArray) (h2 : vs.length < 2)
    (h : ∀ D c h', Fr h₀ L h' m → News h₀ L h' ((D, listOf vs.toArray c) :: news) → (∀ q ∈ news, q.1 < D) → Q (.ref D) { s with heap := h' }) :
    wpAny (model prog w) A (call (.builtin "sorted") [.ref l]) Q E s := by
  refine Calls.call_function_entry kind_sorted plain_sorted entry_sorted (args_sorted1 _) ?_
  unfold Builtin.«sorted»
  refine wpAny_bind (m := checkCount "sorted" 1 1 _) (wpAny_pure ?_)
  refine wpAny_bind (collect_list hl ?_ (by rw [sizeLine_eq]; lia))
  refine wpAny_bind (wpAny_newList ?_ (by rw [sizeLine_eq]; lia))
  have hsz : ((s.heap.push (seqObj "list" #[] 0)).update s.heap.objs.size (Obj.mapSeq (· ++ vs.toArray))).objs.size = s.heap.objs.size + 1 := by
    rw [Heap.size_update, size_push']
  have hoL : (((s.heap.push (seqObj "list" #[] 0)).update s.heap.objs.size (Obj.mapSeq (· ++ vs.toArray))).push (seqObj "list" vs.toArray 0)).get? (s.heap.objs.size + 1) = some (seqObj "list" vs.toArray 0) := by
    rw [← hsz]; exact Heap.get?_push_size _ rfl
  have keep : ∀ b o, s.heap.get? b = some o → (((s.heap.push (seqObj "list" #[] 0)).update s.heap.objs.size (Obj.mapSeq (· ++ vs.toArray))).push (seqObj "list" vs.toArray 0)).get? b = some o := fun b o q => by
    have hlt : b < s.heap.objs.size := Heap.lt_size q
    rw [Heap.get?_push_ne _ _ _ (by rw [hsz]; exact Nat.ne_of_lt (Nat.lt_succ_of_lt hlt)), Heap.get?_update_ne _ _ _ _ (Nat.ne_of_lt hlt), Heap.get?_push_ne _ _ _ (Nat.ne_of_lt hlt)]
    exact q
  have hL : L < s.heap.objs.size := F.ns.lt
  show wpAny _ _ _ _ _ { s with heap := ((s.heap.push (seqObj "list" #[] 0)).update s.heap.objs.size (Obj.mapSeq (· ++ vs.toArray))).push (seqObj "list" vs.toArray 0) }
  rw [hsz]
  refine wpAny_bind (wpAny_holding (wpAny_call_entry slot_list_sort ⟨_, hoL, rfl⟩ entry_list_sort ?body (args_list_sort _)))
  case body =>
    refine sort_few (s := { s with heap := ((s.heap.push (seqObj "list" #[] 0)).update s.heap.objs.size (Obj.mapSeq (· ++ vs.toArray))).push (seqObj "list" vs.toArray 0) })
      (F.kept keep) (N.grown keep) hoL (Nat.ne_of_gt (Nat.lt_succ_of_lt hL)) (Heap.get?_none_of_le (Nat.le_trans F.above (Nat.le_succ_of_le (Nat.le_of_lt hL))))
      (fun p hp => Nat.ne_of_lt (Nat.lt_succ_of_lt (Heap.lt_size (N p hp).1))) h2 fun c h' F' N' => ?_
    exact ⟨_, rfl, wpAny_pure ⟨_, rfl, h _ c h' F' N' fun q hq => Nat.lt_succ_of_lt (Heap.lt_size (N q hq).1)⟩⟩
end
/-- a pair of a number's figures and the number -/
noncomputable def RkTup (news : List (Addr × Obj)) (v : Value) (x : Int) : Prop :=
  ∃ t o r zs k u nt, v = .ref t ∧ (t, o) ∈ news ∧ o.cls = .type "tuple" ∧ o.data = .seq #[.ref r, .int x u] nt ∧ (r, listOf (List.toArray zs) k) ∈ news ∧ IntsAre zs ((figs x).map rk)
noncomputable def RkTups (news : List (Addr × Obj)) (vs : List Value) (xs : List Int) : Prop := vs.length = xs.length ∧ ∀ (i : Nat) (x : Int), xs[i]? = some x → ∃ v, vs[i]? = some v ∧ RkTup news v x
noncomputable def K64 (x : Int) : Int := val64 ((figs x).map rk)
theorem rk_range {k : Int} (h0 : 0 ≤ k) (h1 : k < 64) : 0 ≤ rk k ∧ rk k < 64 := by
  unfold rk
  split
  · lia
  · split <;> lia
theorem rks_range (x : Int) : ∀ y ∈ (figs x).map rk, 0 ≤ y ∧ y < 64 := by
  intro y hy
  obtain ⟨k, hk, rfl⟩ := List.mem_map.mp hy
  unfold figs at hk
  simp only [List.mem_cons, List.not_mem_nil, or_false] at hk
  rcases hk with rfl | rfl | rfl | rfl <;> exact rk_range (by lia) (by lia)
theorem rk_inj_fin : ∀ k l : Fin 64, rk ((k.val : Nat) : Int) = rk ((l.val : Nat) : Int) → k = l := by decide +kernel
theorem rk_inj {k l : Int} (h0 : 0 ≤ k) (h1 : k < 64) (h2 : 0 ≤ l) (h3 : l < 64) (h : rk k = rk l) : k = l := by
  obtain ⟨a, rfl⟩ := Int.eq_ofNat_of_zero_le h0
  obtain ⟨b, rfl⟩ := Int.eq_ofNat_of_zero_le h2
  exact congrArg Int.ofNat (congrArg Fin.val (rk_inj_fin ⟨a, Int.ofNat_lt.mp h1⟩ ⟨b, Int.ofNat_lt.mp h3⟩ h))
theorem rk_inj_mod {k l : Int} (h : rk (k % 64) = rk (l % 64)) : k % 64 = l % 64 :=
  rk_inj (Int.emod_nonneg _ (by decide)) (Int.emod_lt_of_pos _ (by decide)) (Int.emod_nonneg _ (by decide)) (Int.emod_lt_of_pos _ (by decide)) h
theorem digits {x : Int} (hx : 0 ≤ x ∧ x < 16777216) : x = ((x / 262144 % 64 * 64 + x / 4096 % 64) * 64 + x / 64 % 64) * 64 + x / 1 % 64 := by lia
theorem rks_inj {x y : Int} (hx : 0 ≤ x ∧ x < 16777216) (hy : 0 ≤ y ∧ y < 16777216) (h : (figs x).map rk = (figs y).map rk) : x = y := by
  unfold figs at h
  simp only [List.map_cons, List.map_nil, List.cons.injEq, and_true] at h
  obtain ⟨a, b, c, d⟩ := h
  rw [digits hx, digits hy, rk_inj_mod a, rk_inj_mod b, rk_inj_mod c, rk_inj_mod d]
theorem intsAre_unique {vs : List Value} {as bs : List Int} (h1 : IntsAre vs as) (h2 : IntsAre vs bs) : as = bs := by
  apply List.ext_getElem?
  intro i
  have l1 := h1.length
  have l2 := h2.length
  by_cases hi : i < as.length
  · obtain ⟨t, e⟩ := h1.get i as[i] (List.getElem?_eq_getElem hi)
    obtain ⟨u, e'⟩ := h2.get i bs[i] (List.getElem?_eq_getElem (by lia))
    rw [e] at e'
    injection (Option.some.inj e') with e2 _
    rw [List.getElem?_eq_getElem hi, List.getElem?_eq_getElem (by lia), e2]
  · rw [List.getElem?_eq_none (by lia), List.getElem?_eq_none (by lia)]
section
variable {prog : Program} {w : World} {A : Around} {E : Value → Shared → Prop} {s : Shared} {h₀ : Heap} {L l : Addr} {m : Str → Option Value} {news : List (Addr × Obj)} {vs : List Value} {xs : List Int}
theorem katTups_of {h : Heap} (N : News h₀ L h news) : ∀ {vs : List Value} {xs : List Int}, RkTups news vs xs → ∃ fs, KatTups h vs fs ∧ fs.length = vs.length ∧ ∀ f ∈ fs, ∃ r o, f = .ref r ∧ h.get? r = some o ∧ o.cls = .type "list"
  | [], [], _ => ⟨[], trivial, rfl, fun _ h => nomatch h⟩
  | [], _ :: _, h => by simp [RkTups] at h
  | _ :: _, [], h => by simp [RkTups] at h
  | v :: vs, x :: xs, h => by
    obtain ⟨fs, h1, h2, h3⟩ := katTups_of N (vs := vs) (xs := xs) ⟨by simpa using h.1, fun i x hx => by simpa using h.2 (i + 1) x (by simpa using hx)⟩
    obtain ⟨v', e, t, o, r, zs, k, u, nt, e2, hm, hc, hd, hr, hz⟩ := h.2 0 x rfl
    obtain rfl : v = v' := by simpa using e
    subst e2
    refine ⟨.ref r :: fs, .cons (N _ hm).1 hc hd (by simp) h1, by simp [h2], fun f hf => ?_⟩
    rcases List.mem_cons.mp hf with rfl | q
    · exact ⟨r, _, rfl, (N _ hr).1, rfl⟩
    · exact h3 f q
theorem cmp_ranks (N : News h₀ L s.heap news) {v v' : Value} {x y : Int} (hv : RkTup news v x) (hv' : RkTup news v' y) (hx : 0 ≤ x ∧ x < 16777216) (hy : 0 ≤ y ∧ y < 16777216) (hne : x ≠ y) (hu : A.units < cLine) {Q : Bool → Shared → Prop}
    (h : Q (decide ((K64 x).toNat < (K64 y).toNat)) s) : wpAny (model prog w) A (keyLt' (tuples' true) v v') Q E s := by
  obtain ⟨t, o, r, zs, k, u, nt, rfl, hm, hc, hd, hr, hz⟩ := hv
  obtain ⟨t', o', r', zs', k', u', nt', rfl, hm', hc', hd', hr', hz'⟩ := hv'
  have hne2 : (figs x).map rk ≠ (figs y).map rk := fun e => hne (rks_inj hx hy e)
  have hrr : r ≠ r' := fun e => by
    subst e
    have e1 := (N _ hr).1.symm.trans (N _ hr').1
    have e2 : zs = zs' := by
      have e3 := congrArg Obj.data (Option.some.inj e1)
      injection e3 with e4 _
      simpa using e4
    subst e2
    exact hne2 (intsAre_unique hz hz')
  refine kat_lt (N _ hm).1 hd (N _ hm').1 hd' ?_
  refine kat_cons (eqB_ints hrr (N _ hr).1 (N _ hr').1 hz hz' (by simp [figs]) hu ?_)
  rw [decide_eq_false hne2]
  refine kat_no (lt_ints (N _ hr).1 (N _ hr').1 hz hz' (by simp [figs]) hne2 hu (rks_range x) (rks_range y) ?_)
  have r1 := (val64_range (rks_range x)).1
  have r2 := (val64_range (rks_range y)).1
  rw [show decide (val64 ((figs x).map rk) < val64 ((figs y).map rk)) = decide ((K64 x).toNat < (K64 y).toNat) from decide_eq_decide.mpr (by unfold K64; lia)]
  exact h
theorem RkTups.get {i : Nat} (hv : RkTups news vs xs) (hi : i < xs.length) : RkTup news (vs.getD i .none) (xs.getD i 0) := by
  obtain ⟨v, e, h⟩ := hv.2 i xs[i] (List.getElem?_eq_getElem hi)
  rw [List.getD_eq_getElem?_getD, e, List.getD_eq_getElem?_getD, List.getElem?_eq_getElem hi]
  exact h
theorem K64_inj {x y : Int} (hx : 0 ≤ x ∧ x < 16777216) (hy : 0 ≤ y ∧ y < 16777216) (h : K64 x = K64 y) : x = y := by
  apply Classical.byContradiction
  intro hne
  have hne2 : (figs x).map rk ≠ (figs y).map rk := fun e => hne (rks_inj hx hy e)
  obtain ⟨d, hd, hs, hD⟩ := first_diff (by simp [figs]) hne2
  have hd2 : d < ((figs y).map rk).length := by simpa [figs] using hd
  have ea := List.getElem?_eq_getElem hd
  have eb := List.getElem?_eq_getElem hd2
  have hD2 : ((figs x).map rk)[d] ≠ ((figs y).map rk)[d] := fun e => hD (by rw [ea, eb]; exact congrArg some e)
  have q1 := val64_lt (by simp [figs]) (rks_range x) (rks_range y) hs _ _ ea eb hD2
  have q2 := val64_lt (by simp [figs]) (rks_range y) (rks_range x) (fun j hj => (hs j hj).symm) _ _ eb ea (Ne.symm hD2)
  unfold K64 at h
  generalize ((figs x).map rk)[d] = u at *
  generalize ((figs y).map rk)[d] = v at *
  lia
theorem sorted_ranks {n : Nat} {Q : Value → Shared → Prop} (F : Fr h₀ L s.heap m) (N : News h₀ L s.heap news) (hl : (l, listOf vs.toArray n) ∈ news) (hv : RkTups news vs xs) (hr : ∀ x ∈ xs, 0 ≤ x ∧ x < 16777216) (hnd : xs.Nodup) (h64 : xs.length < 64) (hu : A.units + 5 < cLine)
    (h : ∀ D out xs' c h', RkTups news out xs' → xs'.Perm xs → xs'.Pairwise (fun a b => K64 a < K64 b) → Fr h₀ L h' m → News h₀ L h' ((D, listOf (List.toArray out) c) :: news) → (∀ q ∈ news, q.1 < D) → Q (.ref D) { s with heap := h' }) :
    wpAny (model prog w) A (call (.builtin "sorted") [.ref l]) Q E s := by
  have hL := PySem.IsL.isList (n := n) (N _ hl).1
  by_cases h2 : vs.length < 2
  · refine sorted_few F N hL h2 fun D c h' F' N' l' => h D vs xs c h' hv (.refl _) ?_ F' N' l'
    have : xs.length < 2 := hv.1 ▸ h2
    match xs, this with
    | [], _ => exact .nil
    | [_], _ => exact List.pairwise_singleton _ _
  · have hlen := hv.1
    refine kat_sorted F N hL (by lia) (by lia) fun D e1 h' F' N' l' => ?_
    have N2 : News h₀ L h' news := fun p hp => N' p (.tail _ hp)
    obtain ⟨fs, hk, hfl, hft⟩ := katTups_of N2 hv
    refine kat_kind (T := .type "list") hk (by lia) (fun f hf => ?_) (by decide) ?_
    · obtain ⟨r, o, rfl, ho, hc⟩ := hft f hf
      exact hc ▸ (show Looks _ h' (typeOf (.ref r)) o.cls from (Looks.ld ho).andThen .now)
    · have hget : ∀ i, i < vs.length → xs.getD i 0 ∈ xs := fun i hi => by
        rw [List.getD_eq_getElem?_getD, List.getElem?_eq_getElem (by lia)]
        exact List.getElem_mem _
      have hinj : ∀ i j, i < vs.length → j < vs.length → xs.getD i 0 = xs.getD j 0 → i = j := fun i j hi hj e => by
        rw [List.getD_eq_getElem?_getD, List.getD_eq_getElem?_getD, List.getElem?_eq_getElem (by lia), List.getElem?_eq_getElem (by lia)] at e
        exact (List.getElem_inj hnd).mp e
      refine sort_wp (I := fun s' => s' = { s with heap := h' }) (key := fun i => (K64 (xs.getD i 0)).toNat) ⟨by lia, fun i j hi hj e => ?_, fun i j C s' hi hj hij hI hC => ?_⟩ (by lia) rfl fun p s' hp hi0 hs' => ?_
      · refine hinj i j hi hj (K64_inj (hr _ (hget i hi)) (hr _ (hget j hj)) ?_)
        have r1 := (val64_range (rks_range (xs.getD i 0))).1
        have r2 := (val64_range (rks_range (xs.getD j 0))).1
        unfold K64 at e ⊢
        lia
      · subst hI
        show wpAny _ _ (keyLt' (tuples' true) _ _) _ _ _
        exact cmp_ranks N2 (hv.get (by lia)) (hv.get (by lia)) (hr _ (hget i hi)) (hr _ (hget j hj)) (fun e => hij (hinj i j hi hj e)) (by show A.units + 1 + 1 < cLine; lia) (hC _ rfl)
      · subst hs'
        have hps : p.size = vs.length := hp.size
        have hpl : ∀ i ∈ p.toList, i < vs.length := fun i hi => List.mem_range.mp (hp.perm.mem_iff.mp hi)
        refine KasFin.intro F' N' (.head fun q hq => Nat.ne_of_lt (l' q hq)) fun h2 c F2 N2 => h D _ (p.toList.map fun i => xs.getD i 0) c h2 ⟨by simp, fun i x hx => ?_⟩ ?_ ?_ F2 N2 l'
        · rw [List.getElem?_map] at hx
          obtain ⟨j, hj, rfl⟩ := Option.map_eq_some_iff.mp hx
          exact ⟨_, by rw [List.getElem?_map, hj]; rfl, hv.get (by have := hpl j (List.mem_of_getElem? hj); lia)⟩
        · have e : (List.range vs.length).map (fun i => xs.getD i 0) = xs := by
            apply List.ext_getElem?
            intro i
            rw [List.getElem?_map]
            by_cases hi : i < vs.length
            · rw [List.getElem?_range hi, Option.map_some, List.getD_eq_getElem?_getD, List.getElem?_eq_getElem (by lia)]
              rfl
            · rw [List.getElem?_eq_none (by simp; lia), List.getElem?_eq_none (by lia)]
              rfl
          exact (hp.perm.map _).trans (.of_eq e)
        · rw [List.pairwise_iff_getElem]
          intro i j hi hj hij
          rw [List.getElem_map, List.getElem_map]
          rw [List.length_map, Array.length_toList] at hi hj
          have q := hi0 i j hij (by lia)
          rw [getD_eq, getD_eq, Array.getElem?_eq_getElem hi, Array.getElem?_eq_getElem hj] at q
          have r1 := (val64_range (rks_range (xs.getD p.toList[i] 0))).1
          have r2 := (val64_range (rks_range (xs.getD p.toList[j] 0))).1
          simp only [Array.getElem_toList, Option.getD_some] at q r1 r2 ⊢
          unfold K64 at q ⊢
          lia
end
section
open LCg LCt LCp
variable {prog : Program} {w : World} {A : Around} {s : Shared} {h₀ : Heap} {L : Addr} {m : Str → Option Value} {env : Env} {elt : Expr} {x x₂ : Str} {scope : Scope} {cl : List (Str × Addr)} {S : List (Addr × Obj) → Prop} {P : Nat → Value → Prop} {Fin : List Value → List (Addr × Obj) → Prop}
theorem comp_invP {n : Nat} (Inv : Nat → List Value → List (Addr × Obj) → Prop)
    (turn : ∀ i ys news, i < n → Inv i ys news → ∀ v, P i v → ∃ (t : Addr) (ot : Obj) (v₁ v₂ : Value) (nt : Nat), v = .ref t ∧ (t, ot) ∈ news ∧ ot.cls = .type "tuple" ∧ ot.data = .seq #[v₁, v₂] nt ∧
      ∀ I oI C oC D m₂ h tk, NsObj oC m₂ → m₂ x = some v₁ → m₂ x₂ = some v₂ → Fr h₀ L h m → News h₀ L h ((I, oI) :: (C, oC) :: (D, lst ys) :: news) → Off3 I C D news → ((@Ne Nat I C) ∧ (@Ne Nat I D) ∧ (@Ne Nat C D)) →
      wpAny (model prog w) A (eval elt (compEnvC scope cl C env)) (CompEnd h₀ L m { s with heap := h, toks := tk } I oI C oC D (lst ys) S (fun y news' => Inv (i + 1) (ys ++ [y]) news')) (fun _ _ => False) { s with heap := h, toks := tk })
    (fin : ∀ ys news, Inv n ys news → Fin ys news) : ∀ k i ys news, i + k = n → Inv i ys news → CompRestP prog w A h₀ L m env elt x x₂ scope cl s S P Fin k i ys news
  | 0, i, ys, news, e, hI => fin ys news (by rw [← e]; exact hI)
  | k + 1, i, ys, news, e, hI => by
    intro v hP
    obtain ⟨t, ot, v₁, v₂, nt, e1, hm, hc, hd, tt⟩ := turn i ys news (by lia) hI v hP
    refine ⟨t, ot, v₁, v₂, nt, e1, hm, hc, hd, ?_⟩
    intro I oI C oC D m₂ h tk E' hC hx hx₂ F N off ne
    refine wpAny_noRaise (wpAny_mono (tt I oI C oC D m₂ h tk hC hx hx₂ F N off ne) (fun y s₂ q => ?_) fun _ _ z => z)
    exact compEnd_mono q fun y nw hI' => comp_invP Inv turn fin k (i + 1) _ _ (by lia) hI'
end
end Mine
namespace Mine
open PySem PySem.W PyProof.Rows PySem.Calls
open LCg LCt LCp
theorem size_k (n : Nat) : Builtin.Range.rangeSize 0 (n : Int) 1 = ((n : Nat) : Int) := by
  unfold Builtin.Range.rangeSize
  rw [if_pos (by decide)]
  split
  · rw [Int.ediv_one]; lia
  · lia
theorem small_k {n : Nat} (h : n < 64) : Builtin.Range.small 0 (n : Int) 1 = true := by
  have : ∀ n : Fin 64, Builtin.Range.small 0 ((n.val : Nat) : Int) 1 = true := by decide +kernel
  exact this ⟨n, h⟩
noncomputable def aloneTo (ns ms : List Int) : Nat → List Int
  | 0 => []
  | i + 1 => aloneTo ns ms i ++ (match ns[i]? with
    | some x => if x ∈ ms ∨ x ∈ ns.take i then [] else [x]
    | none => [])
theorem alone_skip {ns ms : List Int} {i : Nat} {x : Int} (hx : ns[i]? = some x) (h : x ∈ ms ∨ x ∈ ns.take i) : aloneTo ns ms (i + 1) = aloneTo ns ms i := by
  simp only [aloneTo, hx, if_pos h, List.append_nil]
theorem alone_add {ns ms : List Int} {i : Nat} {x : Int} (hx : ns[i]? = some x) (h : ¬ (x ∈ ms ∨ x ∈ ns.take i)) : aloneTo ns ms (i + 1) = aloneTo ns ms i ++ [x] := by
  simp only [aloneTo, hx, if_neg h]
theorem any_true {ms : List Int} {x : Int} (h : x ∈ ms) : (!(ms.any (· == x))) = false := by simpa using h
theorem any_false {ms : List Int} {x : Int} (h : x ∉ ms) : (!(ms.any (· == x))) = true := by
  simp only [Bool.not_eq_true', List.any_eq_false, beq_iff_eq]
  exact fun y hy e => h (e ▸ hy)
noncomputable def OctV (v : Value) (x : Int) : Prop := ∃ t, v = .bytes ([x / 65536 % 256, x / 256 % 256, x % 256].map fun n : Int => n.toNat.toUInt8).toArray t
noncomputable def All2 (P : Value → Int → Prop) (us : List Value) (xs : List Int) : Prop := us.length = xs.length ∧ ∀ (i : Nat) (x : Int), xs[i]? = some x → ∃ v, us[i]? = some v ∧ P v x
theorem alone_mem {ns ms : List Int} : ∀ {i : Nat} {x : Int}, x ∈ aloneTo ns ms i → x ∈ ns.take i
  | 0, _, h => nomatch h
  | i + 1, x, h => by
    rcases List.mem_append.mp h with q | q
    · exact List.mem_of_mem_take (i := i) (by rw [List.take_take]; rw [show min i (i + 1) = i by lia]; exact alone_mem q)
    · cases e : ns[i]? with
      | none => rw [e] at q; simp at q
      | some y =>
        rw [e] at q
        simp only at q
        split at q
        · simp at q
        · rw [List.mem_singleton.mp q, List.take_add_one, e]; simp
theorem alone_len {ns ms : List Int} : ∀ {i : Nat}, (aloneTo ns ms i).length ≤ i
  | 0 => Nat.le_refl _
  | i + 1 => by
    have ih := alone_len (ns := ns) (ms := ms) (i := i)
    cases e : ns[i]? with
    | none => simp only [aloneTo, e, List.append_nil]; lia
    | some y =>
      simp only [aloneTo, e]
      split
      · rw [List.append_nil]; lia
      · rw [List.length_append, List.length_singleton]; lia
theorem alone_nodup {ns ms : List Int} : ∀ (i : Nat), (aloneTo ns ms i).Nodup
  | 0 => .nil
  | i + 1 => by
    refine List.nodup_append.mpr ⟨alone_nodup i, ?_, ?_⟩
    · cases e : ns[i]? with
      | none => simp
      | some y => simp only; split <;> simp
    · intro a ha b hb hab
      subst hab
      cases e : ns[i]? with
      | none => rw [e] at hb; simp at hb
      | some y =>
        rw [e] at hb
        simp only at hb
        split at hb
        · simp at hb
        · rename_i hn
          rw [List.mem_singleton.mp hb] at ha
          exact hn (.inr (alone_mem ha))
theorem RkTup.mono {nw nw' : List (Addr × Obj)} (hs : ∀ p ∈ nw, p ∈ nw') {v : Value} {x : Int} (h : RkTup nw v x) : RkTup nw' v x := by
  obtain ⟨t, o, r, zs, k, u, nt, e, h1, h2, h3, h4, h5⟩ := h
  exact ⟨t, o, r, zs, k, u, nt, e, hs _ h1, h2, h3, hs _ h4, h5⟩
theorem RkTups.mono {nw nw' : List (Addr × Obj)} (hs : ∀ p ∈ nw, p ∈ nw') {vs : List Value} {xs : List Int} (h : RkTups nw vs xs) : RkTups nw' vs xs :=
  ⟨h.1, fun i x hx => let ⟨v, e, q⟩ := h.2 i x hx; ⟨v, e, q.mono hs⟩⟩
theorem All2.snoc {P : Value → Int → Prop} {us : List Value} {xs : List Int} {v : Value} {x : Int} (h : All2 P us xs) (hv : P v x) : All2 P (us ++ [v]) (xs ++ [x]) := by
  refine ⟨by rw [List.length_append, List.length_append, h.1]; rfl, fun i y hy => ?_⟩
  by_cases hi : i < xs.length
  · rw [List.getElem?_append_left hi] at hy
    obtain ⟨u, e, q⟩ := h.2 i y hy
    exact ⟨u, by rw [List.getElem?_append_left (by rw [h.1]; exact hi)]; exact e, q⟩
  · have hl : i < (xs ++ [x]).length := (List.getElem?_eq_some_iff.mp hy).1
    rw [List.length_append, List.length_singleton] at hl
    obtain rfl : i = xs.length := by lia
    have e : y = x := by simpa using hy.symm
    subst e
    refine ⟨v, ?_, hv⟩
    rw [← h.1]
    simp
theorem RkTups.snoc {nw nw' : List (Addr × Obj)} {us : List Value} {xs : List Int} {v : Value} {x : Int} (h : RkTups nw us xs) (hs : ∀ p ∈ nw, p ∈ nw') (hv : RkTup nw' v x) : RkTups nw' (us ++ [v]) (xs ++ [x]) :=
  All2.snoc (P := RkTup nw') (h.mono hs) hv
theorem compEnd_two {s₁ s₂ : Shared} {h₀ h : Heap} {L I C D t r : Addr} {oI oC oD ot orr : Obj} {m : Str → Option Value} {nw : List (Addr × Obj)} {S : List (Addr × Obj) → Prop} {rel : Value → List (Addr × Obj) → Prop} {y : Value} {tk : Nat}
    (F : Fr h₀ L h m) (N : News h₀ L h ((t, ot) :: (r, orr) :: (I, oI) :: (C, oC) :: (D, oD) :: nw)) (off : Off3 I C D nw) (h1 : t ≠ I ∧ t ≠ C ∧ t ≠ D) (h2 : r ≠ I ∧ r ≠ C ∧ r ≠ D) (e : s₂ = { s₁ with heap := h, toks := tk })
    (hS : S ((t, ot) :: (r, orr) :: nw)) (hr : rel y ((t, ot) :: (r, orr) :: nw)) : CompEnd h₀ L m s₁ I oI C oC D oD S rel y s₂ := by
  refine ⟨h, tk, (t, ot) :: (r, orr) :: nw, e, F, fun p hp => ?_, Off3.of fun p hp => ?_, hS, hr⟩
  · rcases List.mem_cons.mp hp with q | hp
    · exact N _ (q ▸ .tail _ (.tail _ (.head _)))
    · rcases List.mem_cons.mp hp with q | hp
      · exact N _ (q ▸ .tail _ (.tail _ (.tail _ (.head _))))
      · rcases List.mem_cons.mp hp with q | hp
        · exact N _ (q ▸ .tail _ (.tail _ (.tail _ (.tail _ (.head _)))))
        · rcases List.mem_cons.mp hp with q | hp
          · exact N _ (q ▸ .head _)
          · rcases List.mem_cons.mp hp with q | hp
            · exact N _ (q ▸ .tail _ (.head _))
            · exact N _ (.tail _ (.tail _ (.tail _ (.tail _ (.tail _ hp)))))
  · rcases List.mem_cons.mp hp with q | hp
    · rw [q]; exact h1
    · rcases List.mem_cons.mp hp with q | hp
      · rw [q]; exact h2
      · exact off.mem p hp
theorem alone_call {w : World} {A : Around} {s : Shared} {h₀ : Heap} {L : Addr} {m : Str → Option Value} {news : List (Addr × Obj)} {R : Result → Shared → Prop} {a b : Addr} {vs ws : List Value} {ns ms : List Int} {n k : Nat}
    (C : Env0 w A h₀ L) (F : Fr h₀ L s.heap m) (N : News h₀ L s.heap news) (hroom : A.depth + 6 < recursionLimit) (ha : (a, listOf vs.toArray n) ∈ news) (hb : (b, listOf ws.toArray k) ∈ news) (hi : IntsAre vs ns) (hj : IntsAre ws ms) (hr : ∀ x ∈ ns, 0 ≤ x ∧ x < 16777216) (hz : ns.length < 64) (hzm : ms.length ≤ 1000) (hun : A.units + 20 < cLine)
    (h : ∀ h' r (us : List Value) xs k tk, All2 OctV us xs → xs.Perm (aloneTo ns ms ns.length) → xs.Pairwise (fun a b => K64 a < K64 b) → (∀ p ∈ news, p.1 ≠ r) → Fr h₀ L h' m → News h₀ L h' ((r, listOf us.toArray k) :: news) → R (.ok (.ret (.ref r))) { s with heap := h', toks := tk }) :
    codeAny (model PySem.Challenge.rw_pa0042_01.row.prog w) A (.call (.ref 166) ⟨[.ref a, .ref b], []⟩) R s := by
  have X₀ := C.X; revert X₀; k_fill; intro X₀
  obtain ⟨hdl, dep, frs, gds, unt⟩ := A
  have hH : hdl = none := C.H
  subst hH
  replace hroom : dep + 6 < recursionLimit := hroom
  refine' enterC (binds := [(Str.ofString "one", .ref a), (Str.ofString "other", .ref b)]) C F N ?k6 ?k7 ?kr ?k9 ?kB ?kD ?_ ?c2 ?c3 ?c4
  (case k6 => k_is)
  (case k7 => k_is)
  (case kr => (show dep < recursionLimit; lia))
  (case k9 => first | exact BindsTo.of_eq rfl | exact binds_K (by k_in) rfl (by k_is) rfl rfl rfl)
  (case kB => exact rfl)
  (case kD => decide +kernel)
  (case c2 => exact rfl)
  (case c3 => exact rfl)
  (case c4 => exact rfl)
  k_whole
  clear F N C X₀
  intro g L' h₁ tk' cells' C' F' N' Y' l1
  k_cells Y'
  (try simp only [List.cons_append, List.nil_append] at N')
  have X' := C'.X
  obtain ⟨_, _, _, mg, mb, T'⟩ := C'.T
  try dsimp only
  walk1
  refine LCt.Assign_ListComp_T (F₀ := by k_asm) (by rfl) (by with_unfolding_all rfl) (by with_unfolding_all rfl) (by decide) (by rfl) (by decide) (by rfl) (by rfl) (by rfl) ?_
  repeat' ((fail_if_success (with_reducible show wpAny _ _ (call (Value.builtin "len") _) _ _ _)); first | ((first | ((with_reducible show wpAny _ _ (call (Value.ref _) _ _) _ _ _); first | (refine wpAny_call (octets_call (by assumption) (by k_asm) (by k_asm) (by simp only [depth_deeper]; lia) ?_); intro _ _ _ _ _; (try dsimp only [List.map]); (try k_sweep)) | (refine wpAny_call (rank_call (by assumption) (by k_asm) (by k_asm) (by simp only [depth_deeper]; lia) (by lia) (by lia) ?_); intro _ _ _ _ _ _ _ _ _; (try dsimp only [List.map]); (try k_sweep)))); try dsimp only) | (walk1; try dsimp only) | (dsimp only; walk1))
  refine len_K9 N' (.tail _ (.tail _ ha)) (by rw [hi.length]; lia) fun tl tk1 => ?_
  rw [hi.length]
  repeat' ((fail_if_success (with_reducible show wpAny _ _ (call (Value.type "range") _) _ _ _)); first | ((first | ((with_reducible show wpAny _ _ (call (Value.ref _) _ _) _ _ _); first | (refine wpAny_call (octets_call (by assumption) (by k_asm) (by k_asm) (by simp only [depth_deeper]; lia) ?_); intro _ _ _ _ _; (try dsimp only [List.map]); (try k_sweep)) | (refine wpAny_call (rank_call (by assumption) (by k_asm) (by k_asm) (by simp only [depth_deeper]; lia) (by lia) (by lia) ?_); intro _ _ _ _ _ _ _ _ _; (try dsimp only [List.map]); (try k_sweep)))); try dsimp only) | (walk1; try dsimp only) | (dsimp only; walk1))
  refine range1_rows F' N' fun h2 tk2 t1 u1 v1 hrg F2 N2 _ => ?_
  refine CompSrcT.range rfl F2 N2 hrg (small_k hz) (size_k ns.length) (by rw [sizeLine_eq]; lia) fun g2 => ?_
  refine comp_invT (n := ns.length) (fun i ys nw => nw = _ ∧ IntsAre ys (aloneTo ns ms i)) ?turn ?fin ns.length 0 [] _ (by lia) ⟨rfl, .nil⟩
  case turn =>
    rintro i ys nw hlt ⟨rfl, hY⟩ v I oI Cc oC D m₂ h3 tk3 ⟨tv, hP⟩ hC hx F3 N3 off ne
    obtain rfl : v = .int i tv := by rw [hP, Int.zero_add]
    clear F' N' F2 N2 hP hrg
    obtain ⟨tx, hxv⟩ := hi.get i ns[i] (List.getElem?_eq_getElem hlt)
    have hxi : ns[i]? = some ns[i] := List.getElem?_eq_getElem hlt
    have hmx : ns[i] ∈ ns := List.getElem_mem hlt
    generalize ns[i] = x at hxv hxi hmx
    have hga := (N3 _ (.tail _ (.tail _ (.tail _ (.tail _ (.tail _ ha)))))).1
    have hgb := (N3 _ (.tail _ (.tail _ (.tail _ (.tail _ (.tail _ hb)))))).1
    repeat' ((fail_if_success (with_reducible show wpAny _ _ (subscriptTail _ _ _ _) _ _ _)); first | ((first | ((with_reducible show wpAny _ _ (call (Value.ref _) _ _) _ _ _); first | (refine wpAny_call (octets_call (by assumption) (by k_asm) (by k_asm) (by simp only [depth_deeper]; lia) ?_); intro _ _ _ _ _; (try dsimp only [List.map]); (try k_sweep)) | (refine wpAny_call (rank_call (by assumption) (by k_asm) (by k_asm) (by simp only [depth_deeper]; lia) (by lia) (by lia) ?_); intro _ _ _ _ _ _ _ _ _; (try dsimp only [List.map]); (try k_sweep)))); try dsimp only) | (walk1; try dsimp only) | (dsimp only; walk1))
    refine item_listL (PySem.IsL.isList (n := n) hga) (by lia) (by lia) hxv ?_ (by with_unfolding_all rfl) (by intro _; with_unfolding_all rfl)
    repeat' ((fail_if_success (with_reducible show wpAny _ _ (compareOp CmpOp.NotIn _ _) _ _ _)); first | ((first | ((with_reducible show wpAny _ _ (call (Value.ref _) _ _) _ _ _); first | (refine wpAny_call (octets_call (by assumption) (by k_asm) (by k_asm) (by simp only [depth_deeper]; lia) ?_); intro _ _ _ _ _; (try dsimp only [List.map]); (try k_sweep)) | (refine wpAny_call (rank_call (by assumption) (by k_asm) (by k_asm) (by simp only [depth_deeper]; lia) (by lia) (by lia) ?_); intro _ _ _ _ _ _ _ _ _; (try dsimp only [List.map]); (try k_sweep)))); try dsimp only) | (walk1; try dsimp only) | (dsimp only; walk1))
    refine notin_list_ints (PySem.IsL.isList (n := k) hgb) hj ?_
    by_cases hin : x ∈ ms
    · rw [any_true hin]
      repeat' (first | ((first | ((with_reducible show wpAny _ _ (call (Value.ref _) _ _) _ _ _); first | (refine wpAny_call (octets_call (by assumption) (by k_asm) (by k_asm) (by simp only [depth_deeper]; lia) ?_); intro _ _ _ _ _; (try dsimp only [List.map]); (try k_sweep)) | (refine wpAny_call (rank_call (by assumption) (by k_asm) (by k_asm) (by simp only [depth_deeper]; lia) (by lia) (by lia) ?_); intro _ _ _ _ _ _ _ _ _; (try dsimp only [List.map]); (try k_sweep)))); try dsimp only) | (walk1; try dsimp only) | (dsimp only; walk1))
      exact ⟨_, _, _, rfl, F3, N3, off, trivial, rfl, by rw [alone_skip hxi (.inl hin)]; exact hY⟩
    · rw [any_false hin]
      repeat' ((fail_if_success (with_reducible show wpAny _ _ (subscriptTail _ _ _ _) _ _ _)); first | ((first | ((with_reducible show wpAny _ _ (call (Value.ref _) _ _) _ _ _); first | (refine wpAny_call (octets_call (by assumption) (by k_asm) (by k_asm) (by simp only [depth_deeper]; lia) ?_); intro _ _ _ _ _; (try dsimp only [List.map]); (try k_sweep)) | (refine wpAny_call (rank_call (by assumption) (by k_asm) (by k_asm) (by simp only [depth_deeper]; lia) (by lia) (by lia) ?_); intro _ _ _ _ _ _ _ _ _; (try dsimp only [List.map]); (try k_sweep)))); try dsimp only) | (walk1; try dsimp only) | (dsimp only; walk1))
      refine item_listL (PySem.IsL.isList (n := n) hga) (by lia) (by lia) hxv ?_ (by with_unfolding_all rfl) (by intro _; with_unfolding_all rfl)
      repeat' ((fail_if_success (with_reducible show wpAny _ _ (subscriptTail _ _ _ _) _ _ _)); first | ((first | ((with_reducible show wpAny _ _ (call (Value.ref _) _ _) _ _ _); first | (refine wpAny_call (octets_call (by assumption) (by k_asm) (by k_asm) (by simp only [depth_deeper]; lia) ?_); intro _ _ _ _ _; (try dsimp only [List.map]); (try k_sweep)) | (refine wpAny_call (rank_call (by assumption) (by k_asm) (by k_asm) (by simp only [depth_deeper]; lia) (by lia) (by lia) ?_); intro _ _ _ _ _ _ _ _ _; (try dsimp only [List.map]); (try k_sweep)))); try dsimp only) | (walk1; try dsimp only) | (dsimp only; walk1))
      refine slice_list (s := ⟨h3, s.gens, s.drawn, tk3, s.os⟩) F3 N3 (PySem.IsL.isList (n := n) hga) (by constructor) (by constructor) (fun h4 F4 N4 => ?_) (by with_unfolding_all rfl) (by intro _; with_unfolding_all rfl) (by rw [List.size_toArray, hi.length, sizeLine_eq]; lia)
      repeat' ((fail_if_success (with_reducible show wpAny _ _ (compareOp CmpOp.NotIn _ _) _ _ _)); first | ((first | ((with_reducible show wpAny _ _ (call (Value.ref _) _ _) _ _ _); first | (refine wpAny_call (octets_call (by assumption) (by k_asm) (by k_asm) (by simp only [depth_deeper]; lia) ?_); intro _ _ _ _ _; (try dsimp only [List.map]); (try k_sweep)) | (refine wpAny_call (rank_call (by assumption) (by k_asm) (by k_asm) (by simp only [depth_deeper]; lia) (by lia) (by lia) ?_); intro _ _ _ _ _ _ _ _ _; (try dsimp only [List.map]); (try k_sweep)))); try dsimp only) | (walk1; try dsimp only) | (dsimp only; walk1))
      refine notin_list_ints (vs := (slicePick vs.toArray none (some (i : Int)) none).toList) (by rw [Array.toArray_toList]; exact PySem.IsL.isList (n := 0) (N4 _ (.head _)).1) (slice_ints_uptoW hi (Int.natCast_nonneg i)) ?_
      rw [Int.toNat_natCast]
      have N5 : News _ _ h4 ((I, oI) :: (Cc, oC) :: (D, lst ys) :: (_, _) :: (_, _) :: news) := fun p hp => N4 p (.tail _ hp)
      clear F3 N3 N4 hga hgb
      have hga := (N5 _ (.tail _ (.tail _ (.tail _ (.tail _ (.tail _ ha)))))).1
      by_cases hin2 : x ∈ ns.take i
      · rw [any_true hin2]
        repeat' (first | ((first | ((with_reducible show wpAny _ _ (call (Value.ref _) _ _) _ _ _); first | (refine wpAny_call (octets_call (by assumption) (by k_asm) (by k_asm) (by simp only [depth_deeper]; lia) ?_); intro _ _ _ _ _; (try dsimp only [List.map]); (try k_sweep)) | (refine wpAny_call (rank_call (by assumption) (by k_asm) (by k_asm) (by simp only [depth_deeper]; lia) (by lia) (by lia) ?_); intro _ _ _ _ _ _ _ _ _; (try dsimp only [List.map]); (try k_sweep)))); try dsimp only) | (walk1; try dsimp only) | (dsimp only; walk1))
        exact ⟨_, _, _, rfl, F4, N5, off, trivial, rfl, by rw [alone_skip hxi (.inr hin2)]; exact hY⟩
      · rw [any_false hin2]
        repeat' ((fail_if_success (with_reducible show wpAny _ _ (subscriptTail _ _ _ _) _ _ _)); first | ((first | ((with_reducible show wpAny _ _ (call (Value.ref _) _ _) _ _ _); first | (refine wpAny_call (octets_call (by assumption) (by k_asm) (by k_asm) (by simp only [depth_deeper]; lia) ?_); intro _ _ _ _ _; (try dsimp only [List.map]); (try k_sweep)) | (refine wpAny_call (rank_call (by assumption) (by k_asm) (by k_asm) (by simp only [depth_deeper]; lia) (by lia) (by lia) ?_); intro _ _ _ _ _ _ _ _ _; (try dsimp only [List.map]); (try k_sweep)))); try dsimp only) | (walk1; try dsimp only) | (dsimp only; walk1))
        refine item_listL (PySem.IsL.isList (n := n) hga) (by lia) (by lia) hxv ?_ (by with_unfolding_all rfl) (by intro _; with_unfolding_all rfl)
        exact ⟨_, _, _, rfl, F4, N5, off, trivial, rfl, by rw [alone_add hxi (fun q => q.elim hin hin2)]; exact intsAre_snoc hY⟩
  case fin =>
    rintro ys nw ⟨rfl, hY⟩ D h3 tk3 F3 N3 off3
    clear F' N' F2 N2 hrg
    have hsub : ∀ x ∈ aloneTo ns ms ns.length, 0 ≤ x ∧ x < 16777216 := fun x hx => hr x (List.mem_of_mem_take (alone_mem hx))
    have hnd := alone_nodup (ns := ns) (ms := ms) ns.length
    have hln : (aloneTo ns ms ns.length).length ≤ ns.length := alone_len
    generalize aloneTo ns ms ns.length = as at h hY hsub hnd hln
    repeat' ((fail_if_success (with_reducible show wpAny _ _ (eval (Expr.ListComp _ _ _ _) _) _ _ _)); first | ((first | ((with_reducible show wpAny _ _ (call (Value.ref _) _ _) _ _ _); first | (refine wpAny_call (octets_call (by assumption) (by k_asm) (by k_asm) (by simp only [depth_deeper]; lia) ?_); intro _ _ _ _ _; (try dsimp only [List.map]); (try k_sweep)) | (refine wpAny_call (rank_call (by assumption) (by k_asm) (by k_asm) (by simp only [depth_deeper]; lia) (by lia) (by lia) ?_); intro _ _ _ _ _ _ _ _ _; (try dsimp only [List.map]); (try k_sweep)))); try dsimp only) | (walk1; try dsimp only) | (dsimp only; walk1))
    refine LCp.ListComp_P (F₀ := F3) (by with_unfolding_all rfl) (by decide) (by rfl) (by decide) (by rfl) (by rfl) (by decide) ?_
    repeat' ((fail_if_success (with_reducible show wpAny _ _ (eval (Expr.ListComp _ _ _ _) _) _ _ _)); first | ((first | ((with_reducible show wpAny _ _ (call (Value.ref _) _ _) _ _ _); first | (refine wpAny_call (octets_call (by assumption) (by k_asm) (by k_asm) (by simp only [depth_deeper]; lia) ?_); intro _ _ _ _ _; (try dsimp only [List.map]); (try k_sweep)) | (refine wpAny_call (rank_call (by assumption) (by k_asm) (by k_asm) (by simp only [depth_deeper]; lia) (by lia) (by lia) ?_); intro _ _ _ _ _ _ _ _ _; (try dsimp only [List.map]); (try k_sweep)))); try dsimp only) | (walk1; try dsimp only) | (dsimp only; walk1))
    refine LCg.ListComp_U (F₀ := by k_asm) (by with_unfolding_all rfl) (by decide) (by rfl) (by decide) (by rfl) ?_
    repeat' ((fail_if_success (with_reducible show wpAny _ _ (eval (Expr.ListComp _ _ _ _) _) _ _ _)); first | ((first | ((with_reducible show wpAny _ _ (call (Value.ref _) _ _) _ _ _); first | (refine wpAny_call (octets_call (by assumption) (by k_asm) (by k_asm) (by simp only [depth_deeper]; lia) ?_); intro _ _ _ _ _; (try dsimp only [List.map]); (try k_sweep)) | (refine wpAny_call (rank_call (by assumption) (by k_asm) (by k_asm) (by simp only [depth_deeper]; lia) (by lia) (by lia) ?_); intro _ _ _ _ _ _ _ _ _; (try dsimp only [List.map]); (try k_sweep)))); try dsimp only) | (walk1; try dsimp only) | (dsimp only; walk1))
    refine CompSrc.ledger rfl F3 N3 (List.mem_cons_self ..) (by rw [sizeLine_eq, List.size_toArray, hY.length]; lia) fun g2 => ?_
    refine comp_inv (n := ys.toArray.size) (fun i zs nw => (∀ p ∈ _, p ∈ nw) ∧ RkTups nw zs (as.take i)) ?turn2 ?fin2 ys.toArray.size 0 [] _ (by lia) ⟨fun p hp => hp, rfl, fun i x hx => by simp at hx⟩
    case turn2 =>
      rintro i zs nw hi2 ⟨hsb, hZ⟩ v I oI Cc oC D2 m₂ h5 tk5 hP hC hx F5 N5 off ne
      have hlt : i < as.length := by rw [List.size_toArray, hY.length] at hi2; exact hi2
      obtain ⟨tv, hv⟩ := hY.get i as[i] (List.getElem?_eq_getElem hlt)
      obtain rfl : v = .int as[i] tv := Option.some.inj ((by simpa using hP : ys[i]? = some v).symm.trans hv)
      have hmem : as[i] ∈ as := List.getElem_mem hlt
      have hrx := hsub _ hmem
      have htk : as.take (i + 1) = as.take i ++ [as[i]] := take_snoc hlt
      generalize as[i] = x at hx hmem hrx htk
      clear F3 N3 hP hv
      repeat' (first | ((first | ((with_reducible show wpAny _ _ (call (Value.ref _) _ _) _ _ _); first | (refine wpAny_call (octets_call (by assumption) (by k_asm) (by k_asm) (by simp only [depth_deeper]; lia) ?_); intro _ _ _ _ _; (try dsimp only [List.map]); (try k_sweep)) | (refine wpAny_call (rank_call (by assumption) (by k_asm) (by k_asm) (by simp only [depth_deeper]; lia) (by lia) (by lia) ?_); intro _ _ _ _ _ _ _ _ _; (try dsimp only [List.map]); (try k_sweep)))); try dsimp only) | (walk1; try dsimp only) | (dsimp only; walk1))
      rename (News _ _ _ _) => N6
      rename (Fr _ _ _ _) => F6
      rename (IntsAre _ (List.map rk _)) => hrk
      rename (_ ∧ I < _ ∧ Cc < _ ∧ D2 < _ ∧ AllLt _ nw) => hl6
      rename (∀ p ∈ (I, oI) :: _, p.1 ≠ _) => hr6
      refine compEnd_two F6 N6 off ⟨Nat.ne_of_gt hl6.2.1, Nat.ne_of_gt hl6.2.2.1, Nat.ne_of_gt hl6.2.2.2.1⟩ ⟨Ne.symm (hr6 _ (.head _)), Ne.symm (hr6 _ (.tail _ (.head _))), Ne.symm (hr6 _ (.tail _ (.tail _ (.head _))))⟩ rfl (.inr ⟨_, .tail _ (.tail _ (hsb _ (List.mem_cons_self ..))), rfl, _, rfl⟩) ⟨fun p hp => .tail _ (.tail _ (hsb p hp)), ?_⟩
      rw [htk]
      exact hZ.snoc (fun p hp => .tail _ (.tail _ hp)) ⟨_, _, _, _, _, _, _, rfl, .head _, rfl, rfl, .tail _ (.head _), hrk⟩
    case fin2 =>
      rintro zs nw ⟨hsb, hZ⟩ D2 h5 tk5 F5 N5 off5
      clear F3 N3
      rw [List.size_toArray, hY.length, List.take_length] at hZ
      repeat' ((fail_if_success (with_reducible show wpAny _ _ (call (Value.builtin "sorted") _) _ _ _)); first | ((first | ((with_reducible show wpAny _ _ (call (Value.ref _) _ _) _ _ _); first | (refine wpAny_call (octets_call (by assumption) (by k_asm) (by k_asm) (by simp only [depth_deeper]; lia) ?_); intro _ _ _ _ _; (try dsimp only [List.map]); (try k_sweep)) | (refine wpAny_call (rank_call (by assumption) (by k_asm) (by k_asm) (by simp only [depth_deeper]; lia) (by lia) (by lia) ?_); intro _ _ _ _ _ _ _ _ _; (try dsimp only [List.map]); (try k_sweep)))); try dsimp only) | (walk1; try dsimp only) | (dsimp only; walk1))
      refine sorted_ranks (l := D2) F5 N5 (List.mem_cons_self ..) (hZ.mono fun p hp => .tail _ hp) hsub hnd (by lia) (by have q : unt + 20 < cLine := hun; show unt + 3 + 5 < cLine; lia) fun D3 out xs' c h6 hO hp hpw F6 N6 l6 => ?_
      clear F5 N5
      repeat' ((fail_if_success (with_reducible show wpAny _ _ (eval (Expr.ListComp _ _ _ _) _) _ _ _)); first | ((first | ((with_reducible show wpAny _ _ (call (Value.ref _) _ _) _ _ _); first | (refine wpAny_call (octets_call (by assumption) (by k_asm) (by k_asm) (by simp only [depth_deeper]; lia) ?_); intro _ _ _ _ _; (try dsimp only [List.map]); (try k_sweep)) | (refine wpAny_call (rank_call (by assumption) (by k_asm) (by k_asm) (by simp only [depth_deeper]; lia) (by lia) (by lia) ?_); intro _ _ _ _ _ _ _ _ _; (try dsimp only [List.map]); (try k_sweep)))); try dsimp only) | (walk1; try dsimp only) | (dsimp only; walk1))
      refine SrcLP.ledger rfl F6 N6 (List.mem_cons_self ..) (by rw [sizeLine_eq, List.size_toArray, hO.1, hp.length_eq]; lia) fun g3 => ?_
      refine comp_invP (n := (List.toArray out).size) (fun i us nw => nw = _ ∧ All2 OctV us (xs'.take i)) ?turn3 ?fin3 (List.toArray out).size 0 [] _ (by lia) ⟨rfl, rfl, fun i x hx => by simp at hx⟩
      case turn3 =>
        rintro i us nw2 hi3 ⟨rfl, hU⟩ v hP
        have hlt : i < xs'.length := by rw [List.size_toArray, hO.1] at hi3; exact hi3
        obtain ⟨v', hv', t, o, r, zr, kr, ur, nt, hvt, hmt, hct, hdt, -, -⟩ := hO.2 i xs'[i] (List.getElem?_eq_getElem hlt)
        obtain rfl : v = v' := Option.some.inj ((by simpa using hP : out[i]? = some v).symm.trans hv')
        refine ⟨t, o, _, _, nt, hvt, .tail _ hmt, hct, hdt, ?_⟩
        have htk : xs'.take (i + 1) = xs'.take i ++ [xs'[i]] := take_snoc hlt
        generalize xs'[i] = x at htk
        clear F6 N6 hP hv' hdt
        intro I oI Cc oC D4 m₂ h7 tk7 hC hx1 hx2 F7 N7 off7 ne7
        repeat' (first | ((first | ((with_reducible show wpAny _ _ (call (Value.ref _) _ _) _ _ _); first | (refine wpAny_call (octets_call (by assumption) (by k_asm) (by k_asm) (by simp only [depth_deeper]; lia) ?_); intro _ _ _ _ _; (try dsimp only [List.map]); (try k_sweep)) | (refine wpAny_call (rank_call (by assumption) (by k_asm) (by k_asm) (by simp only [depth_deeper]; lia) (by lia) (by lia) ?_); intro _ _ _ _ _ _ _ _ _; (try dsimp only [List.map]); (try k_sweep)))); try dsimp only) | (walk1; try dsimp only) | (dsimp only; walk1))
        rename (News _ _ _ _) => N8
        rename (Fr _ _ _ _) => F8
        refine ⟨_, _, _, rfl, F8, N8, off7, .inr ⟨_, .head _, rfl, _, rfl⟩, rfl, ?_⟩
        rw [htk]
        exact hU.snoc ⟨_, rfl⟩
      case fin3 =>
        rintro us nw2 ⟨rfl, hU⟩ D4 h7 tk7 F7 N7 off7
        clear F6 N6
        rw [List.size_toArray, hO.1, List.take_length] at hU
        repeat' (first | ((first | ((with_reducible show wpAny _ _ (call (Value.ref _) _ _) _ _ _); first | (refine wpAny_call (octets_call (by assumption) (by k_asm) (by k_asm) (by simp only [depth_deeper]; lia) ?_); intro _ _ _ _ _; (try dsimp only [List.map]); (try k_sweep)) | (refine wpAny_call (rank_call (by assumption) (by k_asm) (by k_asm) (by simp only [depth_deeper]; lia) (by lia) (by lia) ?_); intro _ _ _ _ _ _ _ _ _; (try dsimp only [List.map]); (try k_sweep)))); try dsimp only) | (walk1; try dsimp only) | (dsimp only; walk1))
        have hne := off1_ne off7
        refine leaveK_ (news' := (D4, listOf us.toArray us.length) :: news) F7 (fun p hp => ?_) fun F8 N8 => h _ _ us xs' _ _ hU hp hpw (fun p hp => hne p (.tail _ (.tail _ (hsb p (.tail _ (.tail _ (.tail _ hp))))))) F8 N8
        rcases List.mem_cons.mp hp with q | q
        · exact q ▸ N7 _ (List.mem_cons_self ..)
        · exact N7 p (.tail _ (.tail _ (.tail _ (hsb p (.tail _ (.tail _ (.tail _ q)))))))
end Mine
namespace Mine
open PySem PySem.W PyProof.Rows PySem.Calls PySem.Spec
section
variable {prog : Program} {w : World} {A A₀ : Around} {E : Value → Shared → Prop} {s s' : Shared} {h₀ h : Heap} {L L' a e e1 : Addr} {m : Str → Option Value} {news : List (Addr × Obj)} {X : String} {name : Str} {scope : Scope} {cd fl : Value} {oL : Obj}
open TI TLg
/-- a new exception whose context may be set -/
structure NewX (h h' : Heap) (e : Addr) (cls : String) : Prop where
  keeps : ∀ b o, h.get? b = some o → h'.get? b = some o
  new : h.get? e = none
  there : ∃ ob vs a0, h'.get? e = some ob ∧ ob.cls = .type cls ∧ ob.data = .fields vs ∧ vs[1]? = some .none ∧ vs[0]? = some a0
theorem noted_ofX {env : Env} {Q : Unit → Shared → Prop} {new : List (Addr × Obj)}
    (hfr : A₀.frames = some [env]) (Fs : Frs [env] [(L, oL)]) (hx : NewX h s'.heap e X) (F : Fr h₀ L' h m) (N : News h₀ L' h (new ++ [(L, oL)])) (hne : AllNe L new)
    (k : ∀ h' sl, Frs [env] [(L, { oL with slots := sl })] → TT.HeldN h₀ L' h' m e X (new ++ [(L, { oL with slots := sl })]) → Q () { s' with heap := h' }) (hk : scope.kind = .function := by rfl) :
    wpAny (model prog w) (A₀.deeper (envOf name scope L' a cd)) (noteFrame (.ref e) (envOf name scope L' a cd)) Q E s' := by
  obtain ⟨ob, vs, a0, he, hcls, hd, h1, h0⟩ := hx.there
  have hap : ∀ p ∈ new, p.1 ∉ L' :: [(L, oL)].map (·.1) := fun p hp hm => by
    rcases List.mem_cons.mp hm with q | hm
    · exact (N p (List.mem_append_left _ hp)).2.1 q
    · exact hne.mem p hp (List.mem_singleton.mp hm)
  obtain ⟨hff, hNs, frs₁, SU, ht⟩ := frames_at (name := name) (a := a) (cd := cd) (h' := s'.heap) (base := gone h (L' :: [(L, oL)].map (·.1))) hk Fs F N tail_sub (fun b o hb' => ⟨o.slots, hx.keeps b o hb'⟩) fun b hm => gone_none hm
  unfold noteFrame
  simp only [show (envOf name scope L' a cd).frame = some L' from rfl]
  refine wpAny_bind (wpAny_field he hd (x := .none) h1 ?_)
  rw [if_neg (by decide)]
  refine wpAny_entryW (a0 := a0) (Around.frames_deeper hfr) hff rfl he (fun b o eb => hx.keeps b o (gone_some eb).2) (none_of (fun b o eb => (gone_some eb).2) hx.new) hd (Array.getElem?_eq_some_iff.mp h1).1 h0 fun h' hN => ?_
  obtain ⟨frs₂, SU₂, Fs₂, H⟩ := held_of_notedA (X := X) Fs F N hap hNs SU ht hx.new (by rw [← hcls]; exact hN)
  obtain ⟨sl, rfl⟩ := one_up SU₂
  exact k h' sl Fs₂ H
theorem _root_.PySem.Heap.NewExc.x {h h' : Heap} {e : Addr} {cls : String} (x : Heap.NewExc h h' e cls) : NewX h h' e cls :=
  ⟨x.keeps, x.new, by obtain ⟨ob, t, he, hc, hd⟩ := x.there; exact ⟨ob, _, t, he, hc, hd, rfl, rfl⟩⟩
/-- noted already: nothing is done -/
theorem noted_again {M : Model} {Q : Unit → Shared → Prop} (H : TT.HeldN h₀ L' s.heap m e X news) (k : Q () s) : wpAny M A (noteFrame (.ref e) (envOf name scope L' a cd)) Q E s := by
  obtain ⟨⟨F, ⟨ob, vs, tb, otb, tvs, he, hcls, hd, h1, htb, htd, h3, htbL, htbe, htb0⟩, hf⟩, N, hap⟩ := H
  unfold noteFrame
  simp only [show (envOf name scope L' a cd).frame = some L' from rfl]
  refine wpAny_bind (wpAny_field he hd h1 ?_)
  rw [if_pos (by rfl)]
  refine wpAny_bind (wpAny_field htb htd h3 ?_)
  rw [if_pos (by simp)]
  exact wpAny_pure k
/-- set in flight at the frame -/
theorem flight_on {M : Model} {Q : Unit → Shared → Prop} (H : TT.HeldNA h₀ L' s.heap m e X news fl) (k : ∀ h', TT.HeldN h₀ L' h' m e X news → Q () { s with heap := h' }) : wpAny M A (setFlight (.ref e) (some L')) Q E s := by
  obtain ⟨⟨F, ⟨ob, vs, tb, otb, tvs, he, hcls, hd, h1, htb, htd, h3, htbL, htbe, htb0⟩, hf⟩, N, hap⟩ := H
  have hsz : 3 < tvs.size := (Array.getElem?_eq_some_iff.mp h3).1
  have happ := hap ob vs tb he hd h1
  obtain ⟨oL, esL, epL, hL, hLd, hLk, hLf⟩ := F.ns
  have he' := (Heap.get?_update_ne s.heap _ _ (Obj.mapFields (·.setIfInBounds 3 (rawInt L'))) htbe.symm).trans he
  have F' : Fr h₀ L' (s.heap.update tb (Obj.mapFields (·.setIfInBounds 3 (rawInt L')))) m :=
    ⟨⟨oL, esL, epL, (Heap.get?_update_ne _ _ _ _ htbL.symm).trans hL, hLd, hLk, hLf⟩,
     fun b o hb => (Heap.get?_update_ne _ _ _ _ (fun q => by rw [q, htb0] at hb; cases hb)).trans (F.keep b o hb), F.above⟩
  unfold setFlight
  refine wpAny_bind (wpAny_field he hd h1 ?_)
  rw [if_pos (show (Value.ref tb != Value.none) = true from by simp)]
  refine wpAny_setField htb htd hsz (k _ ⟨⟨F', ⟨ob, vs, tb, _, _, he', hcls, hd, h1,
    Heap.get?_update_self _ htb (Obj.isFreed_of_fields (Obj.data_mapFields htd _)), Obj.data_mapFields htd _, by simp [hsz], htbL, htbe, htb0⟩, hf⟩,
    fun p hp => ⟨(Heap.get?_update_ne _ _ _ _ (happ p hp)).trans (N p hp).1, (N p hp).2⟩, ?_⟩)
  intro ob' vs' tb' e1 e2 e3 p hp
  obtain rfl := Option.some.inj (he'.symm.trans e1)
  exact hap ob vs' tb' he e2 e3 p hp
theorem pass_on {α : Type} {M : Model} {what : String} {Q : α → Shared → Prop} (H : TT.HeldNA h₀ L' s.heap m e X news fl) (k : ∀ h', TT.HeldN h₀ L' h' m e X news → E (.ref e) { s with heap := h' }) :
    wpAny M A (PySem.passOn what (.ref e) (envOf name scope L' a cd)) Q E s := by
  obtain ⟨ob, vs, tb, otb, tvs, he, hcls, hd, h1, -⟩ := H.held.there
  unfold PySem.passOn
  refine wpAny_bind (wpAny_field he hd h1 ?_)
  rw [if_neg (by simp)]
  exact wpAny_bind (flight_on H fun h' H' => wpAny_throw (k h' H'))
theorem came_back {M : Model} (H : TT.HeldNA h₀ L' s.heap m e X news fl) (k : ∀ h', TT.HeldN h₀ L' h' m e X news → E (.ref e) { s with heap := h' }) :
    cameBackBy M A (envOf name scope L' a cd) E (.ref e) s := by
  obtain ⟨ob, vs, tb, otb, tvs, he, hcls, hd, h1, -⟩ := H.held.there
  unfold cameBackBy
  refine wpAny_bind (wpAny_field he hd h1 ?_)
  rw [if_neg (by simp)]
  exact flight_on H k
theorem entry_unchain : entryFor table "proto.unchain" = some Builtin.«proto.unchain» := entryFor_of_fast (by kernel_rfl)
theorem plain_unchain : plainId "proto.unchain" = true := by decide +kernel
/-- a new exception raised while another is handled -/
theorem raise_ctx {α : Type} {t : Addr} {o1 ob : Obj} {vs1 : Array Value} {Q : α → Shared → Prop} (hh : A.handled = some (.ref e1)) (hne : e1 ≠ e)
    (h1 : s.heap.get? e1 = some o1) (hd1 : o1.data = .fields vs1) (hc1 : vs1[2]? = some .none) (he : s.heap.get? e = some ob) (hd : ob.data = .fields #[.ref t, .none, .none, .none, .bool false, .none])
    (h : E (.ref e) { s with heap := s.heap.update e (Obj.mapFields (·.setIfInBounds 2 (.ref e1))) }) : wpAny (model prog w) A (raiseNew (.ref e) : Sem α) Q E s := by
  unfold raiseNew
  refine wpAny_bind (wpAny_handled ?_)
  rw [hh]
  dsimp only
  rw [if_pos (by simpa using hne)]
  refine wpAny_bind (wpAny_holding ?_)
  refine wpAny_runValue (codeAny_builtin entry_unchain ?_)
  show wpAny _ _ (field (.ref e1) 2 >>= _) _ _ s
  refine wpAny_bind (wpAny_field h1 hd1 hc1 ?_)
  rw [if_pos (show (Value.none == Value.none) = true by decide)]
  refine wpAny_pure ?_
  show wpAny _ _ (updateField e 2 (.ref e1) >>= fun _ => throw (.ref e)) _ _ _
  refine wpAny_bind ?_
  unfold updateField
  refine wpAny_bind (wpAny_load he ?_)
  rw [hd]
  dsimp only
  rw [if_pos (by simp)]
  exact wpAny_update he (wpAny_throw h)
theorem raise_words {α : Type} {cls msg : String} {o1 : Obj} {vs1 : Array Value} {Q : α → Shared → Prop} (hp : PlainExc cls) (hh : A.handled = some (.ref e1)) (h1 : s.heap.get? e1 = some o1) (hd1 : o1.data = .fields vs1) (hc1 : vs1[2]? = some .none)
    (hE : ∀ h' tk e, NewX s.heap h' e cls → E (.ref e) { s with heap := h', toks := tk }) : wpAny (model prog w) A (raiseErrorWords cls msg : Sem α) Q E s := by
  unfold raiseErrorWords
  refine wpAny_bind (wpAny_mkText (wpAny_bind (wpAny_newExc_plain hp (fun h' e M => ?_) (by rw [sizeLine_eq]; show 1 ≤ 16777216; decide))))
  obtain ⟨t, ht, _, _⟩ := M.there
  have hne : e1 ≠ e := fun q => by
    have h2 := M.new
    rw [← q] at h2
    exact absurd (h1.symm.trans h2) (by simp)
  refine raise_ctx (t := t) hh hne (M.keeps _ _ h1) hd1 hc1 ht rfl (hE _ _ e ⟨fun b o hb => ?_, M.new, ?_⟩)
  · refine (Heap.get?_update_ne _ _ _ _ (fun q => ?_)).trans (M.keeps b o hb)
    have h2 := M.new
    rw [← q] at h2
    exact absurd (hb.symm.trans h2) (by simp)
  · exact ⟨_, _, .ref t, Heap.get?_update_self _ ht rfl, rfl, rfl, by simp, by simp⟩
theorem getItem_outC {l : Addr} {items : Array Value} {k : Int} {u : Tok} {o1 : Obj} {vs1 : Array Value} {Q : Value → Shared → Prop} (hh : A.handled = some (.ref e1)) (h1 : s.heap.get? e1 = some o1) (hd1 : o1.data = .fields vs1) (hc1 : vs1[2]? = some .none)
    (hl : s.heap.IsList l items) (hout : (items.size : Int) ≤ k) (hhi : k < 2 ^ 63) (hE : ∀ h' tk e, NewX s.heap h' e "IndexError" → E (.ref e) { s with heap := h', toks := tk }) :
    wpAny (model prog w) A (getItem (.ref l) (.int k u)) Q E s := by
  obtain ⟨o, ho, hc, ne, hd⟩ := id hl
  unfold getItem
  try with_reducible refine wpAny_holding ?_
  first | refine wpAny_bind (wpAny_pure ?_) | skip
  refine wpAny_bind (wpAny_sequenceKey hl.typeIs (by decide) ?_)
  refine wpAny_bind (wpAny_callSpecial?_slot (name := Str.ofString "__getitem__") hl.typeIs slot_list_getitem
    (wpAny_call_entry slot_list_getitem hl.typeIs entry_list_getitem ?_ (args_list_getitem _ _)))
  show wpAny _ _ (Builtin.List.listSubscript? (.int k u) >>= _) _ _ s
  refine wpAny_bind (wpAny_listSubscript_int (fitsIndex_both (by lia) hhi) ?_)
  clear hhi
  cases k with
  | negSucc j => exact absurd hout (by have := Int.negSucc_lt_zero j; lia)
  | ofNat j =>
    have hx : items[j]? = none := Array.getElem?_eq_none (by have : (items.size : Int) ≤ (j : Int) := hout; lia)
    show wpAny _ _ ((seqItemAt l j >>= fun r => pure (r.map (j, ·))) >>= _) _ _ s
    refine wpAny_bind (wpAny_bind (wpAny_seqItemAt ho hd (wpAny_pure ?_)))
    rw [hx]
    refine wpAny_bind (wpAny_rule ?_)
    exact wpAny_bind (raise_words plainExc_IndexError hh h1 hd1 hc1 hE)
theorem item_outC {value slice : PySem.Expr} {l : Addr} {items : Array Value} {k : Int} {u : Tok} {o1 : Obj} {vs1 : Array Value} {Q : Value → Shared → Prop} (hh : A.handled = some (.ref e1)) (h1 : s.heap.get? e1 = some o1) (hd1 : o1.data = .fields vs1) (hc1 : vs1[2]? = some .none)
    (hl : s.heap.IsList l items) (hout : (items.size : Int) ≤ k) (hhi : k < 2 ^ 63) (hE : ∀ h' tk e, NewX s.heap h' e "IndexError" → E (.ref e) { s with heap := h', toks := tk })
    (hs : subscripted slice false (.ref l) (.int k u) = operate [.ref l, .int k u] (getItem (.ref l) (.int k u)) := by with_unfolding_all rfl) :
    wpAny (model prog w) A (subscriptTail value slice (.ref l) (.int k u)) Q E s :=
  tail_any hl.typeIs slot_list_getitem.lookup (getItem_outC hh h1 hd1 hc1 hl hout hhi hE) hs
end
end Mine
namespace Mine
open PySem PySem.W PyProof.Rows PySem.Calls
noncomputable def diffGo : Nat → List Value → List Value → List Value × List Value
  | 0, xs, ys => (xs, ys)
  | _ + 1, [], ys => ([], ys)
  | _ + 1, x :: xs, [] => (x :: xs, [])
  | f + 1, x :: xs, y :: ys =>
    if vn x < vn y then let r := diffGo f (xs.dropWhile fun z => vn z == vn x) (y :: ys); (x :: r.1, r.2)
    else if vn y < vn x then let r := diffGo f (x :: xs) (ys.dropWhile fun z => vn z == vn y); (r.1, y :: r.2)
    else diffGo f (xs.dropWhile fun z => vn z == vn x) (ys.dropWhile fun z => vn z == vn y)
theorem dropWhile_le {α : Type} (p : α → Bool) : ∀ l : List α, (l.dropWhile p).length ≤ l.length
  | [] => Nat.le_refl _
  | x :: l => by
    rw [List.dropWhile_cons]
    split
    · exact Nat.le_succ_of_le (dropWhile_le p l)
    · exact Nat.le_refl _
theorem diffGo_fuel : ∀ (f g : Nat) (xs ys : List Value), xs.length + ys.length ≤ f → xs.length + ys.length ≤ g → diffGo f xs ys = diffGo g xs ys
  | 0, 0, _, _, _, _ => rfl
  | 0, g + 1, [], [], _, _ => rfl
  | f + 1, 0, [], [], _, _ => rfl
  | 0, _ + 1, _ :: _, _, h, _ => by simp at h
  | 0, _ + 1, [], _ :: _, h, _ => by simp at h
  | _ + 1, 0, _ :: _, _, _, h => by simp at h
  | _ + 1, 0, [], _ :: _, _, h => by simp at h
  | _ + 1, _ + 1, [], _, _, _ => rfl
  | _ + 1, _ + 1, _ :: _, [], _, _ => rfl
  | f + 1, g + 1, x :: xs, y :: ys, hf, hg => by
    have a := dropWhile_le (fun z => vn z == vn x) xs
    have b := dropWhile_le (fun z => vn z == vn y) ys
    simp only [List.length_cons] at hf hg
    simp only [diffGo]
    rw [diffGo_fuel f g (xs.dropWhile fun z => vn z == vn x) (y :: ys) (by simp only [List.length_cons]; lia) (by simp only [List.length_cons]; lia),
      diffGo_fuel f g (x :: xs) (ys.dropWhile fun z => vn z == vn y) (by simp only [List.length_cons]; lia) (by simp only [List.length_cons]; lia),
      diffGo_fuel f g (xs.dropWhile fun z => vn z == vn x) (ys.dropWhile fun z => vn z == vn y) (by lia) (by lia)]
noncomputable def diffV (xs ys : List Value) : List Value × List Value := diffGo (xs.length + ys.length) xs ys
theorem diffV_nil (ys : List Value) : diffV [] ys = ([], ys) := by
  cases ys <;> rfl
theorem diffV_nil2 (xs : List Value) : diffV xs [] = (xs, []) := by
  cases xs <;> rfl
theorem diffV_lt {x y : Value} {xs ys : List Value} (h : vn x < vn y) : diffV (x :: xs) (y :: ys) = (x :: (diffV (xs.dropWhile fun z => vn z == vn x) (y :: ys)).1, (diffV (xs.dropWhile fun z => vn z == vn x) (y :: ys)).2) := by
  have a := dropWhile_le (fun z => vn z == vn x) xs
  unfold diffV
  rw [diffGo_fuel _ (xs.length + (ys.length + 1) + 1) (x :: xs) (y :: ys) (by lia) (by simp only [List.length_cons]; lia)]
  simp only [diffGo, if_pos h]
  rw [diffGo_fuel ((xs.dropWhile fun z => vn z == vn x).length + (y :: ys).length) (xs.length + (ys.length + 1)) (xs.dropWhile fun z => vn z == vn x) (y :: ys) (by lia) (by simp only [List.length_cons]; lia)]
theorem diffV_gt {x y : Value} {xs ys : List Value} (h : vn y < vn x) : diffV (x :: xs) (y :: ys) = ((diffV (x :: xs) (ys.dropWhile fun z => vn z == vn y)).1, y :: (diffV (x :: xs) (ys.dropWhile fun z => vn z == vn y)).2) := by
  have a := dropWhile_le (fun z => vn z == vn y) ys
  unfold diffV
  rw [diffGo_fuel _ (xs.length + (ys.length + 1) + 1) (x :: xs) (y :: ys) (by lia) (by simp only [List.length_cons]; lia)]
  simp only [diffGo, if_neg (show ¬ vn x < vn y by lia), if_pos h]
  rw [diffGo_fuel ((x :: xs).length + (ys.dropWhile fun z => vn z == vn y).length) (xs.length + (ys.length + 1)) (x :: xs) (ys.dropWhile fun z => vn z == vn y) (by lia) (by simp only [List.length_cons]; lia)]
theorem diffV_eq {x y : Value} {xs ys : List Value} (h : vn x = vn y) : diffV (x :: xs) (y :: ys) = diffV (xs.dropWhile fun z => vn z == vn x) (ys.dropWhile fun z => vn z == vn y) := by
  have a := dropWhile_le (fun z => vn z == vn x) xs
  have b := dropWhile_le (fun z => vn z == vn y) ys
  unfold diffV
  rw [diffGo_fuel _ (xs.length + (ys.length + 1) + 1) (x :: xs) (y :: ys) (by lia) (by simp only [List.length_cons]; lia)]
  simp only [diffGo, if_neg (show ¬ vn x < vn y by lia), if_neg (show ¬ vn y < vn x by lia)]
  rw [diffGo_fuel ((xs.dropWhile fun z => vn z == vn x).length + (ys.dropWhile fun z => vn z == vn y).length) (xs.length + (ys.length + 1)) (xs.dropWhile fun z => vn z == vn x) (ys.dropWhile fun z => vn z == vn y) (by lia) (by lia)]
/-- the run of equals from i on is skipped up to i' -/
structure Skip (xs : List Value) (q : Nat) (i i' : Nat) : Prop where
  le : i ≤ i'
  lim : i' ≤ xs.length
  eq : (xs.drop i).dropWhile (fun z => vn z == q) = (xs.drop i').dropWhile fun z => vn z == q
theorem Skip.refl {xs : List Value} {q i : Nat} (h : i ≤ xs.length) : Skip xs q i i := ⟨Nat.le_refl _, h, rfl⟩
theorem Skip.succ {xs : List Value} {q i i' : Nat} {v : Value} (h : Skip xs q i i') (hv : xs[i']? = some v) (e : vn v = q) : Skip xs q i (i' + 1) := by
  obtain ⟨hlt, rfl⟩ := List.getElem?_eq_some_iff.mp hv
  refine ⟨Nat.le_succ_of_le h.le, hlt, h.eq.trans ?_⟩
  rw [List.drop_eq_getElem_cons hlt, List.dropWhile_cons, if_pos (by simpa using e)]
theorem Skip.stop {xs : List Value} {q i i' : Nat} {v : Value} (h : Skip xs q i i') (hv : xs[i']? = some v) (e : vn v ≠ q) : (xs.drop i).dropWhile (fun z => vn z == q) = xs.drop i' := by
  obtain ⟨hlt, rfl⟩ := List.getElem?_eq_some_iff.mp hv
  rw [h.eq, List.drop_eq_getElem_cons hlt, List.dropWhile_cons, if_neg (by simpa using e)]
theorem Skip.out {xs : List Value} {q i : Nat} (h : Skip xs q i xs.length) : (xs.drop i).dropWhile (fun z => vn z == q) = [] := by
  rw [h.eq, List.drop_length]; rfl
end Mine
namespace Mine
open PySem PySem.W PyProof.Rows PySem.Calls
theorem diffGo_len : ∀ (f : Nat) (xs ys : List Value), (diffGo f xs ys).1.length ≤ xs.length ∧ (diffGo f xs ys).2.length ≤ ys.length
  | 0, xs, ys => ⟨Nat.le_refl _, Nat.le_refl _⟩
  | _ + 1, [], ys => ⟨Nat.le_refl _, Nat.le_refl _⟩
  | _ + 1, x :: xs, [] => ⟨Nat.le_refl _, Nat.le_refl _⟩
  | f + 1, x :: xs, y :: ys => by
    have a := dropWhile_le (fun z => vn z == vn x) xs
    have b := dropWhile_le (fun z => vn z == vn y) ys
    have c1 := diffGo_len f (xs.dropWhile fun z => vn z == vn x) (y :: ys)
    have c2 := diffGo_len f (x :: xs) (ys.dropWhile fun z => vn z == vn y)
    have c3 := diffGo_len f (xs.dropWhile fun z => vn z == vn x) (ys.dropWhile fun z => vn z == vn y)
    simp only [List.length_cons] at c1 c2 c3 ⊢
    simp only [diffGo]
    split
    · simp only [List.length_cons]; lia
    · split
      · simp only [List.length_cons]; lia
      · lia
theorem slice_from (xs : List Value) {i : Nat} (h : i ≤ xs.length) : slicePick xs.toArray (some (i : Int)) none none = (xs.drop i).toArray := by
  have e : sliceBounds (some (i : Int)) none none xs.toArray.size = ((i : Int), ((xs.toArray.size : Nat) : Int), 1) := by
    simp only [sliceBounds, Option.getD_none, show (1 : Int) > 0 by decide, if_true, if_neg (show ¬ ((i : Int) < 0) by lia)]
    rw [List.size_toArray]
    congr 1
    lia
  rw [kmk_pick_nat _ e]
  show ((xs.drop i).take (xs.toArray.size - i)).toArray = _
  rw [List.size_toArray, List.take_of_length_le (by rw [List.length_drop]; lia)]
section
variable {prog : Program} {w : World} {A : Around} {E : Value → Shared → Prop} {s : Shared} {h₀ : Heap} {L D b : Addr} {m : Str → Option Value} {news : List (Addr × Obj)} {vs zs : List Value} {n n2 : Nat}
theorem extend_any {g : Nat → List (Addr × Obj)} {Q : Value → Shared → Prop} (F : Fr h₀ L s.heap m) (N : News h₀ L s.heap news) (hb : (b, listOf zs.toArray n2) ∈ news) (U : ∀ c, Upd D (listOf vs.toArray n) (listOf (vs ++ zs).toArray c) news (g c))
    (h1 : vs.length ≤ 1000) (h2 : zs.length ≤ 1000) (h : ∀ c h', Fr h₀ L h' m → News h₀ L h' (g c) → Q .none { s with heap := h' }) : wpAny (model prog w) A (call (.builtin "list.extend") [.ref D, .ref b]) Q E s := by
  have hno : ¬(!vs.toArray.isEmpty && Builtin.List.listTooLong (vs.toArray.size + zs.toArray.size)) = true := by
    have : Builtin.List.listTooLong (vs.toArray.size + zs.toArray.size) = false := by
      unfold Builtin.List.listTooLong
      rw [List.size_toArray, List.size_toArray]
      simp
      have := sizeLine_eq
      lia
    rw [this]; simp
  by_cases hz : zs.length = 0
  · obtain rfl := List.eq_nil_of_length_eq_zero hz
    have U' := U n
    rw [List.append_nil] at U'
    exact kxn_extend F N hb rfl U' hno (by rw [sizeLine_eq]; show vs.length ≤ _; lia) (by rw [sizeLine_eq, List.size_toArray, List.size_toArray]; lia) (h n)
  · exact kl_extend (l := vs ++ zs) F N hb rfl hz (U (n + 1)) hno (by rw [sizeLine_eq]; show vs.length ≤ _; lia) (by rw [sizeLine_eq, List.size_toArray, List.size_toArray]; lia) (h (n + 1))
end
end Mine
namespace Mine
open PySem PySem.W PyProof.Rows PySem.Calls PySem.Spec
section
variable {M : Model} {A : Around} {E : Value → Shared → Prop} {s : Shared}
/-- the entry is written: as wpAny_entryW, and the context's field is kept -/
theorem entry_ctx {base : Heap} {env : Env} {outer : List Env} {L e : Addr} {oe : Obj} {vs : Array Value} {head a0 : Value} {hadNext : Bool} {Q : Unit → Shared → Prop}
    (hfr : A.frames = some (env :: outer)) (hl : s.heap.FunFrames base (env :: outer)) (hf : env.frame = some L)
    (he : s.heap.get? e = some oe) (hkb : base.StaysIn s.heap) (hen : base.get? e = none) (hd : oe.data = .fields vs) (hsz : 1 < vs.size) (h0 : vs[0]? = some a0)
    (h : ∀ h', Heap.NotedW base (env :: outer) e oe.cls a0 (rawInt L) s.heap h' → (∃ ob vs', h'.get? e = some ob ∧ ob.data = .fields vs' ∧ vs'[2]? = vs[2]?) → Q () { s with heap := h' }) :
    wpAny M A (do let a ← frameOf env; let pl ← entryPlaceOf L hadNext; let b ← EntryCells.newEntry head a .none (rawInt L) .none pl; setField (.ref e) 1 b) Q E s := by
  have hene : e ∉ (env :: outer).filterMap (·.frame) := fun hm => by
    obtain ⟨_, o, ho, hnf⟩ := hl.mem hm
    obtain rfl := Option.some.inj (he.symm.trans ho)
    exact hnf vs hd
  refine wpAny_bind (wpAny_frameOf_fun hfr hl hf fun h₁ hs₁ => ?_)
  refine wpAny_bind (wpAny_entryPlaceOf fun pl hpl => ?_)
  unfold EntryCells.newEntry newFields
  refine wpAny_bind (wpAny_newObj_type ?_ (hpl.sizeOk5 _ _ _ _ _))
  have he₁ : h₁.get? e = some oe := (hs₁.2.1 e hene).trans he
  have kb₁ : base.StaysIn h₁ := fun b o hbo => (hs₁.2.1 b fun hm => absurd ((hl.mem hm).1.symm.trans hbo) (by simp)).trans (hkb b o hbo)
  generalize hT : ({ cls := .type "traceback", dict := none, data := .fields ([head, .ref L, .none, rawInt L, .none] ++ (if pl.isEmpty then List.replicate 6 Value.none else pl)).toArray } : Obj) = oT
  have he₂ := Heap.get?_push_of_some (h := h₁) oT he₁
  have hTe : h₁.objs.size ≠ e := Nat.ne_of_gt (Heap.lt_size he₁)
  have hd₃ := Obj.data_mapFields hd (·.setIfInBounds 1 (Value.ref h₁.objs.size))
  have he₃ := Heap.get?_update_self (Obj.mapFields (·.setIfInBounds 1 (Value.ref h₁.objs.size))) he₂ (Obj.isFreed_of_fields hd₃)
  have hT₃ := (Heap.get?_update_other (h₁.push oT) (Obj.mapFields (·.setIfInBounds 1 (Value.ref h₁.objs.size))) (Ne.symm hTe)).trans (Heap.get?_push_size h₁ (by rw [← hT]; rfl))
  have keep : ∀ b o, b ≠ e → h₁.get? b = some o → ((h₁.push oT).update e (Obj.mapFields (·.setIfInBounds 1 (Value.ref h₁.objs.size)))).get? b = some o :=
    fun b o hbe hb => (Heap.get?_update_other _ _ (Ne.symm hbe)).trans (Heap.get?_push_of_some _ hb)
  have noRecord : ∀ b o, s.heap.get? b = some o → (∀ vs, o.data ≠ .fields vs) → b ≠ e := fun b o hb hnf q => by
    subst q
    obtain rfl := Option.some.inj (he.symm.trans hb)
    exact hnf vs hd
  have h3 : ∃ ts, oT.data = .fields ts ∧ ts[3]? = some (rawInt L) := by
    subst hT
    exact ⟨_, rfl, by first | (simp; done) | (rcases hpl with rfl | ⟨_, _, _, _, _, _, _, rfl⟩ <;> simp)⟩
  obtain ⟨ts, hts, h3⟩ := h3
  subst hT
  refine wpAny_setField he₂ hd hsz (h _ ⟨fun b o hbo => keep b o (fun q => absurd (hen.symm.trans (q ▸ hbo)) (by simp)) (kb₁ b o hbo), hl.of_keeps fun b o hb hnf => ?_, ?_, fun b o hb hnf => ?_⟩ ⟨_, _, he₃, hd₃, by rw [Array.getElem?_setIfInBounds_ne (by decide)]⟩)
  · obtain ⟨sl, hs⟩ := hs₁.2.2 b o hb
    exact ⟨_, keep b _ (noRecord b o hb hnf) hs, rfl⟩
  · exact ⟨_, _, h₁.objs.size, _, _, he₃, ⟨Obj.cls_mapFields _ _, by rw [Array.getElem?_setIfInBounds_ne (by decide)]; exact h0⟩, hd₃, by simp [hsz], kb₁.fresh, hTe, hT₃, hts, h3⟩
  · obtain ⟨sl, hs⟩ := hs₁.2.2 b o hb
    exact ⟨sl, keep b _ (noRecord b o hb hnf) hs⟩
end
section
variable {prog : Program} {w : World} {A A₀ : Around} {E : Value → Shared → Prop} {s s' : Shared} {h₀ h : Heap} {L L' a e tb : Addr} {m m' : Str → Option Value} {news : List (Addr × Obj)} {X : String} {name : Str} {scope : Scope} {cd fl : Value} {oL ob otb : Obj} {vs tvs : Array Value}
open TI TLg
theorem noted_ctx {env : Env} {Q : Unit → Shared → Prop} {new : List (Addr × Obj)}
    (hfr : A₀.frames = some [env]) (Fs : Frs [env] [(L, oL)]) (hx : Heap.NewExc h s'.heap e X) (F : Fr h₀ L' h m) (N : News h₀ L' h (new ++ [(L, oL)])) (hne : AllNe L new)
    (k : ∀ h' sl, TT.HeldN h₀ L' h' m e X (new ++ [(L, { oL with slots := sl })]) → (∃ ob vs, h'.get? e = some ob ∧ ob.data = .fields vs ∧ vs[2]? = some .none) → Q () { s' with heap := h' }) (hk : scope.kind = .function := by rfl) :
    wpAny (model prog w) (A₀.deeper (envOf name scope L' a cd)) (noteFrame (.ref e) (envOf name scope L' a cd)) Q E s' := by
  obtain ⟨ob, t, he, hcls, hd⟩ := hx.there
  have hap : ∀ p ∈ new, p.1 ∉ L' :: [(L, oL)].map (·.1) := fun p hp hm => by
    rcases List.mem_cons.mp hm with q | hm
    · exact (N p (List.mem_append_left _ hp)).2.1 q
    · exact hne.mem p hp (List.mem_singleton.mp hm)
  obtain ⟨hff, hNs, frs₁, SU, ht⟩ := frames_at (name := name) (a := a) (cd := cd) (h' := s'.heap) (base := gone h (L' :: [(L, oL)].map (·.1))) hk Fs F N tail_sub (fun b o hb' => ⟨o.slots, hx.keeps b o hb'⟩) fun b hm => gone_none hm
  unfold noteFrame
  simp only [show (envOf name scope L' a cd).frame = some L' from rfl]
  refine wpAny_bind (wpAny_field he hd (x := .none) rfl ?_)
  rw [if_neg (by decide)]
  refine entry_ctx (a0 := t) (Around.frames_deeper hfr) hff rfl he (fun b o eb => hx.keeps b o (gone_some eb).2) (none_of (fun b o eb => (gone_some eb).2) hx.new) hd (by show 1 < 6; decide) rfl fun h' hN hC => ?_
  obtain ⟨frs₂, SU₂, Fs₂, H⟩ := held_of_notedA (X := X) Fs F N hap hNs SU ht hx.new (by rw [← hcls]; exact hN)
  obtain ⟨sl, rfl⟩ := one_up SU₂
  exact k h' sl H hC
/-- what is known of a caught exception's two objects -/
structure ExcAt (X : String) (e tb : Addr) (ob otb : Obj) (vs tvs : Array Value) (news : List (Addr × Obj)) : Prop where
  cls : ob.cls = .type X
  dat : ob.data = .fields vs
  one : vs[1]? = some (.ref tb)
  ctx : vs[2]? = some .none
  tdat : otb.data = .fields tvs
  fl : tvs[3]? = some .none
  ne : tb ≠ e
  off : ∀ p ∈ news, p.1 ≠ tb
theorem land_led {M : Model} {Q : Unit → Shared → Prop} (H : TT.HeldNA h₀ L' s.heap m e X news fl) (hC : ∃ ob vs, s.heap.get? e = some ob ∧ ob.data = .fields vs ∧ vs[2]? = some .none)
    (k : ∀ h' ob vs tb otb tvs, Fr h₀ L' h' m → News h₀ L' h' ((e, ob) :: (tb, otb) :: news) → ExcAt X e tb ob otb vs tvs news → Q () { s with heap := h' }) : wpAny M A (setFlight (.ref e) none) Q E s := by
  obtain ⟨⟨F, ⟨ob, vs, tb, otb, tvs, he, hcls, hd, h1, htb, htd, h3, htbL, htbe, htb0⟩, hf⟩, N, hap⟩ := H
  have hsz : 3 < tvs.size := (Array.getElem?_eq_some_iff.mp h3).1
  have happ := hap ob vs tb he hd h1
  have hc2 : vs[2]? = some .none := by
    obtain ⟨ob', vs', e1, e2, e3⟩ := hC
    obtain rfl := Option.some.inj (he.symm.trans e1)
    rw [hd] at e2
    injection e2 with e2
    rw [e2]; exact e3
  obtain ⟨oL, esL, epL, hL, hLd, hLk, hLf⟩ := F.ns
  have heL : e ≠ L' := fun q => by
    rw [q] at he
    obtain rfl := Option.some.inj (he.symm.trans hL)
    rw [hd] at hLd
    cases hLd
  have he' := (Heap.get?_update_ne s.heap _ _ (Obj.mapFields (·.setIfInBounds 3 Value.none)) htbe.symm).trans he
  have F' : Fr h₀ L' (s.heap.update tb (Obj.mapFields (·.setIfInBounds 3 .none))) m :=
    ⟨⟨oL, esL, epL, (Heap.get?_update_ne _ _ _ _ htbL.symm).trans hL, hLd, hLk, hLf⟩,
     fun b o hb => (Heap.get?_update_ne _ _ _ _ (fun q => by rw [q, htb0] at hb; cases hb)).trans (F.keep b o hb), F.above⟩
  refine wpAny_setFlight_none he hd h1 htb htd hsz (k _ ob vs tb (Obj.mapFields (·.setIfInBounds 3 Value.none) otb) (tvs.setIfInBounds 3 Value.none) F' (fun p hp => ?_) ⟨hcls, hd, h1, hc2, Obj.data_mapFields htd _, by simp [hsz], htbe, happ⟩)
  rcases List.mem_cons.mp hp with rfl | hp
  · exact ⟨he', heL, hf⟩
  · rcases List.mem_cons.mp hp with rfl | hp
    · exact ⟨Heap.get?_update_self _ htb (Obj.isFreed_of_fields (Obj.data_mapFields htd _)), htbL, htb0⟩
    · exact ⟨(Heap.get?_update_ne _ _ _ _ (happ p hp)).trans (N p hp).1, (N p hp).2⟩
theorem held_back (F : Fr h₀ L' h m') (N : News h₀ L' h ((e, ob) :: (tb, otb) :: news)) (X' : ExcAt X e tb ob otb vs tvs news) : TT.HeldNA h₀ L' h m' e X news .none := by
  have n1 := N _ (.head _)
  have n2 := N _ (.tail _ (.head _))
  refine ⟨⟨F, ⟨ob, vs, tb, otb, tvs, n1.1, X'.cls, X'.dat, X'.one, n2.1, X'.tdat, X'.fl, n2.2.1, X'.ne, n2.2.2⟩, n1.2.2⟩, fun p hp => N p (.tail _ (.tail _ hp)), ?_⟩
  intro ob' vs' tb' e1 e2 e3 p hp
  obtain rfl := Option.some.inj (n1.1.symm.trans e1)
  rw [X'.dat] at e2
  injection e2 with e2
  rw [← e2, X'.one] at e3
  injection e3 with e3
  injection e3 with e3
  rw [← e3]
  exact X'.off p hp
end
end Mine
namespace Mine
open PySem PySem.W PyProof.Rows PySem.Calls
theorem ksw_one {prog : Program} {w : World} {A : Around} {E : Value → Shared → Prop} {s : Shared} {h₀ : Heap} {L : Addr} {env : Env} {Q : Flow → Shared → Prop} {test : Expr} {body : List Stmt} {pos : Pos} {m₀ : Str → Option Value}
    (nm : Str) (led : List (Addr × Obj)) (P : Nat → Prop) (lim i0 : Nat) {t0 : Tok} (hm : m₀ nm = some (.int i0 t0)) (F : Fr h₀ L s.heap m₀) (N : News h₀ L s.heap led) (hp : P i0)
    (turn : ∀ (i : Nat) (t : Tok) h tk, P i → Fr h₀ L h (kstB m₀ [(nm, .int i t)]) → News h₀ L h led →
      wpAny (model prog w) A (isTrue test env (eval test env)) (fun b s₂ =>
        if b = true then wpAny (model prog w) A (execs body env) (KswPost h₀ L s (fun _ : Nat × Tok => led) (fun c => [(nm, .int c.1 c.2)]) (fun _ => True) [] m₀ (fun c => P c.1) (fun c => lim - c.1) Q (i, t)) E s₂ else Q .next s₂) E { s with heap := h, toks := tk })
    (hE : PassesOwn (model prog w) A env E) :
    wpAny (model prog w) A (exec (.While test body [] pos) env) Q E s := by
  refine ksw_while (σ := Nat × Tok) (fun _ => led) (fun c => [(nm, .int c.1 c.2)]) (fun _ => True) [] (fun c => P c.1) (fun c => lim - c.1) (i0, t0) F N trivial (List.forall_mem_cons.mpr ⟨hm, List.forall_mem_nil _⟩) hp (fun c u h tk _ hp F N => ?_) hE
  exact turn c.1 c.2 h tk hp F N

/-- the loop that passes over equals, wherever it stands -/
theorem skip_loop {prog : Program} {w : World} {A : Around} {E : Value → Shared → Prop} {s : Shared} {h₀ : Heap} {L : Addr} {name : Str} {scope : Scope} {f : Addr} {cd : Value} {Q : Flow → Shared → Prop} {m₀ : Str → Option Value}
    {lst idx el : Str} {p1 p2 p3 p4 p5 p6 p7 p8 p9 : Pos} {k : Nat} {led : List (Addr × Obj)} {x : Addr} {xs : List Value} {n i0 : Nat} {t0 : Tok} {b : Array UInt8} {tb : Tok} {K : Params → Frag}
    (X : (K w.params).In h₀) (hh : A.handled = none) (hk : scope.kind = .function)
    (k1 : (envOf name scope L f cd).kindOf lst = some .local) (k2 : (envOf name scope L f cd).kindOf idx = some .local) (k3 : (envOf name scope L f cd).kindOf el = some .local)
    (d1 : (lst == ("__debug__" : Str)) = false) (d2 : (idx == ("__debug__" : Str)) = false) (d3 : (el == ("__debug__" : Str)) = false) (n1 : lst ≠ idx) (n2 : el ≠ idx)
    (F : Fr h₀ L s.heap m₀) (N : News h₀ L s.heap led) (hx : (x, listOf xs.toArray n) ∈ led) (hB : AllBy xs) (hz : xs.length ≤ 100)
    (ml : m₀ lst = some (.ref x)) (mi : m₀ idx = some (.int i0 t0)) (me : m₀ el = some (.bytes b tb)) (hb : b.toList.length = 4) (hi0 : i0 ≤ xs.length)
    (out : ∀ h ti h7 tk7 e, Skip xs (num b.toList) i0 xs.length → Fr h₀ L h (kstB m₀ [(idx, .int xs.length ti)]) → News h₀ L h led → Heap.NewExc h h7 e "IndexError" → E (.ref e) { s with heap := h7, toks := tk7 })
    (done : ∀ i' ti h tk v, Skip xs (num b.toList) i0 i' → xs[i']? = some v → vn v ≠ num b.toList → Fr h₀ L h (kstB m₀ [(idx, .int i' ti)]) → News h₀ L h led → Q .next { s with heap := h, toks := tk })
    (hE : PassesOwn (model prog w) A (envOf name scope L f cd) E) :
    wpAny (model prog w) A (exec (.While (.Compare (.Subscript (.Name lst p1) (.Name idx p2) p3) [.Eq] [.Name el p4] p5) [.AugAssign (.Name idx p6) .Add (.Constant (.int 1) k p7) p8] [] p9) (envOf name scope L f cd)) Q E s := by
  refine ksw_one idx led (Skip xs (num b.toList) i0) xs.length i0 mi F N (Skip.refl hi0) (fun i' ti' h tk hS F1 N1 => ?_) hE
  have hSl := hS.lim
  have ml1 : kstB m₀ [(idx, .int i' ti')] lst = some (.ref x) := by simp only [kstB, if_neg n1]; exact ml
  have me1 : kstB m₀ [(idx, .int i' ti')] el = some (.bytes b tb) := by simp only [kstB, if_neg n2]; exact me
  have mi1 : kstB m₀ [(idx, .int i' ti')] idx = some (.int i' ti') := by simp only [kstB, if_true]
  repeat' (first | (refine ld F1 ml1 ?_ hk k1 d1) | (refine ld F1 mi1 ?_ hk k2 d2) | (refine ld F1 me1 ?_ hk k3 d3) | (with_reducible walk1))
  have hgx := PySem.IsL.isList (n := n) (N1 _ hx).1
  by_cases hi1 : i' < xs.length
  case neg =>
    obtain rfl : i' = xs.length := by lia
    refine item_outK hh hgx (.inr (by rw [List.size_toArray]; lia)) (by lia) (by lia) (fun h7 tk7 e X7 => ?_) (by with_unfolding_all rfl)
    exact out _ _ _ _ _ hS F1 N1 X7
  obtain ⟨b3, s3, hv3, hb3⟩ := hB.get (i := i') hi1
  refine item_listL hgx (by lia) (by lia) hv3 ?_ (by with_unfolding_all rfl) (by intro _; with_unfolding_all rfl)
  refine ld F1 me1 ?_ hk k3 d3
  refine eq_by hb3 hb ?_
  by_cases heq : num b3.toList = num b.toList
  · rw [decide_eq_true heq]
    repeat' (first | (refine ldn F1 mi1 ?_ hk k2) | (refine stN F1 N1 (fun h2 F2 N2 => ?_) hk k2) | (with_reducible walk1) | (walk1; try dsimp only))
    refine ksw_end (i' + 1, _) F2 N2 (fun _ hp => hp) trivial (List.forall_mem_cons.mpr ⟨by rw [if_pos rfl]; rfl, List.forall_mem_nil _⟩) (fun z hz _ => ?_) (hS.succ hv3 heq) ?_
    · have hzi := hz _ (.head _)
      rw [if_neg hzi]
      simp only [kstB, if_neg hzi]
    · show xs.length - (i' + 1) < xs.length - i'
      lia
  · rw [decide_eq_false heq]
    repeat' (first | (with_reducible walk1) | (walk1; try dsimp only))
    exact done _ _ _ _ _ hS hv3 heq F1 N1
end Mine
namespace Mine
open PySem PySem.W PyProof.Rows PySem.Calls
open TI TLg
local macro_rules | `(tactic| walk_at "eval Name") => `(tactic| (k_here; k_dflt (refine' ld ?k1 ?k2 ?_; (case k1 => k_asm); (case k2 => assumption); k_whole)))
structure DS where
  i : Nat
  ti : Tok
  j : Nat
  tj : Tok
  ms : List Value
  k1 : Nat
  us : List Value
  k2 : Nat
structure DInv (xs ys : List Value) (c : DS) : Prop where
  il : c.i ≤ xs.length
  jl : c.j ≤ ys.length
  e1 : c.ms ++ (diffV (xs.drop c.i) (ys.drop c.j)).1 = (diffV xs ys).1
  e2 : c.us ++ (diffV (xs.drop c.i) (ys.drop c.j)).2 = (diffV xs ys).2
structure DAt (x y M U : Addr) (i j : Nat) (m₁ : Str → Option Value) : Prop where
  ex : m₁ (Str.ofString "expected") = some (.ref x)
  ac : m₁ (Str.ofString "actual") = some (.ref y)
  mi : m₁ (Str.ofString "missing") = some (.ref M)
  un : m₁ (Str.ofString "unexpected") = some (.ref U)
  ii : ∃ t, m₁ (Str.ofString "i") = some (.int i t)
  jj : ∃ t, m₁ (Str.ofString "j") = some (.int j t)
noncomputable def Led (M U L : Addr) (oL : Obj) (news : List (Addr × Obj)) (ms us : List Value) (k1 k2 : Nat) (sl : Array (Option Value)) : List (Addr × Obj) := (U, listOf us.toArray k2) :: (M, listOf ms.toArray k1) :: (news ++ [(L, { oL with slots := sl })])
noncomputable def Rs (h₀ : Heap) (L' x y M U L : Addr) (oL : Obj) (news : List (Addr × Obj)) (xs ys : List Value) (s : Shared) (E : Value → Shared → Prop) : Prop :=
  ∀ (i j : Nat) ms us k1 k2 m₁ sl e h tk, DAt x y M U i j m₁ → i ≤ xs.length → j ≤ ys.length → ms ++ xs.drop i = (diffV xs ys).1 → us ++ ys.drop j = (diffV xs ys).2 →
    ((∃ hh, Fr h₀ L' hh m₁ ∧ News h₀ L' hh (Led M U L oL news ms us k1 k2 sl) ∧ NewX hh h e "IndexError") ∨ TT.HeldN h₀ L' h m₁ e "IndexError" (Led M U L oL news ms us k1 k2 sl)) → E (.ref e) { s with heap := h, toks := tk }
theorem DInv.out {xs ys : List Value} {c : DS} (h : DInv xs ys c) (ho : c.i = xs.length ∨ c.j = ys.length) : c.ms ++ xs.drop c.i = (diffV xs ys).1 ∧ c.us ++ ys.drop c.j = (diffV xs ys).2 := by
  have e1 := h.e1
  have e2 := h.e2
  rcases ho with q | q
  · rw [q, List.drop_length, diffV_nil] at e1 e2
    rw [q, List.drop_length]
    exact ⟨e1, e2⟩
  · rw [q, List.drop_length, diffV_nil2] at e1 e2
    rw [q, List.drop_length]
    exact ⟨e1, e2⟩
theorem drop_cons {xs : List Value} {i : Nat} {v : Value} (h : xs[i]? = some v) : xs.drop i = v :: xs.drop (i + 1) := by
  obtain ⟨hlt, rfl⟩ := List.getElem?_eq_some_iff.mp h
  exact List.drop_eq_getElem_cons hlt
theorem DInv.lt {xs ys : List Value} {i j k1 k2 : Nat} {ti tj : Tok} {ms us : List Value} {v1 v2 : Value} {rest : List Value} (h : DInv xs ys ⟨i, ti, j, tj, ms, k1, us, k2⟩) (h1 : xs[i]? = some v1) (h2 : ys[j]? = some v2) (hlt : vn v1 < vn v2)
    (hr : (xs.drop (i + 1)).dropWhile (fun z => vn z == vn v1) = rest) : (ms ++ [v1]) ++ (diffV rest (ys.drop j)).1 = (diffV xs ys).1 ∧ us ++ (diffV rest (ys.drop j)).2 = (diffV xs ys).2 := by
  have e1 := h.e1
  have e2 := h.e2
  dsimp only at e1 e2
  rw [drop_cons h1, drop_cons h2, diffV_lt hlt, hr, ← drop_cons h2] at e1 e2
  exact ⟨by rw [List.append_assoc]; exact e1, e2⟩
theorem DInv.gt {xs ys : List Value} {i j k1 k2 : Nat} {ti tj : Tok} {ms us : List Value} {v1 v2 : Value} {rest : List Value} (h : DInv xs ys ⟨i, ti, j, tj, ms, k1, us, k2⟩) (h1 : xs[i]? = some v1) (h2 : ys[j]? = some v2) (hlt : vn v2 < vn v1)
    (hr : (ys.drop (j + 1)).dropWhile (fun z => vn z == vn v2) = rest) : ms ++ (diffV (xs.drop i) rest).1 = (diffV xs ys).1 ∧ (us ++ [v2]) ++ (diffV (xs.drop i) rest).2 = (diffV xs ys).2 := by
  have e1 := h.e1
  have e2 := h.e2
  dsimp only at e1 e2
  rw [drop_cons h1, drop_cons h2, diffV_gt hlt, hr, ← drop_cons h1] at e1 e2
  exact ⟨e1, by rw [List.append_assoc]; exact e2⟩
theorem DInv.eqs {xs ys : List Value} {i j k1 k2 : Nat} {ti tj : Tok} {ms us : List Value} {v1 v2 : Value} {r1 r2 : List Value} (h : DInv xs ys ⟨i, ti, j, tj, ms, k1, us, k2⟩) (h1 : xs[i]? = some v1) (h2 : ys[j]? = some v2) (heq : vn v1 = vn v2)
    (hr1 : (xs.drop (i + 1)).dropWhile (fun z => vn z == vn v1) = r1) (hr2 : (ys.drop (j + 1)).dropWhile (fun z => vn z == vn v2) = r2) : ms ++ (diffV r1 r2).1 = (diffV xs ys).1 ∧ us ++ (diffV r1 r2).2 = (diffV xs ys).2 := by
  have e1 := h.e1
  have e2 := h.e2
  dsimp only at e1 e2
  rw [drop_cons h1, drop_cons h2, diffV_eq heq, hr1, hr2] at e1 e2
  exact ⟨e1, e2⟩
theorem caught_by {prog : Program} {w : World} {A₀ : Around} {E₁ E₂ : Value → Shared → Prop} {K : Shared → Prop} {s' : Shared} {h₀ : Heap} {L L' a e M U : Addr} {m : Str → Option Value} {news : List (Addr × Obj)} {name : Str} {scope : Scope} {cd : Value} {oL : Obj} {env : Env} {ms us : List Value} {k1 k2 : Nat} {sl : Array (Option Value)}
    (hfr : A₀.frames = some [env]) (Fs : Frs [env] [(L, oL)]) (hne : ∀ p ∈ news, p.1 ≠ L) (hM : M ≠ L) (hU : U ≠ L)
    (hc : (∃ hh, Fr h₀ L' hh m ∧ News h₀ L' hh (Led M U L oL news ms us k1 k2 sl) ∧ NewX hh s'.heap e "IndexError") ∨ TT.HeldN h₀ L' s'.heap m e "IndexError" (Led M U L oL news ms us k1 k2 sl))
    (k : ∀ h' sl', TT.HeldNA h₀ L' h' m e "IndexError" (Led M U L oL news ms us k1 k2 sl') .none → K { s' with heap := h' }) (hk : scope.kind = .function := by rfl) :
    wpAny (model prog w) (A₀.deeper (envOf name scope L' a cd)) (noteFrame (.ref e) (envOf name scope L' a cd)) (fun _ s₂ => wpAny (model prog w) (A₀.deeper (envOf name scope L' a cd)) (setFlight (.ref e) none) (fun _ s₃ => K s₃) E₁ s₂) E₂ s' := by
  have hall : AllNe L ((U, listOf us.toArray k2) :: (M, listOf ms.toArray k1) :: news) := TLgL.allNe_of fun p hp => by
    rcases List.mem_cons.mp hp with rfl | hp
    · exact hU
    · rcases List.mem_cons.mp hp with rfl | hp
      · exact hM
      · exact hne p hp
  rcases hc with ⟨hh, F, N, X⟩ | H
  · have Fs' : Frs [env] [(L, { oL with slots := sl })] := Fs.up ⟨rfl, ⟨sl, rfl⟩, trivial⟩
    refine noted_ofX (new := (U, listOf us.toArray k2) :: (M, listOf ms.toArray k1) :: news) hfr Fs' X F N hall (fun h' sl' _ H => ?_) hk
    exact TT.HeldNA.land H fun h'' H' => k h'' sl' H'
  · refine noted_again H ?_
    exact TT.HeldNA.land H fun h'' H' => k h'' sl H'
theorem less_held {h₀ h : Heap} {L e : Addr} {m : Str → Option Value} {X : String} {news news' : List (Addr × Obj)} {fl : Value} (H : TT.HeldNA h₀ L h m e X news fl) (hs : ∀ p ∈ news', p ∈ news) : TT.HeldNA h₀ L h m e X news' fl :=
  ⟨H.held, fun p hp => H.made p (hs p hp), fun ob vs tb e1 e2 e3 p hp => H.apart ob vs tb e1 e2 e3 p (hs p hp)⟩
/-- what a raise leads to is hidden and shown once: a named theorem, lest the proof be copied into every use -/
theorem by_key {α : Type} {M : Model} {A A' : Around} {env : Env} {t : Sem α} {Q : α → Shared → Prop} {E : Value → Shared → Prop} {s : Shared} {Ra : (Value → Shared → Prop) → Prop}
    (key : ∀ E', Ra E' → PassesOwn M A' env E' → wpAny M A t Q E' s) (rs : Ra E) (p : PassesOwn M A' env E) : wpAny M A t Q E s := key E rs p
theorem diff_call {w : World} {A : Around} {s : Shared} {h₀ : Heap} {L x y a : Addr} {m : Str → Option Value} {news : List (Addr × Obj)} {R : Result → Shared → Prop} {xs ys : List Value} {n k : Nat} {cn : Str} {cs : Scope} {ccd : Value}
    (X₀ : (Mine.hd.heap_39 w.params).In h₀) (T₀ : ∃ p loose mean mg mb, Top p loose mean mg mb h₀) (hH : A.handled = none) (hA : A.frames = some [envOf cn cs L a ccd]) (hck : cs.kind = .function)
    (F : Fr h₀ L s.heap m) (N : News h₀ L s.heap news) (hroom : A.depth + 0 < recursionLimit) (hx : (x, listOf xs.toArray n) ∈ news) (hy : (y, listOf ys.toArray k) ∈ news) (hBx : AllBy xs) (hBy : AllBy ys) (hzx : xs.length ≤ 100) (hzy : ys.length ≤ 100)
    (h : ∀ h' t r1 r2 k1 k2 tk, Fr h₀ L h' m → News h₀ L h' ((t, ({ cls := .type "tuple", data := .seq #[.ref r1, .ref r2] } : Obj)) :: (r1, listOf (diffV xs ys).1.toArray k1) :: (r2, listOf (diffV xs ys).2.toArray k2) :: news) → R (.ok (.ret (.ref t))) { s with heap := h', toks := tk }) :
    codeAny (model PySem.Challenge.rw_pa0042_01.row.prog w) A (.call (.ref 28) ⟨[.ref x, .ref y], []⟩) R s := by
  revert X₀; k_fill; intro X₀
  obtain ⟨hdl, dep, frs, gds, unt⟩ := A
  dsimp only at hH hA hroom
  subst hH hA
  obtain ⟨_, _, _, mg, mb, T⟩ := T₀
  refine' TLgL.code_def (binds := [(Str.ofString "expected", .ref x), (Str.ofString "actual", .ref y)]) F X₀ N T rfl ?k6 ?k7 ?kr ?k9 ?kB ?_ hck ?c2 ?c3 ?c4 ?c5
  (case k6 => k_is)
  (case k7 => k_is)
  (case kr => (show dep < recursionLimit; lia))
  (case k9 => exact BindsTo.of_eq rfl)
  (case c5 => decide)
  (case kB => exact locs rfl)
  (case c2 => exact rfl)
  (case c3 => exact rfl)
  (case c4 => exact rfl)
  k_whole
  intro oL h₁ Cl Fs hneL F' N'
  have hl : L < s.heap.objs.size := F.ns.lt
  generalize s.heap.objs.size = L' at F' N' hl
  clear F N
  try dsimp only
  refine wpAny_noRaise ?_
  repeat' ((fail_if_success (with_reducible show wpAny _ _ (exec (Stmt.While ..) _) _ _ _)); first | (walk1; try dsimp only) | (dsimp only; walk1))
  rename (Fr _ _ _ _) => F1
  rename (News _ _ _ _) => N1
  rename_i t0 _ _ _ M _ hM1 _ _ U _ hUM _
  have hML : M ≠ L := Ne.symm (Nat.ne_of_lt (hM1 _ (List.mem_append_right _ (List.mem_singleton.mpr rfl))))
  have hUL : U ≠ L := Ne.symm (Nat.ne_of_lt (allLt_mem hUM.2 _ (List.mem_append_right _ (List.mem_singleton.mpr rfl))))
  have hall : ∀ (us ms : List Value) (k2 k1 : Nat), AllNe L ((U, listOf us.toArray k2) :: (M, listOf ms.toArray k1) :: news) := fun us ms k2 k1 => TLgL.allNe_of fun p hp => by
    rcases List.mem_cons.mp hp with rfl | hp
    · exact hUL
    · rcases List.mem_cons.mp hp with rfl | hp
      · exact hML
      · exact hneL p hp
  with_unfolding_all refine ksw_while (σ := DS) (fun c => (U, listOf c.us.toArray c.k2) :: (M, listOf c.ms.toArray c.k1) :: (news ++ [(L, oL)])) (fun c => [(Str.ofString "i", .int c.i c.ti), (Str.ofString "j", .int c.j c.tj)]) (fun _ => True) [Str.ofString "e", Str.ofString "a"] (DInv xs ys) (fun c => (xs.length - c.i) + (ys.length - c.j)) ⟨0, t0, 0, t0, [], 0, [], 0⟩ F1 N1 trivial ?kk ⟨Nat.zero_le _, Nat.zero_le _, rfl, rfl⟩ ?turn PassesOwn.never
  case kk => exact List.forall_mem_cons.mpr ⟨rfl, List.forall_mem_cons.mpr ⟨rfl, List.forall_mem_nil _⟩⟩
  case turn =>
    clear F1 N1
    rintro ⟨i, ti, j, tj, ms, k1, us, k2⟩ u h6 tk6 _ hI F6 N6
    dsimp only [kstB] at F6 N6
    repeat' ((fail_if_success (with_reducible show wpAny _ _ (exec (Stmt.Try ..) _) _ _ _)); first | (walk1; try dsimp only) | (dsimp only; walk1))
    refine wpAny_Try_except ?_
    refine by_key (Ra := Rs h₀ L' x y M U L oL news xs ys s) ?key ?rs (by passes_own)
    case rs =>
      clear F6 N6
      intro i j ms us k1 k2 m₁ sl e h7 tk7 hD hil hjl q1 q2 hc
      refine caught_by (A₀ := ⟨none, dep, some [_], gds, unt⟩) rfl Fs hneL hML hUL hc fun h8 sl8 H8 => ?_
      refine wpAny_handleBy_builtin (X := "IndexError") (T := "IndexError") (b := true) (isSubtype_of_subB (by decide +kernel)) (isSubtype_of_subB (by decide +kernel)) (isSubtype_of_subB (by decide +kernel)) (wpAny_passesOwnAt (by passes_own) ?_)
      have F8 := H8.held.fr
      have N8 := H8.made
      dsimp only [Led] at N8
      walk1
      refine ⟨rfl, H8.isA, ?_⟩
      rw [if_pos rfl]
      refine H8.lands fun h9 F9 N9 => wpAny_passesOwnAt (by passes_own) ?_
      dsimp only [Led] at N9
      clear F8 N8
      obtain ⟨hex, hac, hmi, hun, ⟨t1, hii⟩, ⟨t2, hjj⟩⟩ := hD
      clear hc H8
      have hl1 : ms.length + (xs.drop i).length ≤ xs.length := by
        have e := congrArg List.length q1
        rw [List.length_append] at e
        rw [e]
        exact (diffGo_len _ xs ys).1
      have hl2 : us.length + (ys.drop j).length ≤ ys.length := by
        have e := congrArg List.length q2
        rw [List.length_append] at e
        rw [e]
        exact (diffGo_len _ xs ys).2
      repeat' ((fail_if_success (with_reducible show wpAny _ _ (subscriptTail _ _ _ _) _ _ _)); first | (walk1; try dsimp only) | (dsimp only; walk1))
      refine slice_list (s := ⟨h9, s.gens, s.drawn, _, s.os⟩) F9 N9 (PySem.IsL.isList (n := n) (N9 _ (.tail _ (.tail _ (List.mem_append_left _ hx)))).1) (by constructor) (by constructor) (fun h10 F10 N10 => ?_) (by with_unfolding_all rfl) (by intro _; with_unfolding_all rfl) (by rw [List.size_toArray, sizeLine_eq]; lia)
      rw [slice_from xs hil] at N10
      repeat' ((fail_if_success (with_reducible show wpAny _ _ (call (Value.builtin "list.extend") _) _ _ _)); first | (walk1; try dsimp only) | (dsimp only; walk1))
      have hMs : M < h9.objs.size := Heap.lt_size (N9 _ (.tail _ (.head _))).1
      have hM2 : ∀ sl, ∀ p ∈ news ++ [(L, ({ oL with slots := sl } : Obj))], p.1 < M := fun sl p hp => by
        rcases List.mem_append.mp hp with q | q
        · exact hM1 p (List.mem_append_left _ q)
        · rw [List.mem_singleton.mp q]
          exact hM1 (L, oL) (List.mem_append_right _ (List.mem_singleton.mpr rfl))
      refine extend_any (zs := xs.drop i) (n2 := 0) F10 N10 (.head _) (fun c => .tail (Nat.ne_of_gt (Nat.lt_succ_of_lt hMs)) (.tail (Nat.ne_of_gt hUM.1) (.head fun p hp => Nat.ne_of_lt (hM2 _ p hp)))) (by lia) (by lia) fun c11 h11 F11 N11 => ?_
      have N12 : News h₀ L' h11 ((U, listOf us.toArray k2) :: (M, listOf (ms ++ xs.drop i).toArray c11) :: (news ++ [(L, ({ oL with slots := sl8 } : Obj))])) := fun p hp => N11 p (.tail _ hp)
      clear F9 N9 F10 N10 N11
      repeat' ((fail_if_success (with_reducible show wpAny _ _ (subscriptTail _ _ _ _) _ _ _)); first | (walk1; try dsimp only) | (dsimp only; walk1))
      refine slice_list (s := ⟨h11, s.gens, s.drawn, _, s.os⟩) F11 N12 (PySem.IsL.isList (n := k) (N12 _ (.tail _ (.tail _ (List.mem_append_left _ hy)))).1) (by constructor) (by constructor) (fun h13 F13 N13 => ?_) (by with_unfolding_all rfl) (by intro _; with_unfolding_all rfl) (by rw [List.size_toArray, sizeLine_eq]; lia)
      rw [slice_from ys hjl] at N13
      repeat' ((fail_if_success (with_reducible show wpAny _ _ (call (Value.builtin "list.extend") _) _ _ _)); first | (walk1; try dsimp only) | (dsimp only; walk1))
      have hUs : U < h11.objs.size := Heap.lt_size (N12 _ (.head _)).1
      refine extend_any (zs := ys.drop j) (n2 := 0) F13 N13 (.head _) (fun c => .tail (Nat.ne_of_gt (Nat.lt_succ_of_lt hUs)) (.head fun p hp => ?_)) (by lia) (by lia) fun c14 h14 F14 N14 => ?_
      · rcases List.mem_cons.mp hp with rfl | q
        · exact Nat.ne_of_lt hUM.1
        · exact Nat.ne_of_lt (Nat.lt_trans (hM2 _ p q) hUM.1)
      have N15 : News h₀ L' h14 ((U, listOf (us ++ ys.drop j).toArray c14) :: (M, listOf (ms ++ xs.drop i).toArray c11) :: (news ++ [(L, ({ oL with slots := sl8 } : Obj))])) := fun p hp => N14 p (.tail _ hp)
      clear F11 N12 F13 N13 N14
      rw [q1, q2] at N15
      repeat' (first | (walk1; try dsimp only) | (dsimp only; walk1))
      rename (Fr _ _ _ _) => F16
      rename (News _ _ _ _) => N16
      rename (U < _ ∧ M < _ ∧ AllLt _ _) => hlD
      refine leave_back (new := (_, _) :: (U, _) :: (M, _) :: news) (sl := sl8) Cl F16 N16 (TLgL.allNe_of fun p hp => ?_) fun F17 N17 => h _ _ M U c11 c14 _ F17 fun p hp => ?_
      · rcases List.mem_cons.mp hp with rfl | hp
        · exact Nat.ne_of_gt (allLt_mem hlD.2.2 _ (List.mem_append_right _ (List.mem_singleton.mpr rfl)))
        · rcases List.mem_cons.mp hp with rfl | hp
          · exact hUL
          · rcases List.mem_cons.mp hp with rfl | hp
            · exact hML
            · exact hneL p hp
      · rcases List.mem_cons.mp hp with q | hp
        · exact N17 _ (q ▸ .head _)
        · rcases List.mem_cons.mp hp with q | hp
          · exact N17 _ (q ▸ .tail _ (.tail _ (.head _)))
          · rcases List.mem_cons.mp hp with q | hp
            · exact N17 _ (q ▸ .tail _ (.head _))
            · exact N17 _ (.tail _ (.tail _ (.tail _ hp)))
    case key =>
      intro E' hRs hPass
      have hil := hI.il
      have hjl := hI.jl
      dsimp only at hil hjl
      have hl1 : ms.length ≤ xs.length := by
        have e := congrArg List.length hI.e1
        have e' := (diffGo_len (xs.length + ys.length) xs ys).1
        rw [List.length_append] at e
        unfold diffV at e
        dsimp only at e
        lia
      have hl2 : us.length ≤ ys.length := by
        have e := congrArg List.length hI.e2
        have e' := (diffGo_len (xs.length + ys.length) xs ys).2
        rw [List.length_append] at e
        unfold diffV at e
        dsimp only at e
        lia
      repeat' ((fail_if_success (with_reducible show wpAny _ _ (subscriptTail _ _ _ _) _ _ _)); first | (walk1; try dsimp only) | (dsimp only; walk1))
      have hgx := PySem.IsL.isList (n := n) (N6 _ (.tail _ (.tail _ (List.mem_append_left _ hx)))).1
      have hgy := PySem.IsL.isList (n := k) (N6 _ (.tail _ (.tail _ (List.mem_append_left _ hy)))).1
      by_cases hi0 : i < xs.length
      case neg =>
        have hie : i = xs.length := by lia
        refine item_outK rfl hgx (.inr (by rw [List.size_toArray]; lia)) (by lia) (by lia) (fun h7 tk7 e X7 => ?_) (by with_unfolding_all rfl)
        exact hRs i j ms us k1 k2 _ oL.slots e h7 tk7 ⟨rfl, rfl, rfl, rfl, ⟨_, rfl⟩, ⟨_, rfl⟩⟩ hil hjl (hI.out (.inl hie)).1 (hI.out (.inl hie)).2 (.inl ⟨_, F6, N6, X7.x⟩)
      obtain ⟨b1, s1, hv1, hb1⟩ := hBx.get (i := i) hi0
      refine item_listL hgx (by lia) (by lia) hv1 ?_ (by with_unfolding_all rfl) (by intro _; with_unfolding_all rfl)
      repeat' ((fail_if_success (with_reducible show wpAny _ _ (subscriptTail _ _ _ _) _ _ _)); first | (walk1; try dsimp only) | (dsimp only; walk1))
      rename (News _ _ _ _) => N7
      rename (Fr _ _ _ _) => F7
      clear hgx hgy
      have hgx := PySem.IsL.isList (n := n) (N7 _ (.tail _ (.tail _ (List.mem_append_left _ hx)))).1
      have hgy := PySem.IsL.isList (n := k) (N7 _ (.tail _ (.tail _ (List.mem_append_left _ hy)))).1
      by_cases hj0 : j < ys.length
      case neg =>
        have hje : j = ys.length := by lia
        refine item_outK rfl hgy (.inr (by rw [List.size_toArray]; lia)) (by lia) (by lia) (fun h7 tk7 e X7 => ?_) (by with_unfolding_all rfl)
        exact hRs i j ms us k1 k2 _ oL.slots e h7 tk7 ⟨rfl, rfl, rfl, rfl, ⟨_, rfl⟩, ⟨_, rfl⟩⟩ hil hjl (hI.out (.inr hje)).1 (hI.out (.inr hje)).2 (.inl ⟨_, F7, N7, X7.x⟩)
      obtain ⟨b2, s2, hv2, hb2⟩ := hBy.get (i := j) hj0
      refine item_listL hgy (by lia) (by lia) hv2 ?_ (by with_unfolding_all rfl) (by intro _; with_unfolding_all rfl)
      clear hgx hgy
      repeat' ((fail_if_success (with_reducible show wpAny _ _ (compareOp CmpOp.Lt _ _) _ _ _)); first | (walk1; try dsimp only) | (dsimp only; walk1))
      refine lt_by hb1 hb2 ?_
      by_cases hlt : num b1.toList < num b2.toList
      · rw [decide_eq_true hlt]
        repeat' ((fail_if_success (with_reducible show wpAny _ _ (call (Value.builtin "list.append") _) _ _ _)); first | (walk1; try dsimp only) | (dsimp only; walk1))
        rename (News _ _ _ _) => N8
        rename (Fr _ _ _ _) => F8
        refine append_K F8 N8 (.tail (Nat.ne_of_gt hUM.1) (.head fun p hp => Nat.ne_of_lt (hM1 p hp))) (fun h9 F9 N9 => ?_) (by rw [sizeLine_eq, List.size_toArray]; lia)
        rw [show ms.toArray.push (Value.bytes b1 s1) = (ms ++ [Value.bytes b1 s1]).toArray by simp] at N9
        clear F8 N8
        repeat' ((fail_if_success (with_reducible show wpAny _ _ (exec (Stmt.While ..) _) _ _ _)); first | (walk1; try dsimp only) | (dsimp only; walk1))
        rename (News _ _ _ _) => N10
        rename (Fr _ _ _ _) => F10
        refine skip_loop (i0 := i + 1) X₀ rfl rfl rfl rfl rfl (by decide) (by decide) (by decide) (by decide) (by decide) F10 N10 (.tail _ (.tail _ (List.mem_append_left _ hx))) hBx hzx rfl rfl rfl hb1 hi0 (fun h11 ti' h7 tk7 e hS F11 N11 X7 => ?_) (fun i' ti' h11 tk11 v3 hS hv3 heq F11 N11 => ?_) hPass
        · clear F10 N10
          have hSl := hS.lim
          have hSe := hS.le
          dsimp only [kstB] at F11
          have q := hI.lt hv1 hv2 hlt hS.out
          rw [diffV_nil] at q
          exact hRs xs.length j (ms ++ [Value.bytes b1 s1]) us (k1 + 1) k2 _ oL.slots e h7 tk7 ⟨rfl, rfl, rfl, rfl, ⟨_, rfl⟩, ⟨_, rfl⟩⟩ (Nat.le_refl _) hjl (by rw [List.drop_length]; exact q.1) q.2 (.inl ⟨_, F11, N11, X7.x⟩)
        · clear F10 N10
          have hSl := hS.lim
          have hSe := hS.le
          dsimp only [kstB] at F11
          repeat' (first | (walk1; try dsimp only) | (dsimp only; walk1))
          have q := hI.lt hv1 hv2 hlt (hS.stop hv3 heq)
          refine ksw_end ⟨i', _, j, _, ms ++ [Value.bytes b1 s1], k1 + 1, us, k2⟩ F11 N11 (fun _ hp => hp) trivial (List.forall_mem_cons.mpr ⟨rfl, List.forall_mem_cons.mpr ⟨rfl, List.forall_mem_nil _⟩⟩) (by ksw_same) ⟨hSl, hjl, q.1, q.2⟩ ?_
          show (xs.length - i') + (ys.length - j) < (xs.length - i) + (ys.length - j)
          lia
      · rw [decide_eq_false hlt]
        repeat' ((fail_if_success (with_reducible show wpAny _ _ (compareOp CmpOp.Gt _ _) _ _ _)); first | (walk1; try dsimp only) | (dsimp only; walk1))
        refine gt_by hb1 hb2 ?_
        by_cases hgt : num b2.toList < num b1.toList
        · rw [decide_eq_true hgt]
          repeat' ((fail_if_success (with_reducible show wpAny _ _ (call (Value.builtin "list.append") _) _ _ _)); first | (walk1; try dsimp only) | (dsimp only; walk1))
          rename (News _ _ _ _) => N8
          rename (Fr _ _ _ _) => F8
          refine append_K F8 N8 (.head fun p hp => ?_) (fun h9 F9 N9 => ?_) (by rw [sizeLine_eq, List.size_toArray]; lia)
          · rcases List.mem_cons.mp hp with rfl | q
            · exact Nat.ne_of_lt hUM.1
            · exact Nat.ne_of_lt (Nat.lt_trans (hM1 p q) hUM.1)
          rw [show us.toArray.push (Value.bytes b2 s2) = (us ++ [Value.bytes b2 s2]).toArray by simp] at N9
          clear F8 N8
          repeat' ((fail_if_success (with_reducible show wpAny _ _ (exec (Stmt.While ..) _) _ _ _)); first | (walk1; try dsimp only) | (dsimp only; walk1))
          rename (News _ _ _ _) => N10
          rename (Fr _ _ _ _) => F10
          refine skip_loop (i0 := j + 1) X₀ rfl rfl rfl rfl rfl (by decide) (by decide) (by decide) (by decide) (by decide) F10 N10 (.tail _ (.tail _ (List.mem_append_left _ hy))) hBy hzy rfl rfl rfl hb2 hj0 (fun h11 tj' h7 tk7 e hS F11 N11 X7 => ?_) (fun j' tj' h11 tk11 v3 hS hv3 heq F11 N11 => ?_) hPass
          · clear F10 N10
            have hSl := hS.lim
            have hSe := hS.le
            dsimp only [kstB] at F11
            have q := hI.gt hv1 hv2 hgt hS.out
            rw [diffV_nil2] at q
            exact hRs i ys.length ms (us ++ [Value.bytes b2 s2]) k1 (k2 + 1) _ oL.slots e h7 tk7 ⟨rfl, rfl, rfl, rfl, ⟨_, rfl⟩, ⟨_, rfl⟩⟩ hil (Nat.le_refl _) q.1 (by rw [List.drop_length]; exact q.2) (.inl ⟨_, F11, N11, X7.x⟩)
          · clear F10 N10
            have hSl := hS.lim
            have hSe := hS.le
            dsimp only [kstB] at F11
            repeat' (first | (walk1; try dsimp only) | (dsimp only; walk1))
            have q := hI.gt hv1 hv2 hgt (hS.stop hv3 heq)
            refine ksw_end ⟨i, _, j', _, ms, k1, us ++ [Value.bytes b2 s2], k2 + 1⟩ F11 N11 (fun _ hp => hp) trivial (List.forall_mem_cons.mpr ⟨rfl, List.forall_mem_cons.mpr ⟨rfl, List.forall_mem_nil _⟩⟩) (by ksw_same) ⟨hil, hSl, q.1, q.2⟩ ?_
            show (xs.length - i) + (ys.length - j') < (xs.length - i) + (ys.length - j)
            lia
        · rw [decide_eq_false hgt]
          repeat' ((fail_if_success (with_reducible show wpAny _ _ (exec (Stmt.Try ..) _) _ _ _)); first | (walk1; try dsimp only) | (dsimp only; walk1))
          have heq0 : vn (Value.bytes b1 s1) = vn (Value.bytes b2 s2) := by
            show num b1.toList = num b2.toList
            lia
          rename (News _ _ _ _) => N8
          rename (Fr _ _ _ _) => F8
          refine wpAny_Try_finally ?_
          repeat' ((fail_if_success (with_reducible show wpAny _ _ (exec (Stmt.While ..) _) _ _ _)); first | (walk1; try dsimp only) | (dsimp only; walk1))
          refine skip_loop (i0 := i + 1) X₀ rfl rfl rfl rfl rfl (by decide) (by decide) (by decide) (by decide) (by decide) F8 N8 (.tail _ (.tail _ (List.mem_append_left _ hx))) hBx hzx rfl rfl rfl hb1 hi0 (fun h11 ti' h7 tk7 e hS F11 N11 X7 => ?_) (fun i' ti' h11 tk11 v3 hS hv3 heq F11 N11 => ?_) (by passes_own)
          · clear F8 N8
            have hSl := hS.lim
            have hSe := hS.le
            dsimp only [kstB] at F11
            refine noted_ctx (A₀ := ⟨none, dep, some [_], gds, unt⟩) (new := (U, listOf us.toArray k2) :: (M, listOf ms.toArray k1) :: news) rfl Fs X7 F11 N11 (hall us ms k2 k1) fun h8 sl8 H8 hC8 => ?_
            refine ⟨ref_ne_byPass e, noted_again H8 (land_led H8 hC8 fun h9 ob vs tb otb tvs F9 N9 XA => ?_)⟩
            have heL : e ≠ L := fun q => by
              have h1 := (N11 (L, oL) (.tail _ (.tail _ (List.mem_append_right _ (List.mem_singleton.mpr rfl))))).1
              have h2 := X7.new
              rw [q] at h2
              exact absurd (h1.symm.trans h2) (by simp)
            clear H8 hC8 F11 N11 X7
            have htL : tb ≠ L := fun q => XA.off (L, _) (List.mem_append_right _ (List.mem_singleton.mpr rfl)) q.symm
            repeat' ((fail_if_success (with_reducible show wpAny _ _ (exec (Stmt.While ..) _) _ _ _)); first | (walk1; try dsimp only) | (dsimp only; walk1))
            rename (News _ _ _ _) => N12
            rename (Fr _ _ _ _) => F12
            refine ksw_one (Str.ofString "j") _ (Skip ys (num b2.toList) (j + 1)) ys.length (j + 1) rfl F12 N12 (Skip.refl hj0) (fun j' tj' h13 tk13 hS2 F13 N13 => ?_) (by passes_own)
            clear F12 N12
            have hSl2 := hS2.lim
            have hSe2 := hS2.le
            dsimp only [kstB] at F13
            repeat' ((fail_if_success (with_reducible show wpAny _ _ (subscriptTail _ _ _ _) _ _ _)); first | (walk1; try dsimp only) | (dsimp only; walk1))
            have hgy := PySem.IsL.isList (n := k) (N13 _ (.tail _ (.tail _ (.tail _ (.tail _ (List.mem_append_left _ hy)))))).1
            by_cases hj1 : j' < ys.length
            case neg =>
              have hje : j' = ys.length := by lia
              subst hje
              have q := hI.eqs hv1 hv2 heq0 hS.out hS2.out
              rw [diffV_nil] at q
              refine item_outC (e1 := e) rfl (N13 _ (.head _)).1 XA.dat XA.ctx hgy (by rw [List.size_toArray]; lia) (by lia) (fun h14 tk14 e2 X14 => ?_) (by with_unfolding_all rfl)
              have Fs' : Frs [envOf cn cs L a ccd] [(L, { oL with slots := sl8 })] := Fs.up ⟨rfl, ⟨sl8, rfl⟩, trivial⟩
              refine noted_ofX (A₀ := ⟨some (.ref e), dep, some [_], gds, unt⟩) (new := (e, ob) :: (tb, otb) :: (U, listOf us.toArray k2) :: (M, listOf ms.toArray k1) :: news) rfl Fs' X14 F13 N13 ⟨heL, htL, hall us ms k2 k1⟩ fun h15 sl15 _ H15 => ?_
              refine came_back H15 fun h16 H16 => ?_
              exact hRs xs.length ys.length ms us k1 k2 _ sl15 e2 h16 tk14 ⟨rfl, rfl, rfl, rfl, ⟨_, rfl⟩, ⟨_, rfl⟩⟩ (Nat.le_refl _) (Nat.le_refl _) (by rw [List.drop_length]; exact q.1) (by rw [List.drop_length]; exact q.2) (.inr (less_held H16 fun p hp => .tail _ (.tail _ hp)))
            obtain ⟨b4, s4, hv4, hb4⟩ := hBy.get (i := j') hj1
            refine item_listL hgy (by lia) (by lia) hv4 ?_ (by with_unfolding_all rfl) (by intro _; with_unfolding_all rfl)
            repeat' ((fail_if_success (with_reducible show wpAny _ _ (compareOp CmpOp.Eq _ _) _ _ _)); first | (walk1; try dsimp only) | (dsimp only; walk1))
            refine eq_by hb4 hb2 ?_
            by_cases heq2 : num b4.toList = num b2.toList
            · rw [decide_eq_true heq2]
              repeat' (first | (walk1; try dsimp only) | (dsimp only; walk1))
              rename (News _ _ _ _) => N14
              rename (Fr _ _ _ _) => F14
              refine ksw_end (j' + 1, _) F14 N14 (fun _ hp => hp) trivial (List.forall_mem_cons.mpr ⟨rfl, List.forall_mem_nil _⟩) (by ksw_same) (hS2.succ hv4 heq2) ?_
              show ys.length - (j' + 1) < ys.length - j'
              lia
            · rw [decide_eq_false heq2]
              repeat' ((fail_if_success (with_reducible show wpAny _ _ (PySem.passOn _ _ _) _ _ _)); first | (walk1; try dsimp only) | (dsimp only; walk1))
              have q := hI.eqs hv1 hv2 heq0 hS.out (hS2.stop hv4 heq2)
              rw [diffV_nil] at q
              refine pass_on (held_back F13 N13 XA) fun h16 H16 => ?_
              exact hRs xs.length j' ms us k1 k2 _ sl8 e h16 _ ⟨rfl, rfl, rfl, rfl, ⟨_, rfl⟩, ⟨_, rfl⟩⟩ (Nat.le_refl _) hSl2 (by rw [List.drop_length]; exact q.1) q.2 (.inr H16)
          · clear F8 N8
            have hSl := hS.lim
            have hSe := hS.le
            dsimp only [kstB] at F11
            repeat' ((fail_if_success (with_reducible show wpAny _ _ (exec (Stmt.While ..) _) _ _ _)); first | (walk1; try dsimp only) | (dsimp only; walk1))
            rename (News _ _ _ _) => N12
            rename (Fr _ _ _ _) => F12
            refine skip_loop (i0 := j + 1) X₀ rfl rfl rfl rfl rfl (by decide) (by decide) (by decide) (by decide) (by decide) F12 N12 (.tail _ (.tail _ (List.mem_append_left _ hy))) hBy hzy rfl rfl rfl hb2 hj0 (fun h13 tj' h7 tk7 e hS2 F13 N13 X7 => ?_) (fun j' tj' h13 tk13 v3 hS2 hv4 heq2 F13 N13 => ?_) (by passes_own)
            · clear F12 N12
              have hSl2 := hS2.lim
              have hSe2 := hS2.le
              dsimp only [kstB] at F13
              have q := hI.eqs hv1 hv2 heq0 (hS.stop hv3 heq) hS2.out
              rw [diffV_nil2] at q
              refine noted_ofX (A₀ := ⟨none, dep, some [_], gds, unt⟩) (new := (U, listOf us.toArray k2) :: (M, listOf ms.toArray k1) :: news) rfl Fs X7.x F13 N13 (hall us ms k2 k1) fun h8 sl8 _ H8 => ?_
              refine came_back H8 fun h9 H9 => ?_
              exact hRs i' ys.length ms us k1 k2 _ sl8 e h9 tk7 ⟨rfl, rfl, rfl, rfl, ⟨_, rfl⟩, ⟨_, rfl⟩⟩ hSl (Nat.le_refl _) q.1 (by rw [List.drop_length]; exact q.2) (.inr H9)
            · clear F12 N12
              have hSl2 := hS2.lim
              have hSe2 := hS2.le
              dsimp only [kstB] at F13
              repeat' (first | (walk1; try dsimp only) | (dsimp only; walk1))
              have q := hI.eqs hv1 hv2 heq0 (hS.stop hv3 heq) (hS2.stop hv4 heq2)
              refine ksw_end ⟨i', _, j', _, ms, k1, us, k2⟩ F13 N13 (fun _ hp => hp) trivial (List.forall_mem_cons.mpr ⟨rfl, List.forall_mem_cons.mpr ⟨rfl, List.forall_mem_nil _⟩⟩) (by ksw_same) ⟨hSl, hSl2, q.1, q.2⟩ ?_
              show (xs.length - i') + (ys.length - j') < (xs.length - i) + (ys.length - j)
              lia
end Mine
namespace Mine
open PySem PySem.W PyProof.Rows PySem.Calls
/-- sorted, and no two equals behind the other's last -/
noncomputable def Srt (xs ys : List Value) : Prop := xs.Pairwise fun a b => vn a ≤ vn b ∧ (vn a = vn b → ∃ z ∈ ys, vn a ≤ vn z)
/-- what the one has alone, each once, in order -/
structure Dif (xs ys ds : List Value) : Prop where
  asc : ds.Pairwise fun a b => vn a < vn b
  sub : ∀ v ∈ ds, v ∈ xs ∧ ∀ y ∈ ys, vn y ≠ vn v
  all : ∀ v ∈ xs, (∀ y ∈ ys, vn y ≠ vn v) → ∃ u ∈ ds, vn u = vn v
noncomputable abbrev past (q : Nat) (l : List Value) : List Value := l.dropWhile fun z => vn z == q
theorem past_sub (q : Nat) (l : List Value) : (past q l).Sublist l := List.dropWhile_sublist _
theorem past_mem {q : Nat} : ∀ {l : List Value} {a : Value}, a ∈ l → vn a ≠ q → a ∈ past q l
  | x :: l, a, h, hne => by
    unfold past
    rw [List.dropWhile_cons]
    split
    · rename_i e
      rcases List.mem_cons.mp h with rfl | h
      · exact absurd (by simpa using e) hne
      · exact past_mem h hne
    · exact h
theorem past_gt {q : Nat} : ∀ {l : List Value}, l.Pairwise (fun a b => vn a ≤ vn b) → (∀ b ∈ l, q ≤ vn b) → ∀ a ∈ past q l, q < vn a
  | [], _, _, a, h => by simp [past] at h
  | x :: l, hp, hq, a, h => by
    unfold past at h
    rw [List.dropWhile_cons] at h
    obtain ⟨h1, h2⟩ := List.pairwise_cons.mp hp
    have hx := hq x (.head _)
    split at h
    · exact past_gt h2 (fun b hb => hq b (.tail _ hb)) a h
    · rename_i e
      have hne : vn x ≠ q := by simpa using e
      rcases List.mem_cons.mp h with rfl | h
      · lia
      · have := h1 a h
        lia
theorem Srt.le {xs ys : List Value} (h : Srt xs ys) : xs.Pairwise fun a b => vn a ≤ vn b := h.imp fun q => q.1
theorem Srt.head {x : Value} {xs ys : List Value} (h : Srt (x :: xs) ys) : ∀ b ∈ xs, vn x ≤ vn b := fun b hb => ((List.pairwise_cons.mp h).1 b hb).1
theorem Srt.past_gt {x : Value} {xs ys : List Value} (h : Srt (x :: xs) ys) : ∀ a ∈ past (vn x) xs, vn x < vn a :=
  Mine.past_gt (List.pairwise_cons.mp h.le).2 h.head
theorem Srt.past {x : Value} {xs ys : List Value} (h : Srt (x :: xs) ys) : Srt (past (vn x) xs) ys :=
  List.Pairwise.sublist ((past_sub _ _).trans (List.sublist_cons_self _ _)) h
theorem Srt.other {xs ys : List Value} {y : Value} (h : Srt xs (y :: ys)) (hg : ∀ a ∈ xs, vn y < vn a) : Srt xs (Mine.past (vn y) ys) := by
  refine List.Pairwise.imp_of_mem (fun {a b} ha hb q => ⟨q.1, fun e => ?_⟩) h
  obtain ⟨z, hz, hle⟩ := q.2 e
  have := hg a ha
  rcases List.mem_cons.mp hz with rfl | hz
  · lia
  · exact ⟨z, past_mem hz (by lia), hle⟩
theorem Dif.none (ys : List Value) : Dif [] ys [] := ⟨.nil, (fun _ h => nomatch h), (fun _ h => nomatch h)⟩
theorem Dif.whole {xs : List Value} (h : Srt xs []) : Dif xs [] xs := by
  refine ⟨h.imp fun {a b} q => ?_, fun v hv => ⟨hv, fun _ h => nomatch h⟩, fun v hv _ => ⟨v, hv, rfl⟩⟩
  rcases Nat.lt_or_eq_of_le q.1 with e | e
  · exact e
  · obtain ⟨z, hz, _⟩ := q.2 e
    exact nomatch hz
theorem Dif.take {x y : Value} {xs ys ds : List Value} (hs : Srt (x :: xs) (y :: ys)) (ht : Srt (y :: ys) (x :: xs)) (hlt : vn x < vn y) (h : Dif (past (vn x) xs) (y :: ys) ds) : Dif (x :: xs) (y :: ys) (x :: ds) := by
  have hy : ∀ z ∈ y :: ys, vn x < vn z := fun z hz => by
    rcases List.mem_cons.mp hz with rfl | hz
    · exact hlt
    · exact Nat.lt_of_lt_of_le hlt (ht.head z hz)
  refine ⟨List.pairwise_cons.mpr ⟨fun a ha => hs.past_gt a (h.sub a ha).1, h.asc⟩, fun v hv => ?_, fun v hv hn => ?_⟩
  · rcases List.mem_cons.mp hv with rfl | hv
    · exact ⟨.head _, fun z hz => Nat.ne_of_gt (hy z hz)⟩
    · exact ⟨.tail _ ((past_sub _ _).subset (h.sub v hv).1), (h.sub v hv).2⟩
  · by_cases e : vn v = vn x
    · exact ⟨x, .head _, e.symm⟩
    · rcases List.mem_cons.mp hv with rfl | hv
      · exact absurd rfl e
      · obtain ⟨u, hu, e2⟩ := h.all v (past_mem hv e) hn
        exact ⟨u, .tail _ hu, e2⟩
theorem Dif.keep {x y : Value} {xs ys es : List Value} (hs : Srt (x :: xs) (y :: ys)) (ht : Srt (y :: ys) (x :: xs)) (hlt : vn x < vn y) (h : Dif (y :: ys) (past (vn x) xs) es) : Dif (y :: ys) (x :: xs) es := by
  have hy : ∀ z ∈ y :: ys, vn x < vn z := fun z hz => by
    rcases List.mem_cons.mp hz with rfl | hz
    · exact hlt
    · exact Nat.lt_of_lt_of_le hlt (ht.head z hz)
  refine ⟨h.asc, fun v hv => ⟨(h.sub v hv).1, fun a ha e => ?_⟩, fun v hv hn => h.all v hv fun a ha => hn a (.tail _ ((past_sub _ _).subset ha))⟩
  have q := hy v (h.sub v hv).1
  rcases List.mem_cons.mp ha with rfl | ha
  · lia
  · exact (h.sub v hv).2 a (past_mem ha (by lia)) e
theorem Dif.both {x y : Value} {xs ys ds : List Value} (hs : Srt (x :: xs) (y :: ys)) (e : vn x = vn y) (h : Dif (past (vn x) xs) (past (vn y) ys) ds) : Dif (x :: xs) (y :: ys) ds := by
  refine ⟨h.asc, fun v hv => ⟨.tail _ ((past_sub _ _).subset (h.sub v hv).1), fun a ha e2 => ?_⟩, fun v hv hn => ?_⟩
  · have q := hs.past_gt v (h.sub v hv).1
    rcases List.mem_cons.mp ha with rfl | ha
    · lia
    · exact (h.sub v hv).2 a (past_mem ha (by lia)) e2
  · have q := hn y (.head _)
    rcases List.mem_cons.mp hv with rfl | hv
    · exact absurd e.symm q
    · exact h.all v (past_mem hv (by lia)) fun a ha => hn a (.tail _ ((past_sub _ _).subset ha))
theorem diff_ok : ∀ (n : Nat) (xs ys : List Value), xs.length + ys.length ≤ n → Srt xs ys → Srt ys xs → Dif xs ys (diffV xs ys).1 ∧ Dif ys xs (diffV xs ys).2 := by
  intro n
  induction n with
  | zero =>
    intro xs ys hn _ _
    obtain rfl : xs = [] := List.length_eq_zero_iff.mp (by lia)
    obtain rfl : ys = [] := List.length_eq_zero_iff.mp (by lia)
    exact ⟨.none _, .none _⟩
  | succ n ih =>
    intro xs ys hn hs ht
    cases xs with
    | nil => rw [diffV_nil]; exact ⟨.none _, .whole ht⟩
    | cons x xs =>
      cases ys with
      | nil => rw [diffV_nil2]; exact ⟨.whole hs, .none _⟩
      | cons y ys =>
        simp only [List.length_cons] at hn
        have l1 : (past (vn x) xs).length ≤ xs.length := dropWhile_le _ xs
        have l2 : (past (vn y) ys).length ≤ ys.length := dropWhile_le _ ys
        rcases Nat.lt_trichotomy (vn x) (vn y) with h | h | h
        · rw [diffV_lt h]
          have hg : ∀ a ∈ y :: ys, vn x < vn a := fun z hz => by
            rcases List.mem_cons.mp hz with rfl | hz
            · exact h
            · exact Nat.lt_of_lt_of_le h (ht.head z hz)
          obtain ⟨a, b⟩ := ih (past (vn x) xs) (y :: ys) (by simp only [List.length_cons]; lia) hs.past (ht.other hg)
          exact ⟨a.take hs ht h, b.keep hs ht h⟩
        · rw [diffV_eq h]
          have h1 : Srt (past (vn x) xs) (past (vn y) ys) := hs.past.other fun a ha => h ▸ hs.past_gt a ha
          have h2 : Srt (past (vn y) ys) (past (vn x) xs) := ht.past.other fun a ha => h ▸ ht.past_gt a ha
          obtain ⟨a, b⟩ := ih (past (vn x) xs) (past (vn y) ys) (by lia) h1 h2
          exact ⟨a.both hs h, b.both ht h.symm⟩
        · rw [diffV_gt h]
          have hg : ∀ a ∈ x :: xs, vn y < vn a := fun z hz => by
            rcases List.mem_cons.mp hz with rfl | hz
            · exact h
            · exact Nat.lt_of_lt_of_le h (hs.head z hz)
          obtain ⟨a, b⟩ := ih (x :: xs) (past (vn y) ys) (by simp only [List.length_cons]; lia) (hs.other hg) ht.past
          exact ⟨a.keep ht hs h, b.take ht hs h⟩
theorem srt_of : ∀ {xs ys : List Value}, xs.Pairwise (fun a b => vn a ≤ vn b) → (∀ v, 2 ≤ (xs.map vn).count v → ∃ z ∈ ys, v ≤ vn z) → Srt xs ys
  | [], _, _, _ => .nil
  | x :: xs, ys, hp, hc => by
    obtain ⟨h1, h2⟩ := List.pairwise_cons.mp hp
    refine List.pairwise_cons.mpr ⟨fun b hb => ⟨h1 b hb, fun e => hc _ ?_⟩, srt_of h2 fun v hv => hc v ?_⟩
    · rw [List.map_cons, List.count_cons_self]
      have : 0 < (xs.map vn).count (vn x) := List.count_pos_iff.mpr (List.mem_map.mpr ⟨b, hb, e.symm⟩)
      lia
    · rw [List.map_cons, List.count_cons]
      lia
end Mine
namespace Mine
open PySem PySem.W PyProof.Rows PySem.Calls
theorem rk_sg_fin : ∀ k l : Fin 64, rk ((k.val : Nat) : Int) < rk ((l.val : Nat) : Int) → sg ((k.val : Nat) : Int) < sg ((l.val : Nat) : Int) := by decide +kernel
theorem rk_sg {k l : Int} (h0 : 0 ≤ k) (h1 : k < 64) (h2 : 0 ≤ l) (h3 : l < 64) (h : rk k < rk l) : sg k < sg l := by
  obtain ⟨a, rfl⟩ := Int.eq_ofNat_of_zero_le h0
  obtain ⟨b, rfl⟩ := Int.eq_ofNat_of_zero_le h2
  exact rk_sg_fin ⟨a, Int.ofNat_lt.mp h1⟩ ⟨b, Int.ofNat_lt.mp h3⟩ h
theorem sg_range {k : Int} (h0 : 0 ≤ k) (h1 : k < 64) : 43 ≤ sg k ∧ sg k < 123 := by
  unfold sg
  (repeat' split) <;> lia
theorem K64_eq (x : Int) : K64 x = ((rk (x / 262144 % 64) * 64 + rk (x / 4096 % 64)) * 64 + rk (x / 64 % 64)) * 64 + rk (x % 64) := by
  show rk (x / 262144 % 64) * 64 ^ 3 + (rk (x / 4096 % 64) * 64 ^ 2 + (rk (x / 64 % 64) * 64 ^ 1 + (rk (x / 1 % 64) * 64 ^ 0 + 0))) = _
  rw [Int.ediv_one]
  lia
theorem lex2 {a b a' b' p q p' q' : Int} (hb : 0 ≤ b ∧ b < 64) (hb' : 0 ≤ b' ∧ b' < 64) (hq : 0 ≤ q ∧ q < 256) (hq' : 0 ≤ q' ∧ q' < 256)
    (m1 : a < a' → p < p') (e1 : a = a' → p = p') (m2 : b < b' → q < q') : a * 64 + b < a' * 64 + b' → p * 256 + q < p' * 256 + q' := fun h => by
  rcases Int.lt_trichotomy a a' with x | x | x
  · have := m1 x; lia
  · have := e1 x
    have := m2 (by lia)
    lia
  · lia
theorem lex2e {a b a' b' p q p' q' : Int} (hb : 0 ≤ b ∧ b < 64) (hb' : 0 ≤ b' ∧ b' < 64) (e1 : a = a' → p = p') (e2 : b = b' → q = q') : a * 64 + b = a' * 64 + b' → p * 256 + q = p' * 256 + q' := fun h => by
  rw [e1 (by lia), e2 (by lia)]
theorem lex4 {a b c d a' b' c' d' p q r s p' q' r' s' : Int}
    (hb : 0 ≤ b ∧ b < 64) (hc : 0 ≤ c ∧ c < 64) (hd : 0 ≤ d ∧ d < 64) (hb' : 0 ≤ b' ∧ b' < 64) (hc' : 0 ≤ c' ∧ c' < 64) (hd' : 0 ≤ d' ∧ d' < 64)
    (hq : 0 ≤ q ∧ q < 256) (hr : 0 ≤ r ∧ r < 256) (hs : 0 ≤ s ∧ s < 256) (hq' : 0 ≤ q' ∧ q' < 256) (hr' : 0 ≤ r' ∧ r' < 256) (hs' : 0 ≤ s' ∧ s' < 256)
    (m1 : a < a' → p < p') (m2 : b < b' → q < q') (m3 : c < c' → r < r') (m4 : d < d' → s < s') (e1 : a = a' → p = p') (e2 : b = b' → q = q') (e3 : c = c' → r = r') :
    ((a * 64 + b) * 64 + c) * 64 + d < ((a' * 64 + b') * 64 + c') * 64 + d' → ((p * 256 + q) * 256 + r) * 256 + s < ((p' * 256 + q') * 256 + r') * 256 + s' :=
  lex2 hd hd' hs hs' (lex2 hc hc' hr hr' (lex2 hb hb' hq hq' m1 e1 m2) (lex2e hb hb' e1 e2) m3) (lex2e hc hc' (lex2e hb hb' e1 e2) e3) m4
theorem code_lt {x y : Int} (hx : 0 ≤ x ∧ x < 16777216) (hy : 0 ≤ y ∧ y < 16777216) (h : K64 x < K64 y) : code x < code y := by
  rw [K64_eq, K64_eq] at h
  have ex : x / 262144 % 64 = x / 262144 := by lia
  have ey : y / 262144 % 64 = y / 262144 := by lia
  rw [ex, ey] at h
  have q : ∀ k l : Int, 0 ≤ k ∧ k < 64 → 0 ≤ l ∧ l < 64 → rk k = rk l → sg k = sg l := fun k l hk hl e => by rw [rk_inj hk.1 hk.2 hl.1 hl.2 e]
  have a1 : 0 ≤ x / 262144 ∧ x / 262144 < 64 := by lia
  have a2 : 0 ≤ x / 4096 % 64 ∧ x / 4096 % 64 < 64 := by lia
  have a3 : 0 ≤ x / 64 % 64 ∧ x / 64 % 64 < 64 := by lia
  have a4 : 0 ≤ x % 64 ∧ x % 64 < 64 := by lia
  have b1 : 0 ≤ y / 262144 ∧ y / 262144 < 64 := by lia
  have b2 : 0 ≤ y / 4096 % 64 ∧ y / 4096 % 64 < 64 := by lia
  have b3 : 0 ≤ y / 64 % 64 ∧ y / 64 % 64 < 64 := by lia
  have b4 : 0 ≤ y % 64 ∧ y % 64 < 64 := by lia
  have wide : ∀ k : Int, 0 ≤ k ∧ k < 64 → 0 ≤ sg k ∧ sg k < 256 := fun k hk => by have := sg_range hk.1 hk.2; lia
  have z := lex4 (rk_range a2.1 a2.2) (rk_range a3.1 a3.2) (rk_range a4.1 a4.2) (rk_range b2.1 b2.2) (rk_range b3.1 b3.2) (rk_range b4.1 b4.2)
    (wide _ a2) (wide _ a3) (wide _ a4) (wide _ b2) (wide _ b3) (wide _ b4)
    (rk_sg a1.1 a1.2 b1.1 b1.2) (rk_sg a2.1 a2.2 b2.1 b2.2) (rk_sg a3.1 a3.2 b3.1 b3.2) (rk_sg a4.1 a4.2 b4.1 b4.2) (q _ _ a1 b1) (q _ _ a2 b2) (q _ _ a3 b3) h
  have w1 := wide _ b1
  have w2 := wide _ b2
  have w3 := wide _ b3
  have w4 := sg_range b4.1 b4.2
  unfold code
  refine (Int.toNat_lt_toNat ?_).mpr z
  clear z h q
  generalize sg (y / 262144) = a at *
  generalize sg (y / 4096 % 64) = b at *
  generalize sg (y / 64 % 64) = c at *
  generalize sg (y % 64) = d at *
  lia
theorem code_inj {x y : Int} (hx : 0 ≤ x ∧ x < 16777216) (hy : 0 ≤ y ∧ y < 16777216) (h : code x = code y) : x = y := by
  rcases Int.lt_trichotomy (K64 x) (K64 y) with q | q | q
  · have := code_lt hx hy q; lia
  · exact K64_inj hx hy q
  · have := code_lt hy hx q; lia
theorem K64_lt {x y : Int} (hx : 0 ≤ x ∧ x < 16777216) (hy : 0 ≤ y ∧ y < 16777216) (h : code x < code y) : K64 x < K64 y := by
  rcases Int.lt_trichotomy (K64 x) (K64 y) with q | q | q
  · exact q
  · have := K64_inj hx hy q
    subst this; lia
  · have := code_lt hy hx q; lia
theorem EncV.range {x : Int} {v : Value} (h : EncV x v) : 0 ≤ x ∧ x < 16777216 := by
  obtain ⟨c1, c2, c3, c4, t, _, s1, _⟩ := h
  have := s1.low
  lia
theorem shelf_split (ms : List Int) : ∀ ns : List Int, ∃ ex, shelfOf ns ms = ns ++ ex ∧ ex.Nodup ∧ ∀ x ∈ ex, x ∉ ns ∧ 0 ≤ x ∧ x < 16777216 := by
  induction ms with
  | nil => exact fun ns => ⟨[], by simp [shelfOf], .nil, fun _ h => nomatch h⟩
  | cons k r ih =>
    intro ns
    have e : shelfOf ns (k :: r) = shelfOf (if ns.any (· == k % 16777216) then ns else ns ++ [k % 16777216]) r := rfl
    rw [e]
    by_cases h : ns.any (· == k % 16777216) = true
    · rw [if_pos h]; exact ih ns
    · rw [if_neg h]
      obtain ⟨ex, e1, e2, e3⟩ := ih (ns ++ [k % 16777216])
      have hk : k % 16777216 ∉ ns := fun q => h (List.any_eq_true.mpr ⟨_, q, by simp⟩)
      refine ⟨k % 16777216 :: ex, by rw [e1]; simp, List.nodup_cons.mpr ⟨fun q => (e3 _ q).1 (by simp), e2⟩, fun x hx => ?_⟩
      rcases List.mem_cons.mp hx with rfl | hx
      · exact ⟨hk, by lia, by lia⟩
      · exact ⟨fun q => (e3 x hx).1 (List.mem_append_left _ q), (e3 x hx).2⟩
theorem alone_iff {ns ms : List Int} {x : Int} : ∀ i, x ∈ aloneTo ns ms i ↔ x ∈ ns.take i ∧ x ∉ ms
  | 0 => by simp [aloneTo]
  | i + 1 => by
    have ih := alone_iff (ns := ns) (ms := ms) (x := x) i
    rw [List.take_add_one]
    simp only [aloneTo, List.mem_append, ih]
    cases e : ns[i]? with
    | none => simp
    | some y =>
      simp only [Option.toList, List.mem_singleton]
      by_cases h : y ∈ ms ∨ y ∈ ns.take i
      · rw [if_pos h]
        constructor
        · rintro (q | q)
          · exact ⟨.inl q.1, q.2⟩
          · exact nomatch q
        · rintro ⟨q | rfl, q2⟩
          · exact .inl ⟨q, q2⟩
          · exact .inl ⟨h.resolve_left q2, q2⟩
      · rw [if_neg h]
        constructor
        · rintro (q | q)
          · exact ⟨.inl q.1, q.2⟩
          · rw [List.mem_singleton.mp q]; exact ⟨.inr rfl, fun z => h (.inl z)⟩
        · rintro ⟨q | rfl, q2⟩
          · exact .inl ⟨q, q2⟩
          · exact .inr (List.mem_singleton.mpr rfl)
theorem uniq {f : Int → Int} : ∀ {as bs : List Int}, as.Pairwise (fun a b => f a < f b) → bs.Pairwise (fun a b => f a < f b) → (∀ x, x ∈ as ↔ x ∈ bs) → as = bs
  | [], [], _, _, _ => rfl
  | [], b :: _, _, _, h => nomatch (h b).mpr (.head _)
  | a :: _, [], _, _, h => nomatch (h a).mp (.head _)
  | a :: as, b :: bs, ha, hb, h => by
    obtain ⟨a1, a2⟩ := List.pairwise_cons.mp ha
    obtain ⟨b1, b2⟩ := List.pairwise_cons.mp hb
    have e : a = b := by
      rcases List.mem_cons.mp ((h a).mp (.head _)) with q | q
      · exact q
      · rcases List.mem_cons.mp ((h b).mpr (.head _)) with q2 | q2
        · exact q2.symm
        · have := b1 a q
          have := a1 b q2
          lia
    subst e
    rw [uniq a2 b2 fun x => ?_]
    constructor
    · intro hx
      rcases List.mem_cons.mp ((h x).mp (.tail _ hx)) with rfl | q
      · exact absurd (a1 x hx) (by lia)
      · exact q
    · intro hx
      rcases List.mem_cons.mp ((h x).mpr (.tail _ hx)) with rfl | q
      · exact absurd (b1 x hx) (by lia)
      · exact q
/-- what a shelf's writings are, taken off the heap -/
structure Off (ls : List Int) (xs : List Value) : Prop where
  perm : (xs.map vn).Perm (ls.map code)
  asc : xs.Pairwise fun a b => vn a ≤ vn b
  enc : ∀ u ∈ xs, ∃ x ∈ ls, EncV x u
  rng : ∀ x ∈ ls, 0 ≤ x ∧ x < 16777216
theorem Off.by_ {ls : List Int} {xs : List Value} (h : Off ls xs) : AllBy xs := fun v hv => let ⟨_, _, q⟩ := h.enc v hv; q.by_
theorem Off.has {ls : List Int} {xs : List Value} (h : Off ls xs) {x : Int} (hx : x ∈ ls) : ∃ u ∈ xs, vn u = code x := by
  obtain ⟨u, hu, e⟩ := List.mem_map.mp (h.perm.mem_iff.mpr (List.mem_map.mpr ⟨x, hx, rfl⟩))
  exact ⟨u, hu, e⟩
theorem Off.in_ {ls : List Int} {xs : List Value} (h : Off ls xs) {x : Int} {u : Value} (hx : EncV x u) (hu : u ∈ xs) : x ∈ ls := by
  obtain ⟨y, hy, e⟩ := h.enc u hu
  rw [code_inj hx.range e.range (hx.vn.symm.trans e.vn)]
  exact hy
noncomputable abbrev Enc (v : Value) (x : Int) : Prop := EncV x v
theorem All2.of_mem {P : Value → Int → Prop} {us : List Value} {xs : List Int} (h : All2 P us xs) {v : Value} (hv : v ∈ us) : ∃ x ∈ xs, P v x := by
  obtain ⟨i, hi, rfl⟩ := List.getElem_of_mem hv
  have hi2 : i < xs.length := h.1 ▸ hi
  obtain ⟨v, e, q⟩ := h.2 i xs[i] (List.getElem?_eq_getElem hi2)
  rw [List.getElem?_eq_getElem hi] at e
  exact ⟨xs[i], List.getElem_mem hi2, Option.some.inj e ▸ q⟩
theorem All2.of_mem2 {P : Value → Int → Prop} {us : List Value} {xs : List Int} (h : All2 P us xs) {x : Int} (hx : x ∈ xs) : ∃ v ∈ us, P v x := by
  obtain ⟨i, hi, rfl⟩ := List.getElem_of_mem hx
  obtain ⟨v, e, q⟩ := h.2 i xs[i] (List.getElem?_eq_getElem hi)
  exact ⟨v, List.mem_of_getElem? e, q⟩
theorem enc_asc {ds : List Value} {zs : List Int} (h : All2 Enc ds zs) (ha : ds.Pairwise fun a b => vn a < vn b) : zs.Pairwise fun a b => K64 a < K64 b := by
  rw [List.pairwise_iff_getElem] at ha ⊢
  intro i j hi hj hij
  obtain ⟨v, e1, q1⟩ := h.2 i zs[i] (List.getElem?_eq_getElem hi)
  obtain ⟨u, e2, q2⟩ := h.2 j zs[j] (List.getElem?_eq_getElem hj)
  have hi' : i < ds.length := h.1 ▸ hi
  have hj' : j < ds.length := h.1 ▸ hj
  have z := ha i j hi' hj' hij
  rw [List.getElem?_eq_getElem hi'] at e1
  rw [List.getElem?_eq_getElem hj'] at e2
  rw [Option.some.inj e1, Option.some.inj e2] at z
  have q1' : EncV zs[i] v := q1
  have q2' : EncV zs[j] u := q2
  rw [q1'.vn, q2'.vn] at z
  exact K64_lt q1'.range q2'.range z
/-- the heart: what the difference tells, read back, is what the law's own reckoning gives -/
theorem told_is {ls rs as zs : List Int} {xs ys ds : List Value} (hl : Off ls xs) (hr : Off rs ys) (hd : Dif xs ys ds) (hz : All2 Enc ds zs)
    (hp : as.Perm (aloneTo ls rs ls.length)) (hs : as.Pairwise fun a b => K64 a < K64 b) : zs = as := by
  refine uniq (enc_asc hz hd.asc) hs fun x => ?_
  rw [hp.mem_iff, alone_iff, List.take_length]
  constructor
  · intro hx
    obtain ⟨v, hv, e⟩ := hz.of_mem2 hx
    have e : EncV x v := e
    obtain ⟨q1, q2⟩ := hd.sub v hv
    refine ⟨hl.in_ e q1, fun hn => ?_⟩
    obtain ⟨y, hy, e2⟩ := hr.has hn
    exact q2 y hy (e2.trans e.vn.symm)
  · rintro ⟨h1, h2⟩
    obtain ⟨v, hv, e⟩ := hl.has h1
    obtain ⟨u, hu, e2⟩ := hd.all v hv fun y hy q => by
      obtain ⟨r, hr1, hr2⟩ := hr.enc y hy
      have : r = x := code_inj hr2.range (hl.rng x h1) (hr2.vn.symm.trans (q.trans e))
      exact h2 (this ▸ hr1)
    obtain ⟨z, hz1, hz2⟩ := hz.of_mem hu
    have hz2 : EncV z u := hz2
    have : z = x := code_inj hz2.range (hl.rng x h1) (hz2.vn.symm.trans (e2.trans e))
    exact this ▸ hz1
noncomputable abbrev left0 : List Int := [26, 62, 63, 0, 52, 62]
noncomputable abbrev right0 : List Int := [0, 52, 25]
theorem code_nodup {l : List Int} (hr : ∀ x ∈ l, 0 ≤ x ∧ x < 16777216) (h : l.Nodup) : (l.map code).Nodup := by
  rw [List.Nodup, List.pairwise_map]
  exact List.Pairwise.imp_of_mem (fun ha hb q e => q (code_inj (hr _ ha) (hr _ hb) e)) h
theorem right_range (ms : List Int) : ∀ x ∈ shelfOf right0 ms, 0 ≤ x ∧ x < 16777216 := by
  obtain ⟨ex, e1, _, e3⟩ := shelf_split ms right0
  intro x hx
  rw [e1] at hx
  rcases List.mem_append.mp hx with q | q
  · exact (by decide : ∀ x ∈ right0, 0 ≤ x ∧ x < 16777216) x q
  · exact (e3 x q).2
theorem left_range (ms : List Int) : ∀ x ∈ shelfOf left0 ms, 0 ≤ x ∧ x < 16777216 := by
  obtain ⟨ex, e1, _, e3⟩ := shelf_split ms left0
  intro x hx
  rw [e1] at hx
  rcases List.mem_append.mp hx with q | q
  · exact (by decide : ∀ x ∈ left0, 0 ≤ x ∧ x < 16777216) x q
  · exact (e3 x q).2
theorem right_srt {ms : List Int} {xs ys : List Value} (h : Off (shelfOf right0 ms) ys) : Srt ys xs := by
  obtain ⟨ex, e1, e2, e3⟩ := shelf_split ms right0
  refine srt_of h.asc fun v hv => ?_
  have hn : (shelfOf right0 ms).Nodup := by
    rw [e1, List.nodup_append]
    exact ⟨by decide, e2, fun a ha b hb q => (e3 b hb).1 (q ▸ ha)⟩
  have := List.nodup_iff_count.mp (code_nodup h.rng hn) v
  rw [h.perm.count_eq] at hv
  lia
theorem left_srt {ms rs : List Int} {xs ys : List Value} (h : Off (shelfOf left0 ms) xs) (hr : Off (shelfOf right0 rs) ys) : Srt xs ys := by
  obtain ⟨ex, e1, e2, e3⟩ := shelf_split ms left0
  refine srt_of h.asc fun v hv => ?_
  rw [h.perm.count_eq] at hv
  have hp : (shelfOf left0 ms).Perm (62 :: ([26, 62, 63, 0, 52] ++ ex)) := by
    rw [e1]
    exact List.Perm.append_right ex (by decide : left0.Perm [62, 26, 62, 63, 0, 52])
  rw [(hp.map code).count_eq, List.map_cons, List.count_cons] at hv
  have hn : ([26, 62, 63, 0, 52] ++ ex : List Int).Nodup := by
    rw [List.nodup_append]
    refine ⟨by decide, e2, fun a ha b hb q => (e3 b hb).1 (q ▸ ?_)⟩
    exact (by decide : ∀ a ∈ ([26, 62, 63, 0, 52] : List Int), a ∈ left0) a ha
  have hc := List.nodup_iff_count.mp (code_nodup (fun x hx => h.rng x (hp.mem_iff.mpr (.tail _ hx))) hn) v
  have hv2 : v = code 62 := by
    apply Classical.byContradiction
    intro q
    rw [if_neg (by simpa using Ne.symm q)] at hv
    lia
  obtain ⟨ey, e4, _, _⟩ := shelf_split rs right0
  obtain ⟨u, hu, e5⟩ := hr.has (x := 0) (by rw [e4]; simp)
  exact ⟨u, hu, by rw [hv2, e5]; decide⟩
/-- both tellings at once -/
theorem law_told {ms ns zs ws as bs : List Int} {xs ys : List Value} (hl : Off (shelfOf left0 ms) xs) (hr : Off (shelfOf right0 ns) ys) (hz : All2 Enc (diffV xs ys).1 zs) (hw : All2 Enc (diffV xs ys).2 ws)
    (ha : as.Perm (aloneTo (shelfOf left0 ms) (shelfOf right0 ns) (shelfOf left0 ms).length)) (ha2 : as.Pairwise fun a b => K64 a < K64 b)
    (hb : bs.Perm (aloneTo (shelfOf right0 ns) (shelfOf left0 ms) (shelfOf right0 ns).length)) (hb2 : bs.Pairwise fun a b => K64 a < K64 b) : zs = as ∧ ws = bs := by
  obtain ⟨d1, d2⟩ := diff_ok _ xs ys (Nat.le_refl _) (left_srt hl hr) (right_srt hr)
  exact ⟨told_is hl hr d1 hz ha ha2, told_is hr hl d2 hw hb hb2⟩
end Mine
namespace Mine
open PySem PySem.W PyProof.Rows PySem.Calls PySem.SeqAt
section
variable {prog : Program} {w : World} {A : Around} {E : Value → Shared → Prop} {s : Shared}
theorem eqAt_bytes {b c : Array UInt8} {t u : Tok} (e : b.toList = c.toList) : EqAt A s (.bytes b t) (.bytes c u) true := fun prog w E Q h => by
  unfold eqBool
  refine wpAny_holding ?_
  refine wpAny_ite_split (fun _ => ?_) (fun _ => ?_)
  · exact wpAny_bind (wpAny_rule (wpAny_pure h))
  · refine wpAny_bind (richCompare_gives (op := .Eq) (typeIs_bytes s b t) (typeIs_bytes s c u) FB.slot_bytes_eq FB.entry_bytes_eq (FB.args_bytes_eq_2 _ _) (gives_bytes_eq b c t u) (fun e => nomatch e) (wpAny_truthy_bool ?_))
    rw [e, beq_self_eq_true]
    exact h
theorem rcAt_octs {a b : Addr} {us ws : List Value} {n k : Nat} {xs : List Int} (ha : s.heap.get? a = some (listOf us.toArray n)) (hb : s.heap.get? b = some (listOf ws.toArray k)) (hu : A.units < cLine) (h1 : All2 OctV us xs) (h2 : All2 OctV ws xs) :
    RcAt A s (.ref a) (.ref b) true := by
  have q : RcAt A s (.ref a) (.ref b) ((List.range us.toArray.size).all fun _ => true) := by
    refine RcAt.lists (PySem.IsL.isList (n := n) ha) (PySem.IsL.isList (n := k) hb) (by rw [List.size_toArray, List.size_toArray, h1.1, h2.1]) hu fun j g1 g2 => ?_
    rw [List.size_toArray] at g1 g2
    have hj : j < xs.length := h1.1 ▸ g1
    obtain ⟨v, e1, t, rfl⟩ := h1.2 j xs[j] (List.getElem?_eq_getElem hj)
    obtain ⟨v', e2, t', rfl⟩ := h2.2 j xs[j] (List.getElem?_eq_getElem hj)
    rw [List.getElem?_eq_getElem g1] at e1
    rw [List.getElem?_eq_getElem g2] at e2
    have e3 : us.toArray[j] = _ := Option.some.inj e1
    have e4 : ws.toArray[j] = _ := Option.some.inj e2
    rw [e3, e4]
    exact eqAt_bytes rfl
  have e : ((List.range us.toArray.size).all fun _ => true) = true := by simp
  rwa [e] at q
/-- two lists of two lists of octet rows, of the same numbers -/
theorem eq_told {p q a1 a2 b1 b2 : Addr} {us1 us2 ws1 ws2 : List Value} {xs1 xs2 : List Int} {n1 n2 k1 k2 n k : Nat} {Q : Value → Shared → Prop}
    (hp : s.heap.get? p = some (listOf [Value.ref a1, .ref a2].toArray n)) (hq : s.heap.get? q = some (listOf [Value.ref b1, .ref b2].toArray k))
    (ha1 : s.heap.get? a1 = some (listOf us1.toArray n1)) (ha2 : s.heap.get? a2 = some (listOf us2.toArray n2)) (hb1 : s.heap.get? b1 = some (listOf ws1.toArray k1)) (hb2 : s.heap.get? b2 = some (listOf ws2.toArray k2))
    (h1 : a1 ≠ b1) (h2 : a2 ≠ b2) (hu : A.units + 1 < cLine) (o1 : All2 OctV us1 xs1) (o2 : All2 OctV us2 xs2) (o3 : All2 OctV ws1 xs1) (o4 : All2 OctV ws2 xs2)
    (h : Q (.bool true) s) : wpAny (model prog w) A (compareOp .Eq (.ref p) (.ref q)) Q E s := by
  refine eq_listAt (e := fun _ => true) (PySem.IsL.isList (n := n) hp) (PySem.IsL.isList (n := k) hq) rfl (by lia) (fun j g1 g2 => ?_) ?_
  · have hj : j = 0 ∨ j = 1 := by
      have : j < 2 := g1
      lia
    rcases hj with rfl | rfl
    · exact EqAt.of_refs h1 (rcAt_octs ha1 hb1 hu o1 o3)
    · exact EqAt.of_refs h2 (rcAt_octs ha2 hb2 hu o2 o4)
  · exact h
end
end Mine
namespace Mine
open PySem PySem.W PyProof.Rows PySem.Calls
theorem intsAre_some : ∀ {l : List Value}, (∀ v ∈ l, ∃ n t, v = .int n t) → ∃ ms, IntsAre l ms
  | [], _ => ⟨[], .nil⟩
  | v :: l, h => by
    obtain ⟨n, t, rfl⟩ := h v (.head _)
    obtain ⟨ms, q⟩ := intsAre_some (l := l) fun u hu => h u (.tail _ hu)
    exact ⟨n :: ms, .cons n t q⟩
theorem intsAre_mem {vs : List Value} {ns : List Int} (h : IntsAre vs ns) {v : Value} (hv : v ∈ vs) : ∃ n t, v = .int n t := by
  induction h with
  | nil => exact nomatch hv
  | cons n t _ ih =>
    rcases List.mem_cons.mp hv with rfl | q
    · exact ⟨n, t, rfl⟩
    · exact ih q
theorem pick_ints {vs : List Value} {ns : List Int} (h : IntsAre vs ns) (lo up st : Option Int) : ∃ ms, IntsAre (slicePick vs.toArray lo up st).toList ms := by
  refine intsAre_some fun v hv => ?_
  unfold slicePick at hv
  rw [List.toList_toArray] at hv
  obtain ⟨k, _, e⟩ := List.mem_filterMap.mp hv
  have e2 : vs[k]? = some v := by simpa using e
  exact intsAre_mem h (List.mem_of_getElem? e2)
theorem pick_few (items : Array Value) (lo : Option Int) : (slicePick items lo (some 10) (some 2)).size ≤ 10 := by
  unfold slicePick
  rw [List.size_toArray]
  refine Nat.le_trans (List.length_filterMap_le _ _) ?_
  unfold sliceRange
  rw [List.length_map, List.length_range]
  have h1 : 0 ≤ (sliceBounds lo (some 10) (some 2) items.size).1 := by
    unfold sliceBounds
    cases lo with
    | none => simp
    | some i =>
      simp only [Option.getD_some]
      rw [if_pos (by decide)]
      lia
  have h2 : (sliceBounds lo (some 10) (some 2) items.size).2.1 ≤ 10 := by
    unfold sliceBounds
    simp only [Option.getD_some]
    rw [if_pos (by decide), if_neg (by decide)]
    lia
  have h3 : (sliceBounds lo (some 10) (some 2) items.size).2.2 = 2 := rfl
  rw [h3]
  generalize (sliceBounds lo (some 10) (some 2) items.size).1 = a at *
  generalize (sliceBounds lo (some 10) (some 2) items.size).2.1 = b at *
  rw [if_pos (by decide)]
  split <;> lia
theorem pick_told {vs : List Value} {ns : List Int} (h : IntsAre vs ns) (lo : Option Int) : ∃ ms, IntsAre (slicePick vs.toArray lo (some 10) (some 2)).toList ms ∧ ms.length ≤ 10 := by
  obtain ⟨ms, q⟩ := pick_ints h lo (some 10) (some 2)
  have := pick_few vs.toArray lo
  have e := q.length
  rw [Array.length_toList] at e
  exact ⟨ms, q, by lia⟩
section
variable {prog : Program} {w : World} {A : Around} {E : Value → Shared → Prop} {s : Shared} {h₀ : Heap} {L : Addr} {m : Str → Option Value} {news : List (Addr × Obj)}
theorem slice_list3 {value slice : Expr} {l : Addr} {items : Array Value} {vl vu vk : Value} {lo up st : Option Int} {Q : Value → Shared → Prop}
    (F : Fr h₀ L s.heap m) (N : News h₀ L s.heap news) (hl : s.heap.IsList l items) (pl : IsPart vl lo) (pu : IsPart vu up) (pk : IsPart vk st) (h0 : st ≠ some 0)
    (h : ∀ h' r, Fr h₀ L h' m → News h₀ L h' ((r, listOf (slicePick items lo up st).toList.toArray 0) :: news) → Q (.ref r) { s with heap := h' })
    (hs : subscripted slice false (.ref l) (.ref s.heap.objs.size) = operate [.ref s.heap.objs.size, .ref l] (getItem (.ref l) (.ref s.heap.objs.size)) := by with_unfolding_all rfl)
    (ht : ∀ r, letTemporaryGo value (.ref l) r = pure () := by intro _; with_unfolding_all rfl)
    (hsz : items.size ≤ sizeLine) :
    wpAny (model prog w) A (subscriptTail value slice (.ref l) (.ref s.heap.objs.size)) Q E { s with heap := s.heap.push { cls := .type "slice", data := .fields #[vl, vu, vk] } } := by
  refine subscriptTail_ops (Heap.IsList.typeIs (s := { s with heap := s.heap.push { cls := .type "slice", data := .fields #[vl, vu, vk] } }) (hl.push _)) list_getitem_lookup
    (wpAny_getItem_list_slice (hl.push _) (Heap.IsSliceOf.new ..) pl pu pk h0 ?_ hsz) hs ht
  have N1 := News.push (F.push { cls := .type "slice", data := .fields #[vl, vu, vk] }) (N.grown fun _ _ e => Heap.get?_push_of_some _ e) { cls := .type "list", data := .seq (slicePick items lo up st) }
  exact h _ _ ((F.push _).push _) (by rw [Array.toArray_toList]; exact N1)
end
end Mine
namespace Mine
open PySem PySem.W PyProof.Rows PySem.Calls
theorem ints6 {a b c d e f : Int} {t1 t2 t3 t4 t5 t6 : Tok} : IntsAre [Value.int a t1, .int b t2, .int c t3, .int d t4, .int e t5, .int f t6] [a, b, c, d, e, f] :=
  .cons _ _ (.cons _ _ (.cons _ _ (.cons _ _ (.cons _ _ (.cons _ _ .nil)))))
theorem ints3 {a b c : Int} {t1 t2 t3 : Tok} : IntsAre [Value.int a t1, .int b t2, .int c t3] [a, b, c] :=
  .cons _ _ (.cons _ _ (.cons _ _ .nil))
theorem enc_ints {c1 c2 c3 c4 v1 v2 v3 v4 : Int} (s1 : Sg v1 c1) (s2 : Sg v2 c2) (s3 : Sg v3 c3) (s4 : Sg v4 c4) : KBw.bInts ([c1, c2, c3, c4].map fun n : Int => n.toNat.toUInt8).toArray = [c1, c2, c3, c4] := by
  have r1 := s1.range
  have r2 := s2.range
  have r3 := s3.range
  have r4 := s4.range
  simp only [KBw.bInts, List.map_cons, List.map_nil, toNat8 (c := c1) (by lia) (by lia), toNat8 (c := c2) (by lia) (by lia), toNat8 (c := c3) (by lia) (by lia), toNat8 (c := c4) (by lia) (by lia)]
  rw [Int.toNat_of_nonneg (by lia), Int.toNat_of_nonneg (by lia), Int.toNat_of_nonneg (by lia), Int.toNat_of_nonneg (by lia)]
theorem oct_back {x : Int} (h : 0 ≤ x ∧ x < 16777216) (t : Tok) :
    OctV (.bytes ([x / 262144 * 4 + x / 4096 % 64 / 16, x / 4096 % 64 % 16 * 16 + x / 64 % 64 / 4, x / 64 % 64 % 4 * 64 + x % 64].map fun n : Int => n.toNat.toUInt8).toArray t) x := by
  refine ⟨t, ?_⟩
  rw [show x / 262144 * 4 + x / 4096 % 64 / 16 = x / 65536 % 256 by lia, show x / 4096 % 64 % 16 * 16 + x / 64 % 64 / 4 = x / 256 % 256 by lia, show x / 64 % 64 % 4 * 64 + x % 64 = x % 256 by lia]
theorem take_snocV {vs : List Value} {i : Nat} {v : Value} (h : vs[i]? = some v) : vs.take (i + 1) = vs.take i ++ [v] := by
  rw [List.take_add_one, h]; rfl
theorem All2.nil {P : Value → Int → Prop} : All2 P [] [] := ⟨rfl, fun i x hx => by simp at hx⟩
theorem diffV_len (xs ys : List Value) : (diffV xs ys).1.length ≤ xs.length ∧ (diffV xs ys).2.length ≤ ys.length := diffGo_len _ xs ys
end Mine
namespace Mine
open PySem PySem.W PyProof.Rows PySem.Calls
open LCg LCt LCp
theorem T2 : PySem.Challenge.rw_pa0042_01.Holds := Mine.hd (by
  k_go0
  rename (Fr _ _ _ _) => F0
  rename (News _ _ _ _) => N0
  rename (Top _ _ _ _ _ _) => T
  rename (Below _ _ _ _) => K0
  rename (Frag.In _ _) => KX
  rename (IntsAre _ _) => hI
  with_reducible rename (Heap.IsList _ _ _) => hL
  with_reducible rename (¬ _ < _) => h63
  with_reducible rename (_ = #[]) => hgens
  rename World => w
  rename Shared => sh
  refine wpAny_noRaise ?_
  refine wpAny_mono (Q := fun f s' => ∃ h' m tk, f = .ret (.bool true) ∧ s' = { sh with heap := h', toks := tk } ∧ Fr sh.heap sh.heap.objs.size h' m) ?_ ?_ (fun _ _ x => x)
  case refine_2 =>
    rintro _ _ ⟨h', m, tk, rfl, rfl, F⟩
    wrow_close
  have C : ∀ (cs : Scope) (a : Addr) (cd : Value), cs.kind = .function → Env0 w (callerA.deeper (envOf (Str.ofString "law") cs sh.heap.objs.size a cd)) sh.heap sh.heap.objs.size :=
    fun cs a cd hk => ⟨KX, ⟨_, _, _, _, _, T⟩, ⟨_, _, _, _, K0, rfl, rfl, hk⟩, rfl⟩
  repeat' ((fail_if_success (with_reducible show wpAny _ _ (subscriptTail _ _ _ _) _ _ _)); first | (walk1; try dsimp only) | (dsimp only; walk1))
  rename (Fr _ _ _ _) => F1
  rename (News _ _ _ _) => N1
  refine kmk_slice3_lit (s := ⟨_, sh.gens, sh.drawn, _, sh.os⟩) F1 N1 (F1.lst hL) (by constructor) (by constructor) (by constructor) (by simp) rfl (fun r2 h2 F2 N2 l2 => ?_) (by with_unfolding_all rfl) (by intro _; with_unfolding_all rfl) (by rw [List.size_toArray, hI.length, sizeLine_eq]; lia)
  obtain ⟨ms, hms, lms⟩ := pick_told hI none
  clear F1 N1 l2
  repeat' ((fail_if_success (with_reducible show wpAny _ _ (call (.ref 156) _) _ _ _)); first | (walk1; try dsimp only) | (dsimp only; walk1))
  refine wpAny_call (shelf_call (ns := left0) (ms := ms) (C _ _ _ rfl) F2 N2 (Nat.le_of_ble_eq_true rfl) (.tail _ (.head _)) (.head _) ints6 hms (by show 6 + ms.length ≤ 1000; lia) fun h3 r3 vs3 n3 tk3 hv3 F3 N3' => ?_)
  have N3 : News sh.heap sh.heap.objs.size h3 [(r3, listOf vs3.toArray n3)] := fun p hp => N3' p (List.mem_singleton.mp hp ▸ .head _)
  clear F2 N2 N3'
  repeat' ((fail_if_success (with_reducible show wpAny _ _ (subscriptTail _ _ _ _) _ _ _)); first | (walk1; try dsimp only) | (dsimp only; walk1))
  rename (Fr _ _ _ _) => F4
  rename (News _ _ _ _) => N4
  refine kmk_slice3_lit (s := ⟨_, sh.gens, sh.drawn, _, sh.os⟩) F4 N4 (F4.lst hL) (by constructor) (by constructor) (by constructor) (by simp) rfl (fun r5 h5 F5 N5 l5 => ?_) (by with_unfolding_all rfl) (by intro _; with_unfolding_all rfl) (by rw [List.size_toArray, hI.length, sizeLine_eq]; lia)
  obtain ⟨ks, hks, lks⟩ := pick_told hI (some 1)
  clear F4 N4 l5
  repeat' ((fail_if_success (with_reducible show wpAny _ _ (call (.ref 156) _) _ _ _)); first | (walk1; try dsimp only) | (dsimp only; walk1))
  refine wpAny_call (shelf_call (ns := right0) (ms := ks) (C _ _ _ rfl) F5 N5 (Nat.le_of_ble_eq_true rfl) (.tail _ (.head _)) (.head _) ints3 hks (by show 3 + ks.length ≤ 1000; lia) fun h6 r6 vs6 n6 tk6 hv6 F6 N6' => ?_)
  have N6 : News sh.heap sh.heap.objs.size h6 [(r6, listOf vs6.toArray n6), (r3, listOf vs3.toArray n3)] := fun p hp => by
    rcases List.mem_cons.mp hp with rfl | q
    · exact N6' _ (.head _)
    · exact N6' _ (List.mem_singleton.mp q ▸ .tail _ (.tail _ (.tail _ (.head _))))
  clear F5 N5 N6'
  have hlr := left_range ms
  have hrr := right_range ks
  have hll : (shelfOf left0 ms).length ≤ 16 := Nat.le_trans (shelfOf_length _ _) (by show 6 + ms.length ≤ 16; lia)
  have hrl : (shelfOf right0 ks).length ≤ 13 := Nat.le_trans (shelfOf_length _ _) (by show 3 + ks.length ≤ 13; lia)
  repeat' ((fail_if_success (with_reducible show wpAny _ _ (call (.ref 161) _) _ _ _)); first | (walk1; try dsimp only) | (dsimp only; walk1))
  rename (Fr _ _ _ _) => F6
  rename (News _ _ _ _) => N6
  refine wpAny_call (off_call (C _ _ _ rfl) F6 N6 (Nat.le_of_ble_eq_true rfl) (.tail _ (.head _)) hv3 hlr (by lia) (Nat.le_of_ble_eq_true rfl) fun h7 r7 us7 n7 tk7 hp7 ha7 he7 hn7 F7 N7 => ?_)
  have O7 : Off (shelfOf left0 ms) us7 := ⟨hp7, ha7, he7, hlr⟩
  have hL7 : us7.length = (shelfOf left0 ms).length := by simpa using hp7.length_eq
  clear F6 N6 hp7 ha7 he7
  repeat' ((fail_if_success (with_reducible show wpAny _ _ (call (.ref 161) _) _ _ _)); first | (walk1; try dsimp only) | (dsimp only; walk1))
  rename (Fr _ _ _ _) => F7
  rename (News _ _ _ _) => N7
  refine wpAny_call (off_call (C _ _ _ rfl) F7 N7 (Nat.le_of_ble_eq_true rfl) (.tail _ (.head _)) hv6 hrr (by lia) (Nat.le_of_ble_eq_true rfl) fun h8 r8 us8 n8 tk8 hp8 ha8 he8 hn8 F8 N8 => ?_)
  have O8 : Off (shelfOf right0 ks) us8 := ⟨hp8, ha8, he8, hrr⟩
  have hL8 : us8.length = (shelfOf right0 ks).length := by simpa using hp8.length_eq
  clear F7 N7 hp8 ha8 he8
  repeat' ((fail_if_success (with_reducible show wpAny _ _ (call (.ref 28) _) _ _ _)); first | (walk1; try dsimp only) | (dsimp only; walk1))
  rename (Fr _ _ _ _) => F9
  rename (News _ _ _ _) => N9
  have e7 : us7.length ≤ 100 := by
    have := hL7
    lia
  have e8 : us8.length ≤ 100 := by
    have := hL8
    lia
  refine wpAny_call (diff_call KX ⟨_, _, _, _, _, T⟩ rfl rfl rfl F9 N9 (Nat.le_of_ble_eq_true rfl) (.tail _ (.head _)) (.head _) O7.by_ O8.by_ e7 e8 fun h10 r10 d1 d2 k1 k2 tk10 F10 N10 => ?_)
  clear F9 N9
  have D9 := diff_ok _ us7 us8 (Nat.le_refl _) (left_srt O7 O8) (right_srt O8)
  have hE1 : ∀ v ∈ (diffV us7 us8).1, ∃ x, EncV x v := fun v hv => let ⟨x, _, q⟩ := O7.enc v (D9.1.sub v hv).1; ⟨x, q⟩
  have hE2 : ∀ v ∈ (diffV us7 us8).2, ∃ x, EncV x v := fun v hv => let ⟨x, _, q⟩ := O8.enc v (D9.2.sub v hv).1; ⟨x, q⟩
  have hT := diffV_len us7 us8
  have hlaw := fun zs ws as bs => law_told (zs := zs) (ws := ws) (as := as) (bs := bs) O7 O8
  clear D9
  generalize (diffV us7 us8).1 = ds at N10 hE1 hT hlaw
  generalize (diffV us7 us8).2 = es at N10 hE2 hT hlaw
  repeat' ((fail_if_success (with_reducible show wpAny _ _ (eval (Expr.ListComp _ _ _ _) _) _ _ _)); first | (walk1; try dsimp only) | (dsimp only; walk1))
  rename (Fr _ _ _ _) => F11
  rename (News _ _ _ _) => N11'
  have N11 : News sh.heap sh.heap.objs.size _ [(d1, listOf ds.toArray k1), (d2, listOf es.toArray k2), (r6, listOf vs6.toArray n6), (r3, listOf vs3.toArray n3)] := fun p hp => by
    rcases List.mem_cons.mp hp with rfl | q
    · exact N11' _ (.tail _ (.head _))
    · rcases List.mem_cons.mp q with rfl | q
      · exact N11' _ (.tail _ (.tail _ (.head _)))
      · exact N11' _ (.tail _ (.tail _ (.tail _ (.tail _ (.tail _ q)))))
  clear N11'
  refine LCg.ListComp_U (F₀ := F11) (by with_unfolding_all rfl) (by decide) (by rfl) (by decide) (by rfl) ?_
  repeat' ((fail_if_success (with_reducible show wpAny _ _ (eval (Expr.ListComp _ _ _ _) _) _ _ _)); first | (walk1; try dsimp only) | (dsimp only; walk1))
  refine CompSrc.ledger rfl F11 N11 (.head _) (by rw [sizeLine_eq, List.size_toArray]; lia) fun g2 => ?_
  refine comp_inv (n := ds.toArray.size) (fun i ys nw => nw = _ ∧ ∃ zs, All2 Enc (ds.take i) zs ∧ All2 OctV ys zs) ?turn ?fin ds.toArray.size 0 [] _ (by lia) ⟨rfl, [], All2.nil, All2.nil⟩
  case turn =>
    rintro i ys nw hi ⟨rfl, zs, hZ, hY⟩ v I oI Cc oC D m₂ h12 tk12 hP hC hx F12 N12 off ne
    have hv : ds[i]? = some v := by simpa using hP
    obtain ⟨x, hxv⟩ := hE1 v (List.mem_of_getElem? hv)
    have hrx := hxv.range
    have hsn : ∀ u, OctV u x → ∃ zs, All2 Enc (ds.take (i + 1)) zs ∧ All2 OctV (ys ++ [u]) zs := fun u hu => ⟨zs ++ [x], by rw [take_snocV hv]; exact hZ.snoc hxv, hY.snoc hu⟩
    obtain ⟨c1, c2, c3, c4, t, rfl, s1, s2, s3, s4⟩ := hxv
    clear F11 N11 hP hv hZ hY
    repeat' ((fail_if_success (with_reducible show wpAny _ _ (call (.ref 109) _) _ _ _)); first | (walk1; try dsimp only) | (dsimp only; walk1))
    refine wpAny_call (decode_call (C _ _ _ rfl) F12 N12 (Nat.le_of_ble_eq_true rfl) (enc_ints s1 s2 s3 s4) s1 s2 s3 s4 fun h13 t13 tk13 F13 N13 => ?_)
    exact ⟨_, _, _, rfl, F13, N13, off, .inr ⟨_, .head _, rfl, _, rfl⟩, rfl, hsn _ (oct_back hrx t13)⟩
  case fin =>
    rintro ys nw ⟨rfl, zs, hZ, hY⟩ D1 h12 tk12 F12 N12 off12
    rw [List.size_toArray, List.take_length] at hZ
    clear F11 N11
    repeat' ((fail_if_success (with_reducible show wpAny _ _ (eval (Expr.ListComp _ _ _ _) _) _ _ _)); first | (walk1; try dsimp only) | (dsimp only; walk1))
    refine LCg.ListComp_U (F₀ := F12) (by with_unfolding_all rfl) (by decide) (by rfl) (by decide) (by rfl) ?_
    repeat' ((fail_if_success (with_reducible show wpAny _ _ (eval (Expr.ListComp _ _ _ _) _) _ _ _)); first | (walk1; try dsimp only) | (dsimp only; walk1))
    refine CompSrc.ledger rfl F12 N12 (.tail _ (.tail _ (.head _))) (by rw [sizeLine_eq, List.size_toArray]; lia) fun g3 => ?_
    refine comp_inv (n := es.toArray.size) (fun i us nw => nw = _ ∧ ∃ zs, All2 Enc (es.take i) zs ∧ All2 OctV us zs) ?turn2 ?fin2 es.toArray.size 0 [] _ (by lia) ⟨rfl, [], All2.nil, All2.nil⟩
    case turn2 =>
      rintro i us nw hi ⟨rfl, zs, hZ, hY⟩ v I oI Cc oC D m₂ h13 tk13 hP hC hx F13 N13 off ne
      have hv : es[i]? = some v := by simpa using hP
      obtain ⟨x, hxv⟩ := hE2 v (List.mem_of_getElem? hv)
      have hrx := hxv.range
      have hsn : ∀ u, OctV u x → ∃ zs, All2 Enc (es.take (i + 1)) zs ∧ All2 OctV (us ++ [u]) zs := fun u hu => ⟨zs ++ [x], by rw [take_snocV hv]; exact hZ.snoc hxv, hY.snoc hu⟩
      obtain ⟨c1, c2, c3, c4, t, rfl, s1, s2, s3, s4⟩ := hxv
      clear F12 N12 hP hv hZ hY
      repeat' ((fail_if_success (with_reducible show wpAny _ _ (call (.ref 109) _) _ _ _)); first | (walk1; try dsimp only) | (dsimp only; walk1))
      refine wpAny_call (decode_call (C _ _ _ rfl) F13 N13 (Nat.le_of_ble_eq_true rfl) (enc_ints s1 s2 s3 s4) s1 s2 s3 s4 fun h14 t14 tk14 F14 N14 => ?_)
      exact ⟨_, _, _, rfl, F14, N14, off, .inr ⟨_, .tail _ (.tail _ (.head _)), rfl, _, rfl⟩, rfl, hsn _ (oct_back hrx t14)⟩
    case fin2 =>
      rintro us nw ⟨rfl, zs2, hZ2, hY2⟩ D2 h13 tk13 F13 N13 off13
      rw [List.size_toArray, List.take_length] at hZ2
      clear F12 N12
      repeat' ((fail_if_success (with_reducible show wpAny _ _ (call (.ref 166) _) _ _ _)); first | (walk1; try dsimp only) | (dsimp only; walk1))
      rename (Fr _ _ _ _) => F14
      rename (News _ _ _ _) => N14
      refine wpAny_call (alone_call (C _ _ _ rfl) F14 N14 (Nat.le_of_ble_eq_true rfl) (.tail _ (.tail _ (.tail _ (.tail _ (.tail _ (.tail _ (.head _))))))) (.tail _ (.tail _ (.tail _ (.tail _ (.tail _ (.head _)))))) hv3 hv6 hlr (by lia) (by lia) (Nat.le_of_ble_eq_true rfl) fun h15 r15 us15 xs15 k15 tk15 ha15 hp15 hs15 hn15 F15 N15 => ?_)
      have hD1 : D1 ≠ r15 := hn15 _ (.tail _ (.tail _ (.head _)))
      clear F14 N14 hn15
      repeat' ((fail_if_success (with_reducible show wpAny _ _ (call (.ref 166) _) _ _ _)); first | (walk1; try dsimp only) | (dsimp only; walk1))
      rename (Fr _ _ _ _) => F16
      rename (News _ _ _ _) => N16
      refine wpAny_call (alone_call (C _ _ _ rfl) F16 N16 (Nat.le_of_ble_eq_true rfl) (.tail _ (.tail _ (.tail _ (.tail _ (.tail _ (.tail _ (.head _))))))) (.tail _ (.tail _ (.tail _ (.tail _ (.tail _ (.tail _ (.tail _ (.head _)))))))) hv6 hv3 hrr (by lia) (by lia) (Nat.le_of_ble_eq_true rfl) fun h17 r17 us17 xs17 k17 tk17 ha17 hp17 hs17 hn17 F17 N17 => ?_)
      have hD2 : D2 ≠ r17 := hn17 _ (.tail _ (.tail _ (.head _)))
      clear F16 N16 hn17
      obtain ⟨rfl, rfl⟩ := hlaw zs zs2 xs15 xs17 hZ hZ2 hp15 hs15 hp17 hs17
      repeat' ((fail_if_success (with_reducible show wpAny _ _ (compareOp CmpOp.Eq _ _) _ _ _)); first | (walk1; try dsimp only) | (dsimp only; walk1))
      rename (Fr _ _ _ _) => F18
      rename (News _ _ _ _) => N18
      refine eq_told (N18 _ (.tail _ (.tail _ (.tail _ (.head _))))).1 (N18 _ (.head _)).1 (N18 _ (.tail _ (.tail _ (.tail _ (.tail _ (.tail _ (.head _))))))).1 (N18 _ (.tail _ (.tail _ (.tail _ (.tail _ (.head _)))))).1
        (N18 _ (.tail _ (.tail _ (.head _)))).1 (N18 _ (.tail _ (.head _))).1 hD1 hD2 (Nat.le_of_ble_eq_true rfl) hY hY2 ha15 ha17 ?_
      exact ⟨_, _, _, rfl, rfl, F18⟩)
end Mine
theorem PySem.Challenge.cw_pa0042_01_holds : PySem.Challenge.rw_pa0042_01.Holds := by
  exact Mine.T2
