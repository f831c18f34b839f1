import PyProof.Rows.All
import Wide.All
import OpenK.AllK
import Wide.FinOn
import PySem.Challenge.RW_jf0002_01
open PySem PySem.W PyProof.Rows PySem.Spec PySem.Calls
set_option Elab.async false
/-! The road: the head once (hd); a plain reading of X.690 over ints (rd); the law's own reader (_law_read) gives rd (LR, by induction on the depth left);
_parse gives rd or raises where rd gives none (PR, likewise); parse and peek from PR; then the law's own frame. -/
namespace Mine
set_option maxRecDepth 100000 in
set_option maxHeartbeats 8000000 in
open_top hd for PySem.Challenge.rw_jf0002_01
end Mine
namespace Mine

/-- what a reading gives: class, method, tag, end of header, end of contents, end -/
structure R6 where
  c : Int
  m : Int
  t : Int
  h : Int
  ce : Int
  e : Int

/-- the octets of a high tag, but the last -/
def tagL (ks : List Int) (i tag : Int) : Int × Int :=
  if h : i < ks.length ∧ 127 < ks.getD i.toNat 0 then tagL ks (i + 1) (128 * tag + ks.getD i.toNat 0 - 128) else (i, tag)
termination_by (ks.length - i).toNat
decreasing_by omega

def hdr (ks : List Int) (p : Int) : Option (Int × Int) :=
  if ks.getD p.toNat 0 % 32 = 31 then
    (if (tagL ks (p + 1) 0).1 = ks.length ∨ ks.getD (p + 1).toNat 0 = 128 then none
    else if 128 * (tagL ks (p + 1) 0).2 + ks.getD (tagL ks (p + 1) 0).1.toNat 0 < 31 then none
    else some (128 * (tagL ks (p + 1) 0).2 + ks.getD (tagL ks (p + 1) 0).1.toNat 0, (tagL ks (p + 1) 0).1 + 1))
  else some (ks.getD p.toNat 0 % 32, p + 1)

/-- the two octets of nought lie at e -/
abbrev atEnd (ks : List Int) (e : Int) : Prop := e + 2 ≤ ks.length ∧ ks.getD e.toNat 0 = 0 ∧ ks.getD (e + 1).toNat 0 = 0

def loopE (ks : List Int) (f : Int → Option R6) : Nat → Int → Option Int
  | 0, _ => none
  | n + 1, e => if atEnd ks e then some e else match f e with
    | none => none
    | some r => loopE ks f n r.e

/-- c octets from a on, as one number -/
def big (ks : List Int) (a c : Int) : Int := ((ks.drop a.toNat).take c.toNat).foldl (fun s o => 256 * s + o) 0

def bodyR (ks : List Int) (f : Int → Option R6) (first tag i : Int) : Option R6 :=
  if i = ks.length then none else
  if ks.getD i.toNat 0 = 128 ∧ first / 32 % 2 = 0 then none else
  if ks.getD i.toNat 0 = 128 then (loopE ks f 50 (i + 1)).map fun e => ⟨first / 64, 1, tag, i + 1, e, e + 2⟩ else
  if 128 < ks.getD i.toNat 0 then
    (if ks.length - (i + 1) < ks.getD i.toNat 0 - 128 then none else
    if ks.length - (i + 1 + (ks.getD i.toNat 0 - 128)) < big ks (i + 1) (ks.getD i.toNat 0 - 128) then none else
    some ⟨first / 64, first / 32 % 2, tag, i + 1 + (ks.getD i.toNat 0 - 128), i + 1 + (ks.getD i.toNat 0 - 128) + big ks (i + 1) (ks.getD i.toNat 0 - 128), i + 1 + (ks.getD i.toNat 0 - 128) + big ks (i + 1) (ks.getD i.toNat 0 - 128)⟩)
  else if ks.length - (i + 1) < ks.getD i.toNat 0 then none
  else some ⟨first / 64, first / 32 % 2, tag, i + 1, i + 1 + ks.getD i.toNat 0, i + 1 + ks.getD i.toNat 0⟩

def rd (ks : List Int) : Nat → Int → Option R6
  | 0, _ => none
  | k + 1, p => if (ks.length : Int) ≤ p then none else match hdr ks p with
    | none => none
    | some x => bodyR ks (rd ks k) (ks.getD p.toNat 0) x.1 x.2

/-- a place where the walk halts -/
def Hold (P : Prop) : Prop := P
theorem hold {P : Prop} (h : Hold P) : P := h
theorem Hold.go {P : Prop} (h : P) : Hold P := h
theorem Fr.cong {g h : Heap} {L : Addr} {m m' : PySem.Str → Option Value} (F : Fr g L h m) (e : ∀ y, m y = m' y) : Fr g L h m' := (funext e : m = m') ▸ F
theorem News.sub {g h : Heap} {L : Addr} {l l' : List (Addr × Obj)} (N : News g L h l) (e : ∀ p ∈ l', p ∈ l) : News g L h l' := fun p hp => N p (e p hp)

/-- a walk that goes on only by the next row, else as before -/
def Join {X : Type} (g : Heap) (L : Addr) (news : List (Addr × Obj)) (s : Shared) (P : X → Prop) (mp : X → PySem.Str → Option Value) (Q : Flow → Shared → Prop) (fl : Flow) (s' : Shared) : Prop :=
  match fl with
  | .next => ∃ (x : X) (h : Heap) (tk : Nat), s' = { s with heap := h, toks := tk } ∧ P x ∧ Fr g L h (mp x) ∧ News g L h news
  | f => Q f s'
theorem join_rule {X : Type} {M : Model} {A : Around} {t : Sem Flow} {Q : Flow → Shared → Prop} {E : Value → Shared → Prop} {s : Shared} {g : Heap} {L : Addr} {news : List (Addr × Obj)} {m₀ : PySem.Str → Option Value}
    (F : Fr g L s.heap m₀) (N : News g L s.heap news) (P : X → Prop) (mp : (PySem.Str → Option Value) → X → PySem.Str → Option Value)
    (h1 : wpAny M A t (Join g L news s P (mp m₀) Q) E s)
    (h2 : ∀ x h tk, P x → Fr g L h (mp m₀ x) → News g L h news → Q .next { s with heap := h, toks := tk }) : wpAny M A t Q E s := by
  refine wpAny_mono h1 (fun fl s' j => ?_) fun _ _ x => x
  cases fl with
  | next =>
    obtain ⟨x, h, tk, rfl, hp, F, N⟩ := j
    exact h2 x h tk hp F N
  | brk => exact j
  | cont => exact j
  | ret v => exact j
theorem map_cong {m m' : PySem.Str → Option Value} (ns : List PySem.Str) (h1 : ∀ n ∈ ns, m n = m' n) (h2 : ∀ y, y ∉ ns → m y = m' y) : ∀ y, m y = m' y := fun y => by
  by_cases e : y ∈ ns
  · exact h1 y e
  · exact h2 y e

theorem rd_none1 {ks : List Int} {k : Nat} {p : Int} (h : (ks.length : Int) ≤ p) : rd ks (k + 1) p = none := by
  unfold rd; rw [if_pos h]
theorem rd_none2 {ks : List Int} {k : Nat} {p : Int} (h : hdr ks p = none) : rd ks (k + 1) p = none := by
  unfold rd
  rw [h]
  split <;> rfl
theorem rd_body {ks : List Int} {k : Nat} {p tag i : Int} (h : ¬ (ks.length : Int) ≤ p) (h2 : hdr ks p = some (tag, i)) : rd ks (k + 1) p = bodyR ks (rd ks k) (ks.getD p.toNat 0) tag i := by
  rw [rd, if_neg h, h2]
theorem mod_e {a b : Int} (hb : 0 ≤ b) : a.fmod b = a % b := Int.fmod_eq_emod_of_nonneg a hb
theorem div_e {a b : Int} (hb : 0 ≤ b) : a.fdiv b = a / b := Int.fdiv_eq_ediv_of_nonneg a hb
theorem hdr_low {ks : List Int} {p : Int} (h : (ks.getD p.toNat 0).fmod 32 ≠ 31) : hdr ks p = some ((ks.getD p.toNat 0).fmod 32, p + 1) := by
  rw [mod_e (by decide)] at h ⊢
  rw [hdr, if_neg h]
theorem hdr_none {ks : List Int} {p i tg : Int} (h : (ks.getD p.toNat 0).fmod 32 = 31) (ht : tagL ks (p + 1) 0 = (i, tg)) (hn : i = ks.length ∨ ks.getD (p + 1).toNat 0 = 128 ∨ 128 * tg + ks.getD i.toNat 0 < 31) : hdr ks p = none := by
  rw [mod_e (by decide)] at h
  rw [hdr, if_pos h, ht]
  split
  · rfl
  · rename_i h1
    rw [if_pos]
    rcases hn with e | e | e
    · exact absurd (.inl e) h1
    · exact absurd (.inr e) h1
    · exact e
theorem hdr_high {ks : List Int} {p i tg : Int} (h : (ks.getD p.toNat 0).fmod 32 = 31) (ht : tagL ks (p + 1) 0 = (i, tg)) (h1 : ¬ i = ks.length) (h2 : ¬ ks.getD (p + 1).toNat 0 = 128) (h3 : ¬ 128 * tg + ks.getD i.toNat 0 < 31) :
    hdr ks p = some (128 * tg + ks.getD i.toNat 0, i + 1) := by
  rw [mod_e (by decide)] at h
  rw [hdr, if_pos h, ht, if_neg (by rintro (e | e); exact h1 e; exact h2 e), if_neg h3]
theorem tagL_go {ks : List Int} {i tg : Int} (h : i < ks.length) (h2 : 127 < ks.getD i.toNat 0) : tagL ks i tg = tagL ks (i + 1) (128 * tg + ks.getD i.toNat 0 - 128) := by
  rw [tagL, dif_pos ⟨h, h2⟩]
theorem tagL_end {ks : List Int} {i tg : Int} (h : ¬ (i < ks.length ∧ 127 < ks.getD i.toNat 0)) : tagL ks i tg = (i, tg) := by
  rw [tagL, dif_neg h]
section
variable {ks : List Int} {f : Int → Option R6} {first tg i S : Int}
theorem bodyR_a (h : i = ks.length) : bodyR ks f first tg i = none := by rw [bodyR, if_pos h]
theorem bodyR_b (h1 : ks.getD i.toNat 0 = 128) (h2 : (first.fdiv 32).fmod 2 = 0) : bodyR ks f first tg i = none := by
  rw [div_e (by decide), mod_e (by decide)] at h2
  rw [bodyR]; repeat' split
  all_goals first | rfl | (exfalso; omega)
theorem bodyR_c (hi : i ≠ ks.length) (h1 : ks.getD i.toNat 0 = 128) (h2 : (first.fdiv 32).fmod 2 ≠ 0) :
    bodyR ks f first tg i = (loopE ks f 50 (i + 1)).map fun e => ⟨first.fdiv 64, 1, tg, i + 1, e, e + 2⟩ := by
  rw [div_e (by decide), mod_e (by decide)] at h2
  rw [div_e (by decide), bodyR]; repeat' split
  all_goals first | rfl | (exfalso; omega)
theorem bodyR_d (h : 128 < ks.getD i.toNat 0) (h2 : ks.length - (i + 1) < ks.getD i.toNat 0 - 128) : bodyR ks f first tg i = none := by
  rw [bodyR]; repeat' split
  all_goals first | rfl | (exfalso; omega)
theorem bodyR_e (h : 128 < ks.getD i.toNat 0) (h2 : ¬ ks.length - (i + 1) < ks.getD i.toNat 0 - 128) (hS : big ks (i + 1) (ks.getD i.toNat 0 - 128) = S) (h3 : ks.length - (i + 1 + (ks.getD i.toNat 0 - 128)) < S) : bodyR ks f first tg i = none := by
  rw [bodyR, hS]; repeat' split
  all_goals first | rfl | (exfalso; omega)
theorem bodyR_f (hi : i ≠ ks.length) (h : 128 < ks.getD i.toNat 0) (h2 : ¬ ks.length - (i + 1) < ks.getD i.toNat 0 - 128) (hS : big ks (i + 1) (ks.getD i.toNat 0 - 128) = S) (h3 : ¬ ks.length - (i + 1 + (ks.getD i.toNat 0 - 128)) < S) :
    bodyR ks f first tg i = some ⟨first.fdiv 64, (first.fdiv 32).fmod 2, tg, i + 1 + (ks.getD i.toNat 0 - 128), i + 1 + (ks.getD i.toNat 0 - 128) + S, i + 1 + (ks.getD i.toNat 0 - 128) + S⟩ := by
  rw [div_e (by decide), div_e (by decide), mod_e (by decide), bodyR, hS]; repeat' split
  all_goals first | rfl | (exfalso; omega)
theorem bodyR_g (h0 : ks.getD i.toNat 0 ≠ 128) (h : ¬ 128 < ks.getD i.toNat 0) (h2 : ks.length - (i + 1) < ks.getD i.toNat 0) : bodyR ks f first tg i = none := by
  rw [bodyR]; repeat' split
  all_goals first | rfl | (exfalso; omega)
theorem bodyR_h (hi : i ≠ ks.length) (h0 : ks.getD i.toNat 0 ≠ 128) (h : ¬ 128 < ks.getD i.toNat 0) (h2 : ¬ ks.length - (i + 1) < ks.getD i.toNat 0) :
    bodyR ks f first tg i = some ⟨first.fdiv 64, (first.fdiv 32).fmod 2, tg, i + 1, i + 1 + ks.getD i.toNat 0, i + 1 + ks.getD i.toNat 0⟩ := by
  rw [div_e (by decide), div_e (by decide), mod_e (by decide), bodyR]; repeat' split
  all_goals first | rfl | (exfalso; omega)
theorem loopE_end {n : Nat} {e : Int} (h : atEnd ks e) (hn : 0 < n) : loopE ks f n e = some e := by
  obtain ⟨m, rfl⟩ : ∃ m, n = m + 1 := ⟨n - 1, by omega⟩
  rw [loopE, if_pos h]
theorem loopE_none {n : Nat} {e : Int} (h : ¬ atEnd ks e) (hf : f e = none) : loopE ks f n e = none := by
  cases n with
  | zero => rfl
  | succ m => rw [loopE, if_neg h, hf]
theorem loopE_more {n : Nat} {e : Int} {r : R6} (h : ¬ atEnd ks e) (hf : f e = some r) (hn : 0 < n) : loopE ks f n e = loopE ks f (n - 1) r.e := by
  obtain ⟨m, rfl⟩ : ∃ m, n = m + 1 := ⟨n - 1, by omega⟩
  rw [loopE, if_neg h, hf]; rfl
/-- the slice of an octet string -/
theorem clip_take {a c : Int} (h0 : 0 ≤ a) (h1 : 0 ≤ c) (h2 : a + c ≤ ks.length) : List.take (clipAt ks.length (a + c) - clipAt ks.length a) (List.drop (clipAt ks.length a) ks) = (ks.drop a.toNat).take c.toNat := by
  have e1 := clipAt_cast ks.length (a + c)
  have e2 := clipAt_cast ks.length a
  rw [if_neg (by omega)] at e1 e2
  have e3 : clipAt ks.length a = a.toNat := by omega
  have e4 : clipAt ks.length (a + c) - clipAt ks.length a = c.toNat := by omega
  rw [e4, e3]
end
theorem toList_of_ints {b c : Array UInt8} (h : KBw.bInts b = KBw.bInts c) : b.toList = c.toList := by
  have inj : ∀ l l' : List UInt8, l.map (fun c => (c.toNat : Int)) = l'.map (fun c => (c.toNat : Int)) → l = l' := by
    intro l
    induction l with
    | nil => intro l' e; cases l' with
      | nil => rfl
      | cons _ _ => cases e
    | cons x r ih => intro l' e; cases l' with
      | nil => cases e
      | cons y r' =>
        simp only [List.map_cons, List.cons.injEq] at e
        obtain ⟨e1, e2⟩ := e
        have e3 : x = y := UInt8.toNat_inj.mp (by omega)
        rw [ih r' e2, e3]
  exact inj _ _ h
theorem toList_iff {b c : Array UInt8} : b.toList = c.toList ↔ KBw.bInts b = KBw.bInts c := ⟨fun h => by unfold KBw.bInts; rw [h], toList_of_ints⟩
/-- the two octets at e, cut by a slice, are two of nought just where «atEnd» says -/
theorem take2_iff {ks : List Int} {e : Int} (h0 : 0 ≤ e) : List.take (clipAt ks.length (e + 2) - clipAt ks.length e) (List.drop (clipAt ks.length e) ks) = [0, 0] ↔ atEnd ks e := by
  obtain ⟨n, rfl⟩ := Int.eq_ofNat_of_zero_le h0
  have e1 : clipAt ks.length (n : Int) = min n ks.length := clipAt_nat _ _
  have e2 : clipAt ks.length ((n : Int) + 2) = min (n + 2) ks.length := clipAt_nat _ (n + 2)
  have e3 : ((n : Int) + 1).toNat = n + 1 := by omega
  unfold atEnd
  rw [e1, e2, e3, Int.toNat_natCast]
  by_cases h : n + 2 ≤ ks.length
  · have a1 : n < ks.length := by omega
    have a2 : n + 1 < ks.length := by omega
    have e4 : min n ks.length = n := by omega
    have e5 : min (n + 2) ks.length - min n ks.length = 2 := by omega
    have e6 : ks.drop n = ks[n] :: ks[n + 1] :: ks.drop (n + 2) := by
      rw [List.drop_eq_getElem_cons a1, List.drop_eq_getElem_cons a2]
    have g1 : ks.getD n 0 = ks[n] := by simp [List.getD, List.getElem?_eq_getElem a1]
    have g2 : ks.getD (n + 1) 0 = ks[n + 1] := by simp [List.getD, List.getElem?_eq_getElem a2]
    rw [e5, e4, e6, g1, g2]
    simp only [List.take_succ_cons, List.take_zero, List.cons.injEq, and_true]
    constructor
    · rintro ⟨q1, q2⟩
      exact ⟨by omega, q1, q2⟩
    · rintro ⟨_, q1, q2⟩
      exact ⟨q1, q2⟩
  · constructor
    · intro q
      have := congrArg List.length q
      simp only [List.length_take, List.length_drop, List.length_cons, List.length_nil] at this
      omega
    · intro q; omega
theorem mem_tail {α : Type} {b : α} {l l' : List α} (h : ∀ q ∈ l, q ∈ l') : ∀ q ∈ l, q ∈ b :: l' := fun q hq => List.mem_cons_of_mem _ (h q hq)
theorem mem_keep {α : Type} {b : α} {l l' : List α} (h : ∀ q ∈ l, q ∈ l') : ∀ q ∈ b :: l, q ∈ b :: l' := fun q hq => by
  rcases List.mem_cons.mp hq with e | e
  · exact e ▸ List.mem_cons_self
  · exact List.mem_cons_of_mem _ (h q e)
theorem two_end {ks : List Int} {e : Int} {b : Array UInt8} {z : List UInt8} (h0 : 0 ≤ e) (hk : KBw.bInts b = List.take (clipAt ks.length (e + 2) - clipAt ks.length e) (List.drop (clipAt ks.length e) ks))
    (hz : z.map (fun c => (c.toNat : Int)) = [0, 0]) : b.toList = z ↔ atEnd ks e := by
  rw [← take2_iff h0, ← hk, ← hz]
  exact (toList_iff (b := b) (c := z.toArray))
theorem ne_end {ks : List Int} {e : Int} {b : Array UInt8} {z : List UInt8} (h0 : 0 ≤ e) (hk : KBw.bInts b = List.take (clipAt ks.length (e + 2) - clipAt ks.length e) (List.drop (clipAt ks.length e) ks))
    (h : (b.toList != z) = true) (hz : z.map (fun c => (c.toNat : Int)) = [0, 0] := by decide) : ¬ atEnd ks e := fun q => by
  rw [(two_end h0 hk hz).mpr q] at h
  simp at h
theorem is_end {ks : List Int} {e : Int} {b : Array UInt8} {z : List UInt8} (h0 : 0 ≤ e) (hk : KBw.bInts b = List.take (clipAt ks.length (e + 2) - clipAt ks.length e) (List.drop (clipAt ks.length e) ks))
    (h : (b.toList != z) = false) (hz : z.map (fun c => (c.toNat : Int)) = [0, 0] := by decide) : atEnd ks e :=
  (two_end h0 hk hz).mp (by simpa using h)

section
variable {ks : List Int}
theorem getD0 (hin : ∀ v ∈ ks, 0 ≤ v ∧ v < 256) (i : Int) : 0 ≤ ks.getD i.toNat 0 ∧ ks.getD i.toNat 0 < 256 := KBw.getD_in hin
theorem tagL_in : ∀ (n : Nat) (i tg : Int), (ks.length - i).toNat ≤ n → i ≤ ks.length → i ≤ (tagL ks i tg).1 ∧ (tagL ks i tg).1 ≤ ks.length := by
  intro n
  induction n with
  | zero => intro i tg h hi; rw [tagL_end (by omega)]; exact ⟨Int.le_refl _, hi⟩
  | succ n ih =>
    intro i tg h hi
    by_cases q : i < ks.length ∧ 127 < ks.getD i.toNat 0
    · rw [tagL_go q.1 q.2]
      have := ih (i + 1) (128 * tg + ks.getD i.toNat 0 - 128) (by omega) (by omega)
      omega
    · rw [tagL_end q]; exact ⟨Int.le_refl _, hi⟩
theorem hdr_in {p : Int} {x : Int × Int} (hp : p < ks.length) (h : hdr ks p = some x) : p < x.2 ∧ x.2 ≤ ks.length := by
  unfold hdr at h
  have ht := tagL_in (ks.length - (p + 1)).toNat (p + 1) 0 (Nat.le_refl _) (by omega)
  split at h
  · split at h
    · cases h
    · split at h
      · cases h
      · rename_i q _
        have : ¬ (tagL ks (p + 1) 0).1 = ks.length := fun e => q (.inl e)
        cases h
        dsimp only
        omega
  · cases h
    dsimp only
    omega
theorem foldl_nn (hin : ∀ v ∈ ks, 0 ≤ v ∧ v < 256) : ∀ (l : List Int), (∀ v ∈ l, v ∈ ks) → ∀ s : Int, 0 ≤ s → 0 ≤ l.foldl (fun s o => 256 * s + o) s
  | [], _, _, h => h
  | v :: r, hl, s, h => foldl_nn hin r (fun u hu => hl u (List.mem_cons_of_mem _ hu)) _ (by have := (hin v (hl v List.mem_cons_self)).1; show 0 ≤ 256 * s + v; omega)
theorem big_nn (hin : ∀ v ∈ ks, 0 ≤ v ∧ v < 256) (a c : Int) : 0 ≤ big ks a c := foldl_nn hin _ (fun _ hv => List.mem_of_mem_drop (List.mem_of_mem_take hv)) 0 (Int.le_refl _)
theorem loopE_in {f : Int → Option R6} (hf : ∀ p x, 0 ≤ p → f p = some x → p < x.e ∧ x.e ≤ ks.length) : ∀ n e e', 0 ≤ e → loopE ks f n e = some e' → e ≤ e' ∧ atEnd ks e'
  | 0, _, _, _, h => by cases h
  | n + 1, e, e', h0, h => by
    unfold loopE at h
    split at h
    · rename_i q
      cases h
      exact ⟨Int.le_refl _, q⟩
    · split at h
      · cases h
      · rename_i r hr
        have h1 := hf e r h0 hr
        have h2 := loopE_in hf n r.e e' (by omega) h
        exact ⟨by omega, h2.2⟩
/-- what a reading says of its places -/
structure InR (ks : List Int) (p : Int) (x : R6) : Prop where
  h1 : p < x.h
  h2 : x.h ≤ x.ce
  h3 : x.ce ≤ x.e
  h4 : x.e ≤ ks.length
  h5 : x.ce = x.e ∨ (x.e = x.ce + 2 ∧ atEnd ks x.ce)
theorem rd_inR (hin : ∀ v ∈ ks, 0 ≤ v ∧ v < 256) : ∀ k p x, 0 ≤ p → rd ks k p = some x → InR ks p x
  | 0, _, _, _, h => by cases h
  | k + 1, p, x, h0, h => by
    unfold rd at h
    split at h
    · cases h
    · rename_i hp
      split at h
      · cases h
      · rename_i y hy
        have hi := hdr_in (by omega) hy
        have hg := getD0 hin y.2
        unfold bodyR at h
        split at h
        · cases h
        · split at h
          · cases h
          · split at h
            · cases hl : loopE ks (rd ks k) 50 (y.2 + 1) with
              | none => rw [hl] at h; cases h
              | some e =>
                rw [hl] at h
                cases h
                have := loopE_in (fun p x h0 hx => have r := rd_inR hin k p x h0 hx; ⟨by have := r.h1; have := r.h2; have := r.h3; omega, r.h4⟩) _ _ _ (by omega) hl
                have ha := this.2.1
                exact ⟨by dsimp only; omega, by dsimp only; omega, by dsimp only; omega, by dsimp only; omega, .inr ⟨rfl, this.2⟩⟩
            · have hb := big_nn hin (y.2 + 1) (ks.getD y.2.toNat 0 - 128)
              split at h
              · split at h
                · cases h
                · split at h
                  · cases h
                  · cases h
                    exact ⟨by dsimp only; omega, by dsimp only; omega, by dsimp only; omega, by dsimp only; omega, .inl rfl⟩
              · split at h
                · cases h
                · cases h
                  exact ⟨by dsimp only; omega, by dsimp only; omega, by dsimp only; omega, by dsimp only; omega, .inl rfl⟩
theorem rd_in {k : Nat} {p : Int} {x : R6} (hin : ∀ v ∈ ks, 0 ≤ v ∧ v < 256) (h0 : 0 ≤ p) (h : rd ks k p = some x) : p < x.e ∧ x.e ≤ ks.length := by
  have r := rd_inR hin k p x h0 h
  have h1 := r.h1
  have h2 := r.h2
  have h3 := r.h3
  exact ⟨by omega, r.h4⟩
theorem ints_all {D : Array UInt8} (h : KBw.bInts D = ks) : ∀ v ∈ ks, 0 ≤ v ∧ v < 256 := fun _ hv => KBw.ints_in (h ▸ hv)
end
theorem RaisedN.sub {base h : Heap} {l : List Env} {e : Addr} {cls : Value} {news news' : List (Addr × Obj)} (R : RaisedN base l e cls news h) (s : ∀ q ∈ news', q ∈ news) : RaisedN base l e cls news' h := by
  obtain ⟨B, a0, hB, hl, hf⟩ := R
  exact ⟨B, a0, hB, fun q hq => hl q (s q hq), hf⟩
theorem b31 (x : Int) : Builtin.bitAnd x 31 = x.fmod 32 := kbt_maskF x 5
theorem b127 (x : Int) : Builtin.bitAnd x 127 = x % 128 := (kbt_mask x 7)
theorem b1 (x : Int) : Builtin.bitAnd (x.fdiv (2 ^ Int.toNat 5)) 1 = (x.fdiv 32).fmod 2 := kbt_maskF _ 1
theorem shr7 {x : Int} : x.fdiv (2 ^ Int.toNat 7) = x / 128 := div_e (by decide)
theorem shr7_lt {x : Int} (h : x.fdiv (2 ^ Int.toNat 7) = 0) (h0 : 0 ≤ x) : x < 128 := by rw [shr7] at h; omega
theorem shr7_ge {x : Int} (h : x.fdiv (2 ^ Int.toNat 7) ≠ 0) (h0 : 0 ≤ x) : 128 ≤ x := by rw [shr7] at h; omega
end Mine
namespace Mine
abbrev tupO (l : List Value) : Obj := { cls := .type "tuple", data := .seq l.toArray 0 }
/-- the law's own reader gives what «rd» says -/
def LR (w : World) (pr : Program) (loose : List PySem.Str) (mean : ExcName → Option Value) (mg mb : PySem.Str → Option Value) (k : Nat) : Prop :=
  ∀ (dp un : Nat) (gd : Option (List Code)) (cn : PySem.Str) (cs : Scope) (a : Addr) (ccd : Value) (cl : List (PySem.Str × Addr)) (outer : List Env) (A₀ : Around) (base h₀ : Heap) (L : Addr) (m : PySem.Str → Option Value) (news : List (Addr × Obj)) (s : Shared)
   (D : Array UInt8) (ks : List Int) (t0 t1 t2 : Tok) (p d : Int) (Q E : Value → Shared → Prop),
    Below A₀ base outer h₀ → Fr h₀ L s.heap m → (hd.heap_39 w.params).In h₀ → News h₀ L s.heap news → Top pr loose mean mg mb h₀ → cs.kind = .function → 
    KBw.bInts D = ks → ks.length ≤ 48 → 0 ≤ p → p ≤ ks.length → d = 11 - (k : Int) → dp + k < recursionLimit →
    (∀ h' tk', Fr h₀ L h' m → News h₀ L h' news → rd ks k p = none → Q .none { s with heap := h', toks := tk' }) →
    (∀ r h' tk' (x : R6) u0 u1 u2 u3 u4 u5, Fr h₀ L h' m → News h₀ L h' ((r, tupO [.int x.c u0, .int x.m u1, .int x.t u2, .int x.h u3, .int x.ce u4, .int x.e u5]) :: news) → rd ks k p = some x → Q (.ref r) { s with heap := h', toks := tk' }) →
    wpAny (model PySem.Challenge.rw_jf0002_01.row.prog w) (ktrTop dp un gd cn cs L a ccd cl outer) (call (.ref 59) [.bytes D t0, .int p t1, .int d t2]) Q E s

local macro_rules | `(tactic| walk_at "exec If") => `(tactic| ((with_reducible show wpAny _ _ (exec (Stmt.If (Expr.Compare (Expr.Name (Str.ofString "tag") _) [CmpOp.Eq] _ _) _ _ _) _) _ _ _); refine hold ?_))
local macro_rules | `(tactic| walk_at "exec While") => `(tactic| (refine hold ?_))
local macro_rules | `(tactic| walk_at "call ref") => `(tactic| ((with_reducible show wpAny _ _ (call (Value.ref 59) _) _ _ _); refine hold ?_))
local macro_rules | `(tactic| walk_at "Join") => `(tactic| ((with_reducible show Join _ _ _ _ _ _ _ (Flow.ret _) _); dsimp only [Join]))
local macro_rules | `(tactic| walk_at "exec For Name Subscript cons nil") => `(tactic| (k_here; (rename Fr _ _ _ _ => lF'); (with_unfolding_all refine' For_invVF lF' ?k1 ?k2 ?_; (case k1 => exact rfl); (case k2 => exact rfl); k_whole)))
local macro_rules | `(tactic| walk_at "pyIter bytes") => `(tactic| (refine hold ?_))
local macro_rules | `(tactic| walk_at "KswEnd") => `(tactic| (refine hold ?_))
local macro_rules | `(tactic| walk_at "InvEndN") => `(tactic| (refine hold ?_))
set_option maxRecDepth 100000 in
set_option maxHeartbeats 4000000 in
theorem lr_step : PySem.Challenge.rw_jf0002_01 = PySem.Challenge.rw_jf0002_01 → ∀ w pr loose mean mg mb k, LR w pr loose mean mg mb k → LR w pr loose mean mg mb (k + 1) := by
  unfold LR
  show _ → ∀ (w : World), (∀ _, _)
  k_fill
  intro _ w pr loose mean mg mb k ih dp un gd cn cs a ccd cl outer A₀ base h₀ L m news s D ks t0 t1 t2 p d Q E B F X N T hk hks hD hp0 hp1 hd hdp hno hso
  refine wpAny_call ?_
  k_dflt (refine' code_def (binds := [(Str.ofString "data", .bytes D t0), (Str.ofString "place", .int p t1), (Str.ofString "depth", .int d t2)]) ?k1 ?k2 ?k3 ?k4 ?k5 ?kA ?kF ?kK ?k6 ?k7 ?k8 ?k9 ?kB ?_ ?c2 ?c3 ?c4 ?c5; (case kA => exact rfl); (case kF => exact rfl); (case kK => assumption); (case k1 => k_asm); (case k2 => k_asm); (case k3 => k_asm); (case k4 => k_asm); (case k5 => k_asm); (case k6 => k_is); (case k7 => k_is); (case k8 => (show dp < _; omega)); (case k9 => exact BindsTo.of_eq rfl); (case c5 => decide); (case kB => exact locs rfl); (case c2 => exact rfl); (case c3 => exact rfl); (case c4 => exact rfl); k_whole; intro g' L' h' FG' F' N' B' X' T'; (try dsimp only); (try k_fold))
  k_steps
  · exact hno _ _ (by assumption) (by assumption) (rd_none1 (by assumption))
  refine Hold.go ?_
  rename Fr _ _ _ _ => F1
  rename News _ _ _ _ => N1
  with_unfolding_all refine' join_rule (X := Int × Int × Tok × Tok × Option Value) F1 N1 (fun x => hdr ks p = some (x.1, x.2.1) ∧ p + 1 ≤ x.2.1 ∧ x.2.1 ≤ ks.length) (fun m₀ x y => if y = "tag" then some (.int x.1 x.2.2.1) else if y = "at" then some (.int x.2.1 x.2.2.2.1) else if y = "start" then x.2.2.2.2 else m₀ y) ?_ ?_
  · k_fold
    refine wpAny_If ?_
    k_steps
    · -- the octets of a high tag
      refine Hold.go ?_
      rename Fr _ _ _ _ => F1
      rename News _ _ _ _ => N1
      with_unfolding_all refine' join_rule (X := Int × Int × Tok × Tok) F1 N1 (fun x => tagL ks (p + 1) 0 = (x.1, x.2.1) ∧ p + 1 ≤ x.1 ∧ x.1 ≤ ks.length) (fun m₀ x y => if y = "tag" then some (.int x.2.1 x.2.2.2) else if y = "at" then some (.int x.1 x.2.2.1) else m₀ y) ?_ ?_
      · k_fold
        with_unfolding_all refine' ksw_while (σ := Int × Int × Tok × Tok) (fun _ => _) (fun c => [(Str.ofString "tag", .int c.2.1 c.2.2.2), (Str.ofString "at", .int c.1 c.2.2.1)]) (fun _ => True) [] (fun c => tagL ks c.1 c.2.1 = tagL ks (p + 1) 0 ∧ p + 1 ≤ c.1 ∧ c.1 ≤ ks.length) (fun c => (ks.length - c.1).toNat) (p + 1, 0, _, _) F1 N1 trivial ?hk ⟨rfl, Int.le_refl _, by omega⟩ ?turn
        case hk => kst_all
        rintro ⟨i1, tg1, ti1, tt1⟩ u h3 tk3 _ ⟨q1, q2, q3⟩ F3 N3
        clear F1 N1
        (try dsimp only at q1 q2 q3 F3 N3)
        k_fold
        k_steps
        · rename Fr _ _ _ _ => F4
          rename News _ _ _ _ => N4
          refine Hold.go ?_
          refine ksw_end (i1 + 1, 128 * tg1 + ks.getD i1.toNat 0 - 128, _, _) F4 N4 (fun _ h => h) trivial (by kst_all) (by intro z h2 h3; simp only [List.forall_mem_cons, List.not_mem_nil, false_implies, implies_true, and_true, ne_eq] at h2; simp [kstB, h2]) ⟨(tagL_go (by assumption) (by assumption)).symm.trans q1, ?_, ?_⟩ ?_ <;> dsimp only <;> omega
        · exact ⟨(i1, tg1, _, _), _, _, rfl, ⟨q1.symm.trans (tagL_end (by omega)), q2, q3⟩, Fr.cong F3 (map_cong [Str.ofString "tag", Str.ofString "at"] (by kst_all) (by intro y hy; simp only [List.mem_cons, List.not_mem_nil, or_false, not_or] at hy; simp [kstB, hy])), N3⟩
        · exact ⟨(i1, tg1, _, _), _, _, rfl, ⟨q1.symm.trans (tagL_end (by omega)), q2, q3⟩, Fr.cong F3 (map_cong [Str.ofString "tag", Str.ofString "at"] (by kst_all) (by intro y hy; simp only [List.mem_cons, List.not_mem_nil, or_false, not_or] at hy; simp [kstB, hy])), N3⟩
      · rintro ⟨i2, tg2, ti2, tt2⟩ h3 tk3 ⟨q1, q2, q3⟩ F3 N3
        clear F1 N1
        (try dsimp only at q1 q2 q3 F3 N3)
        k_steps
        · exact hno _ _ (by assumption) (News.sub (by assumption) (mem_tail (mem_tail fun _ h => h))) (rd_none2 (hdr_none (by assumption) q1 (by omega)))
        · exact hno _ _ (by assumption) (News.sub (by assumption) (mem_tail (mem_tail fun _ h => h))) (rd_none2 (hdr_none (by assumption) q1 (by omega)))
        · exact hno _ _ (by assumption) (News.sub (by assumption) (mem_tail (mem_tail fun _ h => h))) (rd_none2 (hdr_none (by assumption) q1 (by omega)))
        · rename Fr _ _ _ _ => F4
          rename News _ _ _ _ => N4
          exact ⟨(128 * tg2 + ks.getD i2.toNat 0, i2 + 1, _, _, _), _, _, rfl, ⟨hdr_high (by assumption) q1 (by omega) (by omega) (by omega), (by show p + 1 ≤ i2 + 1; omega), (by show i2 + 1 ≤ _; omega)⟩, Fr.cong F4 (map_cong [Str.ofString "tag", Str.ofString "at", Str.ofString "start"] (by kst_all) (by intro y hy; simp only [List.mem_cons, List.not_mem_nil, or_false, not_or] at hy; simp [hy])), News.sub N4 (mem_tail fun _ h => h)⟩
    · exact ⟨((ks.getD p.toNat 0).fmod 32, p + 1, _, _, none), _, _, rfl, ⟨hdr_low (by assumption), Int.le_refl _, (by show p + 1 ≤ _; omega)⟩, Fr.cong F1 (map_cong [Str.ofString "tag", Str.ofString "at", Str.ofString "start"] (by kst_all) (by intro y hy; simp only [List.mem_cons, List.not_mem_nil, or_false, not_or] at hy; simp [hy])), N1⟩
  · rintro ⟨tg, i, tt, ti, us⟩ h2 tk2 ⟨hh, hi0, hi1⟩ F2 N2
    clear F1 N1
    (try dsimp only at hh hi0 hi1 F2)
    have hb := fun h => rd_body (k := k) h hh
    k_steps
    · exact hno _ _ (by assumption) (News.sub (by assumption) (mem_tail fun _ h => h)) ((hb (by assumption)).trans (bodyR_a (by assumption)))
    · exact hno _ _ (by assumption) (News.sub (by assumption) (mem_tail fun _ h => h)) ((hb (by assumption)).trans (bodyR_b (by assumption) (by assumption)))
    · -- the elements within
      refine Hold.go ?_
      rename Fr _ _ _ _ => F1
      rename News _ _ _ _ => N1
      with_unfolding_all refine' ksw_while (σ := Int × Nat × Tok) (fun _ => _) (fun c => [(Str.ofString "end", .int c.1 c.2.2)]) (fun _ => True) [Str.ofString "inner"] (fun c => i + 1 ≤ c.1 ∧ c.1 ≤ ks.length ∧ (ks.length : Int) - c.1 < c.2.1 ∧ loopE ks (rd ks k) c.2.1 c.1 = loopE ks (rd ks k) 50 (i + 1)) (fun c => c.2.1) (i + 1, 50, _) F1 N1 trivial ?hk2 ⟨Int.le_refl _, by (show i + 1 ≤ _; omega), by (show (ks.length : Int) - (i + 1) < ((50 : Nat) : Int); omega), rfl⟩ ?turn2
      case hk2 => kst_all
      rintro ⟨e1, n1, te1⟩ u h3 tk3 _ ⟨q1, q2, q3, q4⟩ F3 N3
      clear F1 N1
      (try dsimp only at q1 q2 q3 q4 F3 N3)
      k_fold
      have hin := ints_all hks
      have he := hb (by assumption)
      rw [bodyR_c (by assumption) (by assumption) (by assumption), ← q4] at he
      k_steps
      · refine Hold.go ?_
        rename Fr _ _ _ _ => F4
        rename News _ _ _ _ => N4
        have hne : ¬ atEnd ks e1 := ne_end (by omega) (by assumption) (by assumption)
        refine ih _ _ _ _ _ _ _ _ _ _ _ _ _ _ _ _ D ks _ _ _ e1 (d + 1) _ _ B' F4 X' N4 T' rfl hks hD (by omega) q2 (by omega) (by show dp + 1 + k < _; omega) ?_ ?_
        · intro h5 tk5 F5 N5 hr
          clear F4 N4
          (try dsimp only)
          (try k_fold)
          k_steps
          exact hno _ _ (by assumption) (News.sub (by assumption) (mem_tail (mem_tail fun _ h => h))) (he.trans (by rw [loopE_none hne hr]; rfl))
        · intro r h5 tk5 x u0 u1 u2 u3 u4 u5 F5 N5 hr
          clear F4 N4
          have hx := rd_in hin (by omega) hr
          (try dsimp only)
          (try k_fold)
          k_steps
          rename Fr _ _ _ _ => F6
          rename News _ _ _ _ => N6
          refine Hold.go ?_
          refine ksw_end (x.e, n1 - 1, _) F6 N6 (mem_tail (mem_tail fun _ h => h)) trivial (by kst_all) (by intro z h2 h3; simp only [List.forall_mem_cons, List.not_mem_nil, false_implies, implies_true, and_true, ne_eq, List.contains_cons, List.contains_nil, Bool.or_false, beq_eq_false_iff_ne] at h2 h3; simp [kstB, h2, h3]) ⟨?_, ?_, ?_, (loopE_more hne hr (by omega)).symm.trans q4⟩ ?_ <;> dsimp only <;> omega
      · have hat : atEnd ks e1 := is_end (by omega) (by assumption) (by assumption)
        exact hso _ _ _ ⟨_, _, _, _, _, _⟩ _ _ _ _ _ _ (by assumption) (News.sub (by assumption) (mem_keep (mem_tail (mem_tail fun _ h => h)))) (he.trans (by rw [loopE_end hat (by omega)]; rfl))
    · exfalso; omega
    · exfalso; omega
    · exact hno _ _ (by assumption) (News.sub (by assumption) (mem_tail fun _ h => h)) ((hb (by assumption)).trans (bodyR_d (by assumption) (by assumption)))
    · refine Hold.go ?_
      rename Fr _ _ _ _ => F1
      rename News _ _ _ _ => N1
      have hS : big ks (i + 1) (ks.getD i.toNat 0 - 128) = List.foldl (fun s o => 256 * s + o) 0 (List.take (clipAt ks.length (i + 1 + (ks.getD i.toNat 0 - 128)) - clipAt ks.length (i + 1)) (List.drop (clipAt ks.length (i + 1)) ks)) := by
        rw [clip_take (by omega) (by omega) (by omega)]; rfl
      with_unfolding_all refine' KBw.iterBytes_acc1 (y := Str.ofString "size") (fun s o => 256 * s + o) (by kba_ints) (by rfl) F1 N1 (by rfl) (fun k9 t9 a9 ta9 h9 tk9 own9 hm9 hlo9 hhi9 hoff9 F9 N9 => ?_) (fun u9 t9 h9 tk9 F9 N9 => ?_)
      · clear F1 N1
        (try dsimp only)
        (try k_fold)
        k_steps
        rename Fr _ _ _ _ => F10
        rename News _ _ _ _ => N10
        refine Hold.go ?_
        exact InvEndN.intro F10 N10 ⟨rfl, ⟨_, by with_unfolding_all rfl⟩, by intro z h1 h2; simp [h1, h2]⟩ rfl (fun p hp => List.mem_append_left _ hp) (fun p hp => List.mem_append_right _ hp)
      · clear F1 N1
        (try dsimp only)
        (try k_fold)
        k_steps
        · exact hno _ _ (by assumption) (News.sub (by assumption) (mem_tail (mem_tail fun _ h => h))) ((hb (by assumption)).trans (bodyR_e (by assumption) (by assumption) hS (by assumption)))
        · exact hso _ _ _ ⟨_, _, _, _, _, _⟩ _ _ _ _ _ _ (by assumption) (News.sub (by assumption) (mem_keep (mem_tail (mem_tail fun _ h => h)))) ((hb (by assumption)).trans (bodyR_f (by assumption) (by assumption) (by assumption) hS (by assumption)))
    · exact hno _ _ (by assumption) (News.sub (by assumption) (mem_tail fun _ h => h)) ((hb (by assumption)).trans (bodyR_g (by assumption) (by assumption) (by assumption)))
    · exact hso _ _ _ ⟨_, _, _, _, _, _⟩ _ _ _ _ _ _ (by assumption) (News.sub (by assumption) (mem_keep (mem_tail fun _ h => h))) ((hb (by assumption)).trans (bodyR_h (by assumption) (by assumption) (by assumption) (by assumption)))
set_option maxRecDepth 100000 in
set_option maxHeartbeats 4000000 in
theorem lr_zero : PySem.Challenge.rw_jf0002_01 = PySem.Challenge.rw_jf0002_01 → ∀ w pr loose mean mg mb, LR w pr loose mean mg mb 0 := by
  unfold LR
  show _ → ∀ (w : World), (∀ _, _)
  k_fill
  intro _ w pr loose mean mg mb dp un gd cn cs a ccd cl outer A₀ base h₀ L m news s D ks t0 t1 t2 p d Q E B F X N T hk hks hD hp0 hp1 hd hdp hno hso
  refine wpAny_call ?_
  k_dflt (refine' code_def (binds := [(Str.ofString "data", .bytes D t0), (Str.ofString "place", .int p t1), (Str.ofString "depth", .int d t2)]) ?k1 ?k2 ?k3 ?k4 ?k5 ?kA ?kF ?kK ?k6 ?k7 ?k8 ?k9 ?kB ?_ ?c2 ?c3 ?c4 ?c5; (case kA => exact rfl); (case kF => exact rfl); (case kK => assumption); (case k1 => k_asm); (case k2 => k_asm); (case k3 => k_asm); (case k4 => k_asm); (case k5 => k_asm); (case k6 => k_is); (case k7 => k_is); (case k8 => (show dp < _; omega)); (case k9 => exact BindsTo.of_eq rfl); (case c5 => decide); (case kB => exact locs rfl); (case c2 => exact rfl); (case c3 => exact rfl); (case c4 => exact rfl); k_whole; intro g' L' h' FG' F' N' B' X' T'; (try dsimp only); (try k_fold))
  k_steps
  · exact hno _ _ (by assumption) (by assumption) rfl
  all_goals (exfalso; omega)
theorem lr_all (w : World) (pr : Program) (loose : List PySem.Str) (mean : ExcName → Option Value) (mg mb : PySem.Str → Option Value) : ∀ k, LR w pr loose mean mg mb k
  | 0 => lr_zero rfl w pr loose mean mg mb
  | k + 1 => lr_step rfl w pr loose mean mg mb k (lr_all w pr loose mean mg mb k)
end Mine
namespace Mine
section
variable {prog : Program} {w : World} {M : Model} {A : Around} {E : Value → Shared → Prop} {s : Shared} {h₀ : Heap} {L : Addr} {m : PySem.Str → Option Value} {news : List (Addr × Obj)}
/-- a bound built-in called with keywords -/
theorem cw_bound_kw {pos : Pos} {u : Addr} {first : List Value} {env : Env} {e : Expr} {rest : List Expr} {kws : List Keyword} {Q : Value → Shared → Prop}
    (hall : (backToKw pos (keywordEach kws env)).all (·.1.isSome) = true) (hplain : (backTo pos (starEach (e :: rest) env)).any (·.1) = false) (hkw : (backToKw pos (keywordEach kws env)).any (·.1.isNone) = false)
    (h : wpAny M A (spliced (backTo pos (starEach (e :: rest) env))) (fun vs s₁ => wpAny M A (evalAll ((backToKw pos (keywordEach kws env)).map (·.2)))
      (fun ks s₂ => KFB.StandsAt u s₂.heap ∧ wpAny M A (call (.ref u) (first ++ vs) (((backToKw pos (keywordEach kws env)).filterMap (·.1)).zip ks)) Q E s₂) E s₁) E s)
    (he : starEach (e :: rest) env = (false, eval e env) :: starEach rest env := by rfl) :
    wpAny M A (callWith pos (.ref u) first (backTo pos (starEach (e :: rest) env)) (backToKw pos (keywordEach kws env))) Q E s := by
  unfold callWith
  refine wpAny_bind (wpAny_holding (wpAny_mono (evalArgs_kw2 (Q := fun x s₁ => KFB.StandsAt u s₁.heap ∧ wpAny M A (call (.ref u) (first ++ x.pos) x.kw) Q E s₁) hall h he) (fun x s₁ h₁ => wpAny_bind (wpAny_standAt ?_)) fun _ _ x => x))
  obtain ⟨ho, hcall⟩ := h₁
  simp only [hplain, hkw, Bool.or_false]
  refine wpAny_bind (m := keeperOf (.ref u)) ?_
  unfold keeperOf
  refine wpAny_bind (wpAny_load ho ?_)
  simp only [KFB.bound, show (Value.type "builtin_function_or_method" != Value.type "method") = true by decide, show (Value.type "builtin_function_or_method" == Value.type "builtin_function_or_method" || Value.type "builtin_function_or_method" == Value.type "method-wrapper") = true by decide, if_true]
  refine wpAny_pure ?_
  exact wpAny_bind (wpAny_mono hcall (fun r s₂ hr => wpAny_bind (wpAny_holding (wpAny_point (wpAny_pure hr)))) fun _ _ x => x)
theorem grown_big {n : Nat} {Q : Value → Shared → Prop} (hn : n < 2 ^ 400) (h : Q (.int (n : Int) s.toks) { s with toks := s.toks + 1 }) : wpAny M A (mkIntGrown (n : Int)) Q E s := by
  unfold mkIntGrown
  have hl : ¬ ((n : Int).natAbs.log2 ≥ bitsLine) := by
    rw [Int.natAbs_natCast, bitsLine_eq]
    by_cases hz : n = 0
    · subst hz; decide
    · have h1 := (Nat.log2_lt hz).mpr hn
      omega
  rw [if_neg hl]
  exact wpAny_mkInt h
theorem fold_swap (l : List Int) (a : Int) : l.foldl (fun a k => a * 256 + k) a = l.foldl (fun s o => 256 * s + o) a := by
  congr 1
  funext s o
  omega
theorem tree_kw {b : Array UInt8} {t u : Tok} {P : Fin → Shared → Prop} (hl : b.size ≤ 48) (h : P (.done (.ret (.int ((KBw.bInts b).foldl (fun s o => 256 * s + o) 0) s.toks))) { s with toks := s.toks + 1 }) :
    wpAny M A (Builtin.«int.from_bytes» ⟨[.type "int", .bytes b t, .str (PySem.Str.ofString "big") u], [(PySem.Str.ofString "signed", .bool false)]⟩) P E s := by
  have hv : ((b.toList.foldl (fun (acc : Nat) (b : UInt8) => acc * 256 + b.toNat) 0 : Nat) : Int) = (KBw.bInts b).foldl (fun s o => 256 * s + o) 0 := (KFB.fold_cast b.toList 0).trans (fold_swap _ _)
  have hn : b.toList.foldl (fun (acc : Nat) (b : UInt8) => acc * 256 + b.toNat) 0 < 2 ^ 400 := by
    have h1 := KFB.fold_lt b.toList 0
    rw [Nat.zero_add, Nat.one_mul, Array.length_toList] at h1
    have h2 : 256 ^ b.size ≤ 256 ^ 48 := Nat.pow_le_pow_right (by decide) hl
    have h3 : 256 ^ 48 ≤ 2 ^ 400 := by decide +kernel
    exact Nat.lt_of_lt_of_le h1 (Nat.le_trans h2 h3)
  unfold Builtin.«int.from_bytes»
  refine wpAny_bind (wpAny_of_eq (a := true) KFB.type_int ?_)
  refine KFB.if_not rfl ?_
  refine wpAny_bind (wpAny_of_eq (a := true) F.conv_sub_int ?_)
  refine KFB.if_not rfl ?_
  refine wpAny_bind (wpAny_of_eq (a := [some (.bytes b t), some (.str (PySem.Str.ofString "big") u), some (.bool false)]) (by kernel_rfl) ?_)
  refine wpAny_bind (wpAny_of_eq (a := PySem.Str.ofString "big") (by kernel_rfl) ?_)
  refine wpAny_bind (wpAny_of_eq (a := false) (by first | rfl | kernel_rfl) ?_)
  refine wpAny_bind (wpAny_of_eq (a := false) (by kernel_rfl) ?_)
  refine wpAny_bind (wpAny_of_eq (a := b) rfl ?_)
  show wpAny _ _ (mkIntGrown (b.toList.foldl (fun (acc : Int) (b : UInt8) => acc * 256 + (b.toNat : Int)) ((0 : Nat) : Int)) >>= fun v => _) _ _ _
  rw [KFB.foldI_eq]
  refine wpAny_bind (grown_big hn ?_)
  rw [hv]
  refine KFB.if_so (by decide +kernel) ?_
  exact wpAny_bind (wpAny_pure (wpAny_pure h))
theorem check_kw {b : Array UInt8} {t u : Tok} {o : PySem.Str} : checkBoundCall "int.from_bytes" ⟨[.type "int", .bytes b t, .str o u], [(PySem.Str.ofString "signed", .bool false)]⟩ = pure () := by first | kernel_rfl | rfl
theorem call_kw {x : Addr} {b : Array UInt8} {t u : Tok} {Q : Value → Shared → Prop} (N : News h₀ L s.heap news) (hm : (x, KFB.bound) ∈ news) (hl : b.size ≤ 48)
    (h : Q (.int ((KBw.bInts b).foldl (fun s o => 256 * s + o) 0) s.toks) { s with toks := s.toks + 1 }) : wpAny (model prog w) A (call (.ref x) [.bytes b t, .str (PySem.Str.ofString "big") u] [(PySem.Str.ofString "signed", .bool false)]) Q E s := by
  refine wpAny_call (codeAny_of_tree ?_)
  show wpAny _ A.in1 (callAny (.ref x) ⟨[.bytes b t, .str (PySem.Str.ofString "big") u], [(PySem.Str.ofString "signed", .bool false)]⟩) _ _ s
  simp only [callAny]
  refine wpAny_bind (wpAny_load (N.get hm) ?_)
  simp only [KFB.bound, show (Value.type "builtin_function_or_method" == Value.type "method" || Value.type "builtin_function_or_method" == Value.type "builtin_function_or_method" || Value.type "builtin_function_or_method" == Value.type "method-wrapper") = true by decide, if_true]
  refine KFB.if_so (by decide) ?_
  refine wpAny_bind (wpAny_of_eq (a := ()) check_kw ?_)
  refine wpAny_bind (wpAny_pure (wpAny_pure ?_))
  exact ⟨KFB.quiet_fb, codeAny_builtin KFB.entry_fb (tree_kw hl h)⟩
end
def IFB : Prop :=
  ∀ (w : World) (pr : Program) (loose : List PySem.Str) (mean : ExcName → Option Value) (mg mb : PySem.Str → Option Value) (dp un : Nat) (gd : Option (List Code)) (cn : PySem.Str) (cs : Scope) (a : Addr) (ccd : Value) (cl : List (PySem.Str × Addr)) (outer : List Env) (A₀ : Around) (base h₀ : Heap) (L : Addr) (m : PySem.Str → Option Value) (news : List (Addr × Obj)) (s : Shared)
   (D : Array UInt8) (ks : List Int) (t0 : Tok) (Q E : Value → Shared → Prop),
    Below A₀ base outer h₀ → Fr h₀ L s.heap m → (hd.heap_39 w.params).In h₀ → News h₀ L s.heap news → Top pr loose mean mg mb h₀ → cs.kind = .function → 
    KBw.bInts D = ks → ks.length ≤ 48 → dp < recursionLimit →
    (∀ h' tk' t, Fr h₀ L h' m → News h₀ L h' news → Q (.int (ks.foldl (fun s o => 256 * s + o) 0) t) { s with heap := h', toks := tk' }) →
    wpAny (model PySem.Challenge.rw_jf0002_01.row.prog w) (ktrTop dp un gd cn cs L a ccd cl outer) (call (.ref 29) [.bytes D t0] [(Str.ofString "signed", .bool false)]) Q E s
set_option maxRecDepth 100000 in
set_option maxHeartbeats 4000000 in
theorem ifb : PySem.Challenge.rw_jf0002_01 = PySem.Challenge.rw_jf0002_01 → IFB := by
  unfold IFB
  k_fill
  intro _ w pr loose mean mg mb dp un gd cn cs a ccd cl outer A₀ base h₀ L m news s D ks t0 Q E B F X N T hk hks hD hdp hq
  refine wpAny_call ?_
  k_dflt (refine' code_def (binds := [(Str.ofString "value", .bytes D t0), (Str.ofString "signed", .bool false)]) ?k1 ?k2 ?k3 ?k4 ?k5 ?kA ?kF ?kK ?k6 ?k7 ?k8 ?k9 ?kB ?_ ?c2 ?c3 ?c4 ?c5; (case kA => exact rfl); (case kF => exact rfl); (case kK => assumption); (case k1 => k_asm); (case k2 => k_asm); (case k3 => k_asm); (case k4 => k_asm); (case k5 => k_asm); (case k6 => k_is); (case k7 => k_is); (case k8 => (show dp < _; omega)); (case c5 => decide); (case kB => exact locs rfl); (case c2 => exact rfl); (case c3 => exact rfl); (case c4 => exact rfl); (case k9 => first | exact BindsTo.of_eq rfl | k_dflt exact binds_K (by k_in) rfl (by k_is) rfl rfl rfl))
  intro g' L' h' FG' F' N' B' X' T'; (try dsimp only); (try k_fold)
  k_steps
  rename News _ _ _ _ => N1
  k_dflt (refine' cw_bound_kw (first := []) ?c1 ?c2 ?c3 ?c4; (case c1 => rfl); (case c2 => rfl); (case c3 => rfl))
  k_steps
  refine call_kw N1 (by k_mem) (by rw [← KBw.ints_length, hks]; exact hD) ?_
  rw [hks]
  (try dsimp only)
  k_steps
  exact hq _ _ _ (by assumption) (News.sub (by assumption) (mem_tail fun _ h => h))
end Mine
namespace Mine
def bigB : Int := 2 ^ 390
theorem bigB_ge : (1000 : Int) ≤ bigB := by decide +kernel
theorem bigB_le : bigB ≤ 10 ^ 130 := by decide +kernel
theorem log_of {x : Int} (h0 : 0 ≤ x) (h1 : x < bigB) : x.natAbs.log2 < 1920 := by
  obtain ⟨n, rfl⟩ := Int.eq_ofNat_of_zero_le h0
  rw [Int.natAbs_natCast]
  have h2 : n < 2 ^ 390 := by
    have e : bigB = ((2 ^ 390 : Nat) : Int) := by decide +kernel
    rw [e] at h1
    exact Int.ofNat_lt.mp h1
  by_cases hz : n = 0
  · subst hz; decide
  · have h3 := (Nat.log2_lt hz).mpr h2
    omega
local macro_rules | `(tactic| kpt_len) => `(tactic| exact toString_length_le (k := 130) (by assumption) (by decide) (by assumption))
local macro_rules | `(tactic| kpt_hd) => `(tactic| assumption)
set_option maxRecDepth 100000 in
set_option maxHeartbeats 4000000 in
theorem fmt_meets (x y : Int) (u v : Tok) (t : Tok) (b : Addr) (hx0 : 0 ≤ x) (hx1 : x < 10 ^ 130) (hx2 : x.natAbs.log2 < 1920) (hy0 : 0 ≤ y) (hy1 : y < 10 ^ 130) (hy2 : y.natAbs.log2 < 1920) {X' : PySem.Str} (hX : PySem.Str.ofString "Insufficient data - %s bytes requested but only %s available" = X') :
    ∃ T, Meets (Builtin.«str.__mod__» ⟨[.str X' t, .ref b], []⟩) (fun _ R s => IsTup s.heap b #[.int x u, .int y v] ∧ ∀ t' k, R (.ok (.ret (.str T t'))) { s with toks := k }) := by
  have e : X' = PySem.Str.mk #[73, 110, 115, 117, 102, 102, 105, 99, 105, 101, 110, 116, 32, 100, 97, 116, 97, 32, 45, 32, 37, 115, 32, 98, 121, 116, 101, 115, 32, 114, 101, 113, 117, 101, 115, 116, 101, 100, 32, 98, 117, 116, 32, 111, 110, 108, 121, 32, 37, 115, 32, 97, 118, 97, 105, 108, 97, 98, 108, 101] := by
    rw [← hX]; decide +kernel
  subst e
  clear hX
  apply Exists.intro
  k_dflt kpt_run
section
variable {prog : Program} {w : World} {A : Around} {E : Value → Shared → Prop} {s : Shared} {h₀ : Heap} {L b : Addr} {news : List (Addr × Obj)} {x y : Int} {t u v : Tok} {Q : Value → Shared → Prop}
theorem fmt (N : News h₀ L s.heap news) (hb : (b, ({ cls := .type "tuple", data := .seq #[.int x u, .int y v] } : Obj)) ∈ news) (hx0 : 0 ≤ x) (hx1 : x < bigB) (hy0 : 0 ≤ y) (hy1 : y < bigB)
    (h : ∀ T t' k, Q (.str T t') { s with toks := k }) : wpAny (model prog w) A (binaryOp .Mod (.str (PySem.Str.ofString "Insufficient data - %s bytes requested but only %s available") t) (.ref b)) Q E s := by
  obtain ⟨T, hm⟩ := fmt_meets x y u v t b hx0 (Int.lt_of_lt_of_le hx1 bigB_le) (log_of hx0 hx1) hy0 (Int.lt_of_lt_of_le hy1 bigB_le) (log_of hy0 hy1) rfl
  exact KPt.mod_tuple N hb rfl hm (fun t' k => h T t' k)
end
theorem big_lt {ks : List Int} (hin : ∀ v ∈ ks, 0 ≤ v ∧ v < 256) (hl : ks.length ≤ 48) (a c : Int) : big ks a c + 100 < bigB := by
  have f : ∀ (l : List Int), (∀ v ∈ l, 0 ≤ v ∧ v < 256) → ∀ s : Int, 0 ≤ s → l.foldl (fun s o => 256 * s + o) s < (s + 1) * 256 ^ l.length := by
    intro l
    induction l with
    | nil => intro _ s hs; simp; omega
    | cons v r ih =>
      intro hv s hs
      rw [List.foldl_cons, List.length_cons, Int.pow_succ]
      have h1 := hv v List.mem_cons_self
      have h2 := ih (fun u hu => hv u (List.mem_cons_of_mem _ hu)) (256 * s + v) (by omega)
      have h3 : (256 * s + v + 1) * 256 ^ r.length ≤ ((s + 1) * 256) * 256 ^ r.length := Int.mul_le_mul_of_nonneg_right (by omega) (Int.le_of_lt (Int.pow_pos (by decide)))
      have e : (s + 1) * (256 ^ r.length * 256) = ((s + 1) * 256) * (256 : Int) ^ r.length := by rw [Int.mul_comm ((256 : Int) ^ r.length) 256, Int.mul_assoc]
      rw [e]
      exact Int.lt_of_lt_of_le h2 h3
  have h1 := f ((ks.drop a.toNat).take c.toNat) (fun v hv => hin v (List.mem_of_mem_drop (List.mem_of_mem_take hv))) 0 (Int.le_refl _)
  have h2 : ((ks.drop a.toNat).take c.toNat).length ≤ 48 := by
    rw [List.length_take, List.length_drop]; omega
  have h3 : (256 : Int) ^ ((ks.drop a.toNat).take c.toNat).length ≤ 256 ^ 48 := by
    have := Nat.pow_le_pow_right (n := 256) (by decide) h2
    have e : ∀ n : Nat, (256 : Int) ^ n = ((256 ^ n : Nat) : Int) := fun n => (Int.natCast_pow 256 n).symm
    rw [e, e]
    exact Int.ofNat_le.mpr this
  have h4 : (256 : Int) ^ 48 + 100 < bigB := by decide +kernel
  have h5 : big ks a c < 256 ^ ((ks.drop a.toNat).take c.toNat).length := by
    have := h1
    rw [Int.zero_add, Int.one_mul] at this
    exact this
  generalize (256 : Int) ^ 48 = z at *
  omega
theorem clip_cut {ks : List Int} {a b : Int} (h0 : 0 ≤ a) (h1 : a ≤ b) (h2 : b ≤ ks.length) : List.take (clipAt ks.length b - clipAt ks.length a) (List.drop (clipAt ks.length a) ks) = (ks.drop a.toNat).take (b - a).toNat := by
  have := clip_take (ks := ks) (a := a) (c := b - a) h0 (by omega) (by omega)
  rw [show a + (b - a) = b by omega] at this
  exact this
end Mine
namespace Mine
abbrev tupP (l : List Value) : Obj := { cls := .type "tuple", data := .seq l.toArray 0 }
def cut (ks : List Int) (a b : Int) : List Int := (ks.drop a.toNat).take (b - a).toNat
/-- the two ways in which _parse is called -/
inductive PF (D : Array UInt8) (t0 : Tok) (n : Int) (t1 : Tok) : List Value → List (PySem.Str × Value) → Int → Tok → Bool → Int → Tok → Prop
  | top : PF D t0 n t1 [.bytes D t0, .int n t1] [] 0 232 false 0 233
  | deep (p : Int) (t2 : Tok) (d : Int) (t3 : Tok) : PF D t0 n t1 [.bytes D t0, .int n t1, .int p t2] [(Str.ofString "lengths_only", .bool true), (Str.ofString "depth", .int d t3)] p t2 true d t3
def PR (w : World) (pr : Program) (loose : List PySem.Str) (mean : ExcName → Option Value) (mg mb : PySem.Str → Option Value) (k : Nat) : Prop :=
  ∀ (dp un : Nat) (gd : Option (List Code)) (cn : PySem.Str) (cs : Scope) (a : Addr) (ccd : Value) (cl : List (PySem.Str × Addr)) (outer : List Env) (A₀ : Around) (base h₀ : Heap) (L : Addr) (m : PySem.Str → Option Value) (news : List (Addr × Obj)) (s : Shared)
   (D : Array UInt8) (ks : List Int) (t0 t1 t2 t3 : Tok) (p d : Int) (lo : Bool) (pos : List Value) (kw : List (PySem.Str × Value)) (Q E : Value → Shared → Prop),
    Below A₀ base outer h₀ → Fr h₀ L s.heap m → (hd.heap_39 w.params).In h₀ → News h₀ L s.heap news → Top pr loose mean mg mb h₀ → cs.kind = .function → 
    PF D t0 (ks.length : Int) t1 pos kw p t2 lo d t3 → 
    KBw.bInts D = ks → ks.length ≤ 48 → 0 ≤ p → p ≤ ks.length → d = 11 - (k : Int) → dp + k < recursionLimit →
    (∀ e g2 h' tk', Fr h₀ L g2 m → RaisedN base (envX cn cs L a ccd cl :: outer) e (.type "ValueError") news h' → g2.UpToSlots h' → rd ks k p = none → E (.ref e) { s with heap := h', toks := tk' }) →
    (lo = true → ∀ r h' tk' (x : R6) u0 u1, Fr h₀ L h' m → News h₀ L h' ((r, tupP [.int x.h u0, .int x.e u1]) :: news) → rd ks k p = some x → Q (.ref r) { s with heap := h', toks := tk' }) →
    (lo = false → ∀ r r2 h' tk' (x : R6) u0 u1 u2 u3 (b1 : Array UInt8) v1 (b2 : Array UInt8) v2 (b3 : Array UInt8) v3, Fr h₀ L h' m →
      News h₀ L h' ((r, tupP [.ref r2, .int x.e u3]) :: (r2, tupP [.int x.c u0, .int x.m u1, .int x.t u2, .bytes b1 v1, .bytes b2 v2, .bytes b3 v3]) :: news) → rd ks k p = some x →
      KBw.bInts b1 = cut ks p x.h → KBw.bInts b2 = cut ks x.h x.ce → KBw.bInts b3 = cut ks x.ce x.e → Q (.ref r) { s with heap := h', toks := tk' }) →
    wpAny (model PySem.Challenge.rw_jf0002_01.row.prog w) (ktrTop dp un gd cn cs L a ccd cl outer) (call (.ref 52) pos kw) Q E s

local macro_rules | `(tactic| walk_at "exec If") => `(tactic| ((with_reducible show wpAny _ _ (exec (Stmt.If (Expr.Compare (Expr.Name (Str.ofString "tag") _) [CmpOp.Eq] _ _) _ _ _) _) _ _ _); refine hold ?_))
local macro_rules | `(tactic| walk_at "exec If") => `(tactic| ((with_reducible show wpAny _ _ (exec (Stmt.If (Expr.Compare (Expr.BinOp (Expr.Name (Str.ofString "length_octet") _) _ _ _) _ _ _) _ _ _) _) _ _ _); refine hold ?_))
local macro_rules | `(tactic| walk_at "exec While") => `(tactic| (refine hold ?_))
local macro_rules | `(tactic| walk_at "call ref") => `(tactic| ((with_reducible show wpAny _ _ (call (Value.ref 52) _ _) _ _ _); refine hold ?_))
local macro_rules | `(tactic| walk_at "call ref") => `(tactic| ((with_reducible show wpAny _ _ (call (Value.ref 29) _ _) _ _ _); refine hold ?_))
local macro_rules | `(tactic| walk_at "Join") => `(tactic| ((with_reducible show Join _ _ _ _ _ _ _ (Flow.ret _) _); dsimp only [Join]))
local macro_rules | `(tactic| walk_at "binaryOp Mod str ref") => `(tactic| (k_here; (with_reducible show wpAny _ _ (binaryOp Operator.Mod (Value.str _ _) (Value.ref _)) _ _ _); k_dflt (refine' fmt ?fN ?fb ?f1 ?f2 ?f3 ?f4 ?_; (case fN => k_asm); (case fb => k_mem); (case f1 => (try rw [b127]); omega); (case f2 => (have hB9 := bigB_ge; (try rw [b127]); omega)); (case f3 => omega); (case f4 => (have hB9 := bigB_ge; omega))); intro _ _ _))
local macro_rules | `(tactic| walk_at "KswEnd") => `(tactic| (refine hold ?_))
/-- the state behind the length -/
structure S3 where
  ptr : Int
  cend : Int
  tp : Tok
  tc : Tok
  tr : Tok
  b : Array UInt8
  ls : List Int
  o1 : Option Value
  o2 : Option Value
structure P3 (ks : List Int) (k : Nat) (p first tag : Int) (x : S3) : Prop where
  h1 : KBw.bInts x.b = x.ls
  h2 : x.ls.length ≤ 2
  h3 : p < x.ptr
  h4 : x.ptr ≤ ks.length
  h5 : x.ptr ≤ x.cend - x.ls.length
  h6 : x.cend < bigB
  h7 : (ks.length : Int) < x.cend → rd ks (k + 1) p = none
  h8 : x.cend ≤ ks.length → rd ks (k + 1) p = some ⟨first.fdiv 64, (first.fdiv 32).fmod 2, tag, x.ptr, x.cend - x.ls.length, x.cend⟩ ∧ x.ls = cut ks (x.cend - x.ls.length) x.cend
set_option maxRecDepth 100000 in
set_option maxHeartbeats 4000000 in
theorem pr_step : PySem.Challenge.rw_jf0002_01 = PySem.Challenge.rw_jf0002_01 → ∀ w pr loose mean mg mb k, PR w pr loose mean mg mb k → PR w pr loose mean mg mb (k + 1) := by
  unfold PR
  show _ → ∀ (w : World), (∀ _, _)
  k_fill
  intro _ w pr loose mean mg mb k ih dp un gd cn cs a ccd cl outer A₀ base h₀ L m news s D ks t0 t1 t2 t3 p d lo pos kw Q E B F X N T hk hform hks hD hp0 hp1 hd hdp hra hlo hso
  refine wpAny_call ?_
  k_dflt (refine' code_def (binds := [(Str.ofString "encoded_data", .bytes D t0), (Str.ofString "data_len", .int ks.length t1), (Str.ofString "pointer", .int p t2), (Str.ofString "lengths_only", .bool lo), (Str.ofString "depth", .int d t3)]) ?k1 ?k2 ?k3 ?k4 ?k5 ?kA ?kF ?kK ?k6 ?k7 ?k8 ?k9 ?kB ?_ ?c2 ?c3 ?c4 ?c5; (case kA => exact rfl); (case kF => exact rfl); (case kK => assumption); (case k1 => k_asm); (case k2 => k_asm); (case k3 => k_asm); (case k4 => k_asm); (case k5 => k_asm); (case k6 => k_is); (case k7 => k_is); (case k8 => (show dp < _; omega)); (case c5 => decide); (case kB => exact locs rfl); (case c2 => exact rfl); (case c3 => exact rfl); (case c4 => exact rfl))
  case k9 =>
    cases hform
    · first | exact BindsTo.of_eq rfl | k_dflt exact binds_K (by k_in) rfl (by k_is) rfl rfl rfl
    · first | exact BindsTo.of_eq rfl | k_dflt exact binds_K (by k_in) rfl (by k_is) rfl rfl rfl
  intro g' L' h' FG' F' N' B' X' T'; (try dsimp only); (try k_fold)
  have hin := ints_all hks
  k_steps
  · exact hra _ _ _ _ FG' (RaisedN.sub (by assumption) (mem_tail fun _ h => h)) (by assumption) (rd_none1 (by omega))
  refine Hold.go ?_
  rename Fr _ _ _ _ => F1
  rename News _ _ _ _ => N1
  rw [b1, b31] at F1
  with_unfolding_all refine' join_rule (X := Int × Int × Tok × Tok × Option Value) F1 N1 (fun x => hdr ks p = some (x.1, x.2.1) ∧ p + 1 ≤ x.2.1 ∧ x.2.1 ≤ ks.length) (fun m₀ x y => if y = "tag" then some (.int x.1 x.2.2.1) else if y = "pointer" then some (.int x.2.1 x.2.2.2.1) else if y = "num" then x.2.2.2.2 else m₀ y) ?_ ?_
  · k_fold
    refine wpAny_If ?_
    k_steps
    · -- the octets of a high tag
      refine Hold.go ?_
      rename Fr _ _ _ _ => F2
      rename News _ _ _ _ => N2
      with_unfolding_all refine' join_rule (X := Int × Int × Tok × Tok × Option Value) F2 N2 (fun x => ∃ j t, tagL ks (p + 1) 0 = (j, t) ∧ x.1 = 128 * t + ks.getD j.toNat 0 ∧ x.2.1 = j + 1 ∧ p + 1 ≤ j ∧ j < ks.length ∧ ks.getD (p + 1).toNat 0 ≠ 128) (fun m₀ x y => if y = "tag" then some (.int x.1 x.2.2.1) else if y = "pointer" then some (.int x.2.1 x.2.2.2.1) else if y = "num" then x.2.2.2.2 else m₀ y) ?_ ?_
      · k_fold
        with_unfolding_all refine' ksw_while (σ := Int × Int × Tok × Tok) (fun _ => _) (fun c => [(Str.ofString "tag", .int c.2.1 c.2.2.2), (Str.ofString "pointer", .int c.1 c.2.2.1)]) (fun _ => True) [Str.ofString "num"] (fun c => tagL ks c.1 c.2.1 = tagL ks (p + 1) 0 ∧ p + 1 ≤ c.1 ∧ c.1 ≤ ks.length ∧ 0 ≤ c.2.1 ∧ ((c.1 = p + 1 ∧ c.2.1 = 0) ∨ (0 < c.2.1 ∧ ks.getD (p + 1).toNat 0 ≠ 128))) (fun c => (ks.length - c.1).toNat) (p + 1, 0, _, _) F2 N2 trivial ?hk1 ⟨rfl, Int.le_refl _, by (show p + 1 ≤ _; omega), Int.le_refl _, .inl ⟨rfl, rfl⟩⟩ ?turn1
        case hk1 => kst_all
        rintro ⟨i1, tg1, ti1, tt1⟩ u h3 tk3 _ ⟨q1, q2, q3, q4, q5⟩ F3 N3
        clear F2 N2
        (try dsimp only at q1 q2 q3 q4 q5 F3 N3)
        k_fold
        k_steps
        · exact hra _ _ _ _ FG' (RaisedN.sub (by assumption) (mem_tail fun _ h => h)) (by assumption) (rd_none2 (hdr_none (by assumption) (q1.symm.trans (tagL_end (by omega))) (by omega)))
        · have g128 : ks.getD (p + 1).toNat 0 = 128 := by
            rcases q5 with ⟨e, _⟩ | ⟨e, _⟩
            · rw [← e]; assumption
            · omega
          exact hra _ _ _ _ FG' (RaisedN.sub (by assumption) fun _ h => h) (by assumption) (rd_none2 (hdr_none (i := (tagL ks (p + 1) 0).1) (tg := (tagL ks (p + 1) 0).2) (by assumption) rfl (.inr (.inl g128))))
        · exfalso
          have := shr7_lt (by assumption) (by assumption)
          omega
        · rename Fr _ _ _ _ => F4
          rename News _ _ _ _ => N4
          have hge := shr7_ge (by assumption) (by assumption)
          rw [b127, show ks.getD i1.toNat 0 % 128 = ks.getD i1.toNat 0 - 128 by omega] at F4
          refine Hold.go ?_
          refine ksw_end (i1 + 1, tg1 * 128 + (ks.getD i1.toNat 0 - 128), _, _) F4 N4 (fun _ h => h) trivial (by kst_all) (by intro z h2 h3; simp only [List.forall_mem_cons, List.not_mem_nil, false_implies, implies_true, and_true, ne_eq, List.contains_cons, List.contains_nil, Bool.or_false, beq_eq_false_iff_ne] at h2 h3; simp [kstB, h2, h3]) ⟨?_, ?_, ?_, ?_, ?_⟩ ?_ <;> dsimp only
          · rw [show tg1 * 128 + (ks.getD i1.toNat 0 - 128) = 128 * tg1 + ks.getD i1.toNat 0 - 128 by omega]
            exact (tagL_go (by omega) (by omega)).symm.trans q1
          · omega
          · omega
          · omega
          · rcases q5 with e | e <;> omega
          · omega
        · rename Fr _ _ _ _ => F4
          rename News _ _ _ _ => N4
          have hlt := shr7_lt (by assumption) (by assumption)
          rw [b127, show ks.getD i1.toNat 0 % 128 = ks.getD i1.toNat 0 by omega] at F4
          refine ⟨(tg1 * 128 + ks.getD i1.toNat 0, i1 + 1, _, _, _), _, _, rfl, ⟨i1, tg1, q1.symm.trans (tagL_end (by omega)), ?_, rfl, q2, ?_, ?_⟩, Fr.cong F4 (map_cong [Str.ofString "tag", Str.ofString "pointer", Str.ofString "num"] (by kst_all) (by intro y hy; simp only [List.mem_cons, List.not_mem_nil, or_false, not_or] at hy; simp [kstB, hy])), N4⟩
          · dsimp only; omega
          · omega
          · rcases q5 with ⟨e, _⟩ | ⟨_, e⟩
            · rw [← e]; assumption
            · exact e
        · rename Fr _ _ _ _ => F4
          rename News _ _ _ _ => N4
          have hge := shr7_ge (by assumption) (by assumption)
          rw [b127, show ks.getD i1.toNat 0 % 128 = ks.getD i1.toNat 0 - 128 by omega] at F4
          refine Hold.go ?_
          refine ksw_end (i1 + 1, tg1 * 128 + (ks.getD i1.toNat 0 - 128), _, _) F4 N4 (fun _ h => h) trivial (by kst_all) (by intro z h2 h3; simp only [List.forall_mem_cons, List.not_mem_nil, false_implies, implies_true, and_true, ne_eq, List.contains_cons, List.contains_nil, Bool.or_false, beq_eq_false_iff_ne] at h2 h3; simp [kstB, h2, h3]) ⟨?_, ?_, ?_, ?_, ?_⟩ ?_ <;> dsimp only
          · rw [show tg1 * 128 + (ks.getD i1.toNat 0 - 128) = 128 * tg1 + ks.getD i1.toNat 0 - 128 by omega]
            exact (tagL_go (by omega) (by omega)).symm.trans q1
          · omega
          · omega
          · omega
          · refine .inr ⟨by omega, ?_⟩
            rcases q5 with ⟨e, _⟩ | ⟨_, e⟩
            · rw [← e]; assumption
            · exact e
          · omega
      · rintro ⟨tg2, i2, tt2, ti2, us2⟩ h3 tk3 ⟨j, t, q1, q2, q3, q4, q5, q6⟩ F3 N3
        clear F2 N2
        (try dsimp only at q2 q3 F3 N3)
        k_steps
        · exact hra _ _ _ _ FG' (RaisedN.sub (by assumption) fun _ h => h) (by assumption) (rd_none2 (hdr_none (by assumption) q1 (by omega)))
        · rename Fr _ _ _ _ => F4
          rename News _ _ _ _ => N4
          exact ⟨(tg2, i2, _, _, _), _, _, rfl, ⟨by rw [q2, q3]; exact hdr_high (by assumption) q1 (by omega) q6 (by omega), (by show p + 1 ≤ i2; omega), (by show i2 ≤ _; omega)⟩, Fr.cong F4 (map_cong [Str.ofString "tag", Str.ofString "pointer", Str.ofString "num"] (by kst_all) (by intro y hy; simp only [List.mem_cons, List.not_mem_nil, or_false, not_or] at hy; simp [hy])), N4⟩
    · exact ⟨((ks.getD p.toNat 0).fmod 32, p + 1, _, _, none), _, _, rfl, ⟨hdr_low (by assumption), Int.le_refl _, (by show p + 1 ≤ _; omega)⟩, Fr.cong F1 (map_cong [Str.ofString "tag", Str.ofString "pointer", Str.ofString "num"] (by kst_all) (by intro y hy; simp only [List.mem_cons, List.not_mem_nil, or_false, not_or] at hy; simp [hy])), N1⟩
  · rintro ⟨tg, i, tt, ti, us⟩ h2 tk2 ⟨hh, hi0, hi1⟩ F2 N2
    clear F1 N1
    (try dsimp only at hh hi0 hi1 F2)
    have hb := rd_body (k := k) (show ¬ (ks.length : Int) ≤ p by omega) hh
    k_steps
    · exact hra _ _ _ _ FG' (RaisedN.sub (by assumption) (mem_tail fun _ h => h)) (by assumption) (hb.trans (bodyR_a (by omega)))
    refine Hold.go ?_
    rename Fr _ _ _ _ => F3
    rename News _ _ _ _ => N3
    (try clear F2 N2)
    with_unfolding_all refine' join_rule (X := S3) F3 N3 (P3 ks k p (ks.getD p.toNat 0) tg) (fun m₀ x y => if y = "pointer" then some (.int x.ptr x.tp) else if y = "contents_end" then some (.int x.cend x.tc) else if y = "trailer" then some (.bytes x.b x.tr) else if y = "length_octets" then x.o1 else if y = "_" then x.o2 else m₀ y) ?_ ?_
    · k_fold
      refine wpAny_If ?_
      have hgi := getD0 hin i
      k_steps
      · -- the length in one octet
        rename Fr _ _ _ _ => F4
        rename News _ _ _ _ => N4
        have hlt := shr7_lt (by assumption) hgi.1
        have hB := bigB_ge
        rw [b127, show ks.getD i.toNat 0 % 128 = ks.getD i.toNat 0 by omega] at F4
        refine ⟨⟨i + 1, i + 1 + ks.getD i.toNat 0, _, _, _, #[], [], _, _⟩, _, _, rfl, ⟨rfl, Nat.zero_le _, ?_, ?_, ?_, ?_, ?_, ?_⟩, Fr.cong F4 (map_cong [Str.ofString "pointer", Str.ofString "contents_end", Str.ofString "trailer", Str.ofString "length_octets", Str.ofString "_"] (by kst_all) (by intro y hy; simp only [List.mem_cons, List.not_mem_nil, or_false, not_or] at hy; simp [hy])), N4⟩ <;> dsimp only
        · omega
        · omega
        · simp only [List.length_nil]; omega
        · omega
        · intro h; exact hb.trans (bodyR_g (by omega) (by omega) (by omega))
        · intro h
          refine ⟨hb.trans ?_, ?_⟩
          · rw [bodyR_h (by omega) (by omega) (by omega) (by omega)]; simp
          · simp [cut]
      · rename Builtin.bitAnd _ _ ≠ 0 => hc
        rename _ < _ + Builtin.bitAnd _ _ => hs9
        rw [b127] at hc hs9
        have hge := shr7_ge (by assumption) hgi.1
        exact hra _ _ _ _ FG' (RaisedN.sub (by assumption) (mem_tail fun _ h => h)) (by assumption) (hb.trans (bodyR_d (by omega) (by omega)))
      · -- the length in more octets
        refine Hold.go ?_
        rename Builtin.bitAnd _ _ ≠ 0 => hc
        rename ¬ (_ < _ + Builtin.bitAnd _ _) => hs9
        rename KBw.bInts (KBy.picked _ _ _) = _ => hk9
        rename Fr _ _ _ _ => F4
        rename News _ _ _ _ => N4
        have hge := shr7_ge (by assumption) hgi.1
        have e128 : Builtin.bitAnd (ks.getD i.toNat 0) 127 = ks.getD i.toNat 0 - 128 := by
          rw [b127]; omega
        rw [e128] at hc hs9
        have hk8 : KBw.bInts (KBy.picked D (some (i + 1 + Builtin.bitAnd (ks.getD i.toNat 0) 127 - Builtin.bitAnd (ks.getD i.toNat 0) 127)) (some (i + 1 + Builtin.bitAnd (ks.getD i.toNat 0) 127))) = (ks.drop (i + 1).toNat).take (ks.getD i.toNat 0 - 128).toNat := by
          rw [hk9, e128, show i + 1 + (ks.getD i.toNat 0 - 128) - (ks.getD i.toNat 0 - 128) = i + 1 by omega]
          exact clip_take (by omega) (by omega) (by omega)
        k_dflt (refine ifb rfl w pr loose mean mg mb _ _ _ _ _ _ _ _ _ _ _ _ _ _ _ _ _ _ _ _ _ B' F4 X' N4 T' rfl hk8 (by rw [List.length_take, List.length_drop]; omega) (by show dp + 1 < _; omega) ?_)
        intro h5 tk5 t5 F5 N5
        clear F4 N4
        have hbig := big_lt hin hD (i + 1) (ks.getD i.toNat 0 - 128)
        have hbn := big_nn hin (i + 1) (ks.getD i.toNat 0 - 128)
        change Fr g' L' h5 _ at F5
        generalize hS : List.foldl (fun (s o : Int) => 256 * s + o) 0 (List.take (ks.getD i.toNat 0 - 128).toNat (List.drop (i + 1).toNat ks)) = S
        replace hS : big ks (i + 1) (ks.getD i.toNat 0 - 128) = S := hS
        rw [hS] at hbig hbn
        (try dsimp only)
        (try k_fold)
        k_steps
        rename Fr _ _ _ _ => F6
        rename News _ _ _ _ => N6
        rw [e128] at F6
        refine ⟨⟨i + 1 + (ks.getD i.toNat 0 - 128), i + 1 + (ks.getD i.toNat 0 - 128) + S, _, _, _, #[], [], _, _⟩, _, _, rfl, ⟨rfl, Nat.zero_le _, ?_, ?_, ?_, ?_, ?_, ?_⟩, Fr.cong F6 (map_cong [Str.ofString "pointer", Str.ofString "contents_end", Str.ofString "trailer", Str.ofString "length_octets", Str.ofString "_"] (by kst_all) (by intro y hy; simp only [List.mem_cons, List.not_mem_nil, or_false, not_or] at hy; simp [hy])), N6⟩ <;> dsimp only
        · omega
        · omega
        · simp only [List.length_nil]; omega
        · omega
        · intro h; exact hb.trans (bodyR_e (by omega) (by omega) hS (by omega))
        · intro h
          refine ⟨hb.trans ?_, ?_⟩
          · rw [bodyR_f (by omega) (by omega) (by omega) hS (by omega)]; simp
          · simp [cut]
      · -- no length: the elements within
        refine Hold.go ?_
        rename Builtin.bitAnd _ _ = 0 => hc
        rename (Int.fdiv _ 32).fmod 2 ≠ 0 => hm9
        rename Fr _ _ _ _ => F4
        rename News _ _ _ _ => N4
        have e128 : ks.getD i.toNat 0 = 128 := by
          have hge := shr7_ge (by assumption) hgi.1
          rw [b127] at hc; omega
        with_unfolding_all refine' ksw_while (σ := Int × Nat × Tok) (fun _ => _) (fun c => [(Str.ofString "contents_end", .int c.1 c.2.2)]) (fun _ => True) [Str.ofString "_"] (fun c => i + 1 ≤ c.1 ∧ c.1 ≤ ks.length ∧ (ks.length : Int) - c.1 < c.2.1 ∧ loopE ks (rd ks k) c.2.1 c.1 = loopE ks (rd ks k) 50 (i + 1)) (fun c => c.2.1) (i + 1, 50, _) F4 N4 trivial ?hk3 ⟨Int.le_refl _, by (show i + 1 ≤ _; omega), by (show (ks.length : Int) - (i + 1) < ((50 : Nat) : Int); omega), rfl⟩ ?turn3
        case hk3 => kst_all
        rintro ⟨e1, n1, te1⟩ u h3 tk3 _ ⟨q1, q2, q3, q4⟩ F3 N3
        clear F4 N4
        (try dsimp only at q1 q2 q3 q4 F3 N3)
        have he := hb
        rw [bodyR_c (by omega) e128 hm9, ← q4] at he
        (try k_fold)
        k_steps
        · refine Hold.go ?_
          rename Fr _ _ _ _ => F4
          rename News _ _ _ _ => N4
          have hne : ¬ atEnd ks e1 := fun q => by have := q.1; omega
          k_dflt (refine ih _ _ _ _ _ _ _ _ _ _ _ _ _ _ _ _ D ks _ _ _ _ e1 (d + 1) true _ _ _ _ B' F4 X' N4 T' rfl (PF.deep _ _ _ _) hks hD (by omega) q2 (by omega) (by show dp + 1 + k < _; omega) ?_ ?_ ?_)
          · intro ex g2 h5 tk5 Fg R5 U5 hr
            (try dsimp only)
            k_steps
            exact hra _ _ _ _ FG' (RaisedN.sub (by assumption) fun _ h => h) (by assumption) (he.trans (by rw [loopE_none hne hr]; rfl))
          · intro _ r h5 tk5 x u0 u1 F5 N5 hr
            clear F4 N4
            have hx := rd_in hin (by omega) hr
            (try dsimp only)
            (try k_fold)
            k_steps
            rename Fr _ _ _ _ => F6
            rename News _ _ _ _ => N6
            refine Hold.go ?_
            refine ksw_end (x.e, n1 - 1, _) F6 N6 (mem_tail fun _ h => h) trivial (by kst_all) (by intro z h2 h3; simp only [List.forall_mem_cons, List.not_mem_nil, false_implies, implies_true, and_true, ne_eq, List.contains_cons, List.contains_nil, Bool.or_false, beq_eq_false_iff_ne] at h2 h3; simp [kstB, h2, h3]) ⟨?_, ?_, ?_, (loopE_more hne hr (by omega)).symm.trans q4⟩ ?_ <;> dsimp only <;> omega
          · intro h; cases h
        · refine Hold.go ?_
          rename Fr _ _ _ _ => F4
          rename News _ _ _ _ => N4
          have hne : ¬ atEnd ks e1 := ne_end (by omega) (by assumption) (by assumption)
          k_dflt (refine ih _ _ _ _ _ _ _ _ _ _ _ _ _ _ _ _ D ks _ _ _ _ e1 (d + 1) true _ _ _ _ B' F4 X' N4 T' rfl (PF.deep _ _ _ _) hks hD (by omega) q2 (by omega) (by show dp + 1 + k < _; omega) ?_ ?_ ?_)
          · intro ex g2 h5 tk5 Fg R5 U5 hr
            (try dsimp only)
            k_steps
            exact hra _ _ _ _ FG' (RaisedN.sub (by assumption) fun _ h => h) (by assumption) (he.trans (by rw [loopE_none hne hr]; rfl))
          · intro _ r h5 tk5 x u0 u1 F5 N5 hr
            clear F4 N4
            have hx := rd_in hin (by omega) hr
            (try dsimp only)
            (try k_fold)
            k_steps
            rename Fr _ _ _ _ => F6
            rename News _ _ _ _ => N6
            refine Hold.go ?_
            refine ksw_end (x.e, n1 - 1, _) F6 N6 (mem_tail fun _ h => h) trivial (by kst_all) (by intro z h2 h3; simp only [List.forall_mem_cons, List.not_mem_nil, false_implies, implies_true, and_true, ne_eq, List.contains_cons, List.contains_nil, Bool.or_false, beq_eq_false_iff_ne] at h2 h3; simp [kstB, h2, h3]) ⟨?_, ?_, ?_, (loopE_more hne hr (by omega)).symm.trans q4⟩ ?_ <;> dsimp only <;> omega
          · intro h; cases h
        · have hat : atEnd ks e1 := is_end (by omega) (by assumption) (by assumption)
          have hcut : (ks.drop e1.toNat).take (e1 + 2 - e1).toNat = [0, 0] := (clip_cut (by omega) (by omega) (by omega)).symm.trans ((take2_iff (by omega)).mpr hat)
          have hm1 : ((ks.getD p.toNat 0).fdiv 32).fmod 2 = 1 := by
            rw [mod_e (by decide)] at hm9 ⊢; omega
          have hB := bigB_ge
          rename Fr _ _ _ _ => F6
          rename News _ _ _ _ => N6
          refine ⟨⟨i + 1, e1 + 2, _, _, _, #[0, 0], [0, 0], _, _⟩, _, _, rfl, ⟨rfl, Nat.le_refl _, ?_, ?_, ?_, ?_, ?_, ?_⟩, Fr.cong F6 (map_cong [Str.ofString "pointer", Str.ofString "contents_end", Str.ofString "trailer", Str.ofString "length_octets", Str.ofString "_"] (by kst_all) (by intro y hy; simp only [List.mem_cons, List.not_mem_nil, or_false, not_or] at hy; simp [kstB, hy])), N6⟩ <;> dsimp only
          · omega
          · omega
          · simp only [List.length_cons, List.length_nil]; omega
          · omega
          · intro h; omega
          · intro h
            have e2 : e1 + 2 - (([0, 0] : List Int).length : Int) = e1 := by simp only [List.length_cons, List.length_nil]; omega
            refine ⟨he.trans ?_, ?_⟩
            · rw [loopE_end hat (by omega), hm1, e2]; rfl
            · rw [e2]; exact hcut.symm
      · rename Builtin.bitAnd _ _ = 0 => hc
        have hge := shr7_ge (by assumption) hgi.1
        rw [b127] at hc
        exact hra _ _ _ _ FG' (RaisedN.sub (by assumption) fun _ h => h) (by assumption) (hb.trans (bodyR_b (by omega) (by assumption)))
    · rintro ⟨ptr, cend, tp, tc, ttr, tb, ls, o1, o2⟩ h3 tk3 hP F4 N4
      (try clear F3 N3)
      obtain ⟨p1, p2, p3, p4, p5, p6, p7, p8⟩ := hP
      (try dsimp only at p1 p2 p3 p4 p5 p6 p7 p8 F4 N4)
      k_steps
      · exact hra _ _ _ _ FG' (RaisedN.sub (by assumption) (mem_tail fun _ h => h)) (by assumption) (p7 (by omega))
      · exact hlo (by assumption) _ _ _ _ _ _ (by assumption) (by assumption) (p8 (by omega)).1
      · rename News _ _ _ _ => N9
        obtain ⟨p9, p10⟩ := p8 (by omega)
        rename KBw.bInts (KBy.picked D (some p) (some ptr)) = _ => g1
        rename KBw.bInts (KBy.picked D (some ptr) _) = _ => g2
        exact hso (by assumption) _ _ _ _ _ _ _ _ _ _ _ _ _ _ _ (by assumption) N9 p9 (g1.trans (clip_cut (a := p) (b := ptr) (by omega) (by omega) (by omega))) (g2.trans (clip_cut (a := ptr) (b := cend - ls.length) (by omega) (by omega) (by omega))) (p1.trans p10)
set_option maxRecDepth 100000 in
set_option maxHeartbeats 4000000 in
theorem pr_zero : PySem.Challenge.rw_jf0002_01 = PySem.Challenge.rw_jf0002_01 → ∀ w pr loose mean mg mb, PR w pr loose mean mg mb 0 := by
  unfold PR
  show _ → ∀ (w : World), (∀ _, _)
  k_fill
  intro _ w pr loose mean mg mb dp un gd cn cs a ccd cl outer A₀ base h₀ L m news s D ks t0 t1 t2 t3 p d lo pos kw Q E B F X N T hk hform hks hD hp0 hp1 hd hdp hra hlo hso
  refine wpAny_call ?_
  k_dflt (refine' code_def (binds := [(Str.ofString "encoded_data", .bytes D t0), (Str.ofString "data_len", .int ks.length t1), (Str.ofString "pointer", .int p t2), (Str.ofString "lengths_only", .bool lo), (Str.ofString "depth", .int d t3)]) ?k1 ?k2 ?k3 ?k4 ?k5 ?kA ?kF ?kK ?k6 ?k7 ?k8 ?k9 ?kB ?_ ?c2 ?c3 ?c4 ?c5; (case kA => exact rfl); (case kF => exact rfl); (case kK => assumption); (case k1 => k_asm); (case k2 => k_asm); (case k3 => k_asm); (case k4 => k_asm); (case k5 => k_asm); (case k6 => k_is); (case k7 => k_is); (case k8 => (show dp < _; omega)); (case c5 => decide); (case kB => exact locs rfl); (case c2 => exact rfl); (case c3 => exact rfl); (case c4 => exact rfl))
  case k9 =>
    cases hform
    · first | exact BindsTo.of_eq rfl | k_dflt exact binds_K (by k_in) rfl (by k_is) rfl rfl rfl
    · first | exact BindsTo.of_eq rfl | k_dflt exact binds_K (by k_in) rfl (by k_is) rfl rfl rfl
  intro g' L' h' FG' F' N' B' X' T'; (try dsimp only); (try k_fold)
  k_steps
  · exact hra _ _ _ _ FG' (RaisedN.sub (by assumption) fun _ h => h) (by assumption) rfl
  all_goals (exfalso; omega)
theorem pr_all (w : World) (pr : Program) (loose : List PySem.Str) (mean : ExcName → Option Value) (mg mb : PySem.Str → Option Value) : ∀ k, PR w pr loose mean mg mb k
  | 0 => pr_zero rfl w pr loose mean mg mb
  | k + 1 => pr_step rfl w pr loose mean mg mb k (pr_all w pr loose mean mg mb k)
end Mine
namespace Mine
theorem RaisedK.toN {base h : Heap} {l : List Env} {e t : Addr} {cls : Value} {vs : List Value} {news : List (Addr × Obj)} (R : RaisedK base l e cls t vs news h) : RaisedN base l e cls news h := by
  obtain ⟨⟨B, hB, hl, hf, _⟩, _⟩ := R
  exact ⟨B, _, hB, hl, hf⟩
/-- parse, called once -/
def PC : Prop :=
  ∀ (w : World) (pr : Program) (loose : List PySem.Str) (mean : ExcName → Option Value) (mg mb : PySem.Str → Option Value) (dp un : Nat) (gd : Option (List Code)) (cn : PySem.Str) (cs : Scope) (a : Addr) (ccd : Value) (cl : List (PySem.Str × Addr)) (outer : List Env) (A₀ : Around) (base h₀ : Heap) (L : Addr) (m : PySem.Str → Option Value) (news : List (Addr × Obj)) (s : Shared)
   (D : Array UInt8) (ks : List Int) (t0 : Tok) (st : Bool) (Q E : Value → Shared → Prop),
    Below A₀ base outer h₀ → Fr h₀ L s.heap m → (hd.heap_39 w.params).In h₀ → News h₀ L s.heap news → Top pr loose mean mg mb h₀ → cs.kind = .function → 
    KBw.bInts D = ks → ks.length ≤ 48 → dp + 20 < recursionLimit →
    (∀ e g2 h' tk', Fr h₀ L g2 m → RaisedN base (envX cn cs L a ccd cl :: outer) e (.type "ValueError") news h' → g2.UpToSlots h' → (∀ x, rd ks 11 0 = some x → st = true ∧ x.e ≠ ks.length) → E (.ref e) { s with heap := h', toks := tk' }) →
    (∀ r h' tk' (x : R6) u0 u1 u2 (b1 : Array UInt8) v1 (b2 : Array UInt8) v2 (b3 : Array UInt8) v3, Fr h₀ L h' m →
      News h₀ L h' ((r, tupP [.int x.c u0, .int x.m u1, .int x.t u2, .bytes b1 v1, .bytes b2 v2, .bytes b3 v3]) :: news) → rd ks 11 0 = some x → (st = true → x.e = ks.length) →
      KBw.bInts b1 = cut ks 0 x.h → KBw.bInts b2 = cut ks x.h x.ce → KBw.bInts b3 = cut ks x.ce x.e → Q (.ref r) { s with heap := h', toks := tk' }) →
    wpAny (model PySem.Challenge.rw_jf0002_01.row.prog w) (ktrTop dp un gd cn cs L a ccd cl outer) (call (.ref 37) [.bytes D t0] [(Str.ofString "strict", .bool st)]) Q E s
/-- peek, called once -/
def PK : Prop :=
  ∀ (w : World) (pr : Program) (loose : List PySem.Str) (mean : ExcName → Option Value) (mg mb : PySem.Str → Option Value) (dp un : Nat) (gd : Option (List Code)) (cn : PySem.Str) (cs : Scope) (a : Addr) (ccd : Value) (cl : List (PySem.Str × Addr)) (outer : List Env) (A₀ : Around) (base h₀ : Heap) (L : Addr) (m : PySem.Str → Option Value) (news : List (Addr × Obj)) (s : Shared)
   (D : Array UInt8) (ks : List Int) (t0 : Tok) (Q E : Value → Shared → Prop),
    Below A₀ base outer h₀ → Fr h₀ L s.heap m → (hd.heap_39 w.params).In h₀ → News h₀ L s.heap news → Top pr loose mean mg mb h₀ → cs.kind = .function → 
    KBw.bInts D = ks → ks.length ≤ 48 → dp + 20 < recursionLimit →
    (∀ e g2 h' tk', Fr h₀ L g2 m → RaisedN base (envX cn cs L a ccd cl :: outer) e (.type "ValueError") news h' → g2.UpToSlots h' → rd ks 11 0 = none → E (.ref e) { s with heap := h', toks := tk' }) →
    (∀ h' tk' (x : R6) u, Fr h₀ L h' m → News h₀ L h' news → rd ks 11 0 = some x → Q (.int x.e u) { s with heap := h', toks := tk' }) →
    wpAny (model PySem.Challenge.rw_jf0002_01.row.prog w) (ktrTop dp un gd cn cs L a ccd cl outer) (call (.ref 44) [.bytes D t0] []) Q E s
local macro_rules | `(tactic| walk_at "call ref") => `(tactic| ((with_reducible show wpAny _ _ (call (Value.ref 52) _) _ _ _); refine hold ?_))
set_option maxRecDepth 100000 in
set_option maxHeartbeats 4000000 in
theorem pk : PySem.Challenge.rw_jf0002_01 = PySem.Challenge.rw_jf0002_01 → PK := by
  unfold PK
  k_fill
  intro _ w pr loose mean mg mb dp un gd cn cs a ccd cl outer A₀ base h₀ L m news s D ks t0 Q E B F X N T hk hks hD hdp hra hso
  refine wpAny_call ?_
  k_dflt (refine' code_def (binds := [(Str.ofString "contents", .bytes D t0)]) ?k1 ?k2 ?k3 ?k4 ?k5 ?kA ?kF ?kK ?k6 ?k7 ?k8 ?k9 ?kB ?_ ?c2 ?c3 ?c4 ?c5; (case kA => exact rfl); (case kF => exact rfl); (case kK => assumption); (case k1 => k_asm); (case k2 => k_asm); (case k3 => k_asm); (case k4 => k_asm); (case k5 => k_asm); (case k6 => k_is); (case k7 => k_is); (case k8 => (show dp < _; omega)); (case c5 => decide); (case kB => exact locs rfl); (case c2 => exact rfl); (case c3 => exact rfl); (case c4 => exact rfl); (case k9 => first | exact BindsTo.of_eq rfl | k_dflt exact binds_K (by k_in) rfl (by k_is) rfl rfl rfl))
  intro g' L' h' FG' F' N' B' X' T'; (try dsimp only); (try k_fold)
  k_steps
  refine Hold.go ?_
  rename Fr _ _ _ _ => F2
  rename News _ _ _ _ => N2
  k_dflt (refine pr_all _ _ _ _ _ _ 11 _ _ _ _ _ _ _ _ _ _ _ _ _ _ _ _ D ks _ _ _ _ _ _ _ _ _ _ _ B' F2 X' N2 T' rfl PF.top hks hD (Int.le_refl _) (by omega) rfl (by show dp + 1 + 11 < recursionLimit; omega) ?_ ?_ ?_)
  · intro e3 g3 h3 tk3 Fg3 R3 U3 hx
    (try dsimp only)
    (try k_fold)
    k_steps
    exact hra _ _ _ _ FG' (by assumption) (by assumption) hx
  · intro q; cases q
  · intro _ r3 r4 h3 tk3 x w0 w1 w2 w3 b1 v1 b2 v2 b3 v3 F3 N3 hx hb1 hb2 hb3
    clear F2 N2
    (try dsimp only)
    (try k_fold)
    k_steps
    exact hso _ _ _ _ (by assumption) (News.sub (by assumption) (mem_tail (mem_tail fun _ h => h))) hx
set_option maxRecDepth 100000 in
set_option maxHeartbeats 4000000 in
theorem pc : PySem.Challenge.rw_jf0002_01 = PySem.Challenge.rw_jf0002_01 → PC := by
  unfold PC
  k_fill
  intro _ w pr loose mean mg mb dp un gd cn cs a ccd cl outer A₀ base h₀ L m news s D ks t0 st Q E B F X N T hk hks hD hdp hra hso
  refine wpAny_call ?_
  k_dflt (refine' code_def (binds := [(Str.ofString "contents", .bytes D t0), (Str.ofString "strict", .bool st)]) ?k1 ?k2 ?k3 ?k4 ?k5 ?kA ?kF ?kK ?k6 ?k7 ?k8 ?k9 ?kB ?_ ?c2 ?c3 ?c4 ?c5; (case kA => exact rfl); (case kF => exact rfl); (case kK => assumption); (case k1 => k_asm); (case k2 => k_asm); (case k3 => k_asm); (case k4 => k_asm); (case k5 => k_asm); (case k6 => k_is); (case k7 => k_is); (case k8 => (show dp < _; omega)); (case c5 => decide); (case kB => exact locs rfl); (case c2 => exact rfl); (case c3 => exact rfl); (case c4 => exact rfl); (case k9 => first | exact BindsTo.of_eq rfl | k_dflt exact binds_K (by k_in) rfl (by k_is) rfl rfl rfl))
  intro g' L' h' FG' F' N' B' X' T'; (try dsimp only); (try k_fold)
  k_steps
  refine Hold.go ?_
  rename Fr _ _ _ _ => F2
  rename News _ _ _ _ => N2
  k_dflt (refine pr_all _ _ _ _ _ _ 11 _ _ _ _ _ _ _ _ _ _ _ _ _ _ _ _ D ks _ _ _ _ _ _ _ _ _ _ _ B' F2 X' N2 T' rfl PF.top hks hD (Int.le_refl _) (by omega) rfl (by show dp + 1 + 11 < recursionLimit; omega) ?_ ?_ ?_)
  · intro e3 g3 h3 tk3 Fg3 R3 U3 hx
    (try dsimp only)
    (try k_fold)
    k_steps
    exact hra _ _ _ _ FG' (by assumption) (by assumption) (fun x q => by rw [hx] at q; cases q)
  · intro q; cases q
  · intro _ r3 r4 h3 tk3 x w0 w1 w2 w3 b1 v1 b2 v2 b3 v3 F3 N3 hx hb1 hb2 hb3
    clear F2 N2
    have hxe := rd_in (ints_all hks) (Int.le_refl _) hx
    (try dsimp only)
    (try k_fold)
    k_steps
    · exact hra _ _ _ _ FG' (RaisedN.sub (by assumption) (mem_tail (mem_tail fun _ h => h))) (by assumption) (fun y q => by obtain rfl := Option.some.inj (hx.symm.trans q); exact ⟨by assumption, by assumption⟩)
    · exact hso _ _ _ x _ _ _ _ _ _ _ _ _ (by assumption) (News.sub (by assumption) (mem_tail fun _ h => h)) hx (fun _ => by assumption) hb1 hb2 hb3
    · exact hso _ _ _ x _ _ _ _ _ _ _ _ _ (by assumption) (News.sub (by assumption) (mem_tail fun _ h => h)) hx (fun q => nomatch (q.symm.trans (by assumption : st = false))) hb1 hb2 hb3
end Mine
namespace Mine
section
variable {prog : Program} {w : World} {A : Around} {E : Value → Shared → Prop} {s : Shared} {h₀ : Heap} {L a b : Addr} {news : List (Addr × Obj)} {Q : Value → Shared → Prop}
/-- two tuples of the ledger whose items are equal one by one -/
theorem tup_eq {xs ys : List Value} (N : News h₀ L s.heap news) (ha : (a, ({ cls := .type "tuple", data := .seq xs.toArray 0 } : Obj)) ∈ news) (hb : (b, ({ cls := .type "tuple", data := .seq ys.toArray 0 } : Obj)) ∈ news)
    (hl : xs.length = ys.length) (he : ∀ p ∈ xs.zip ys, ∀ A' s', SeqAt.EqAt A' s' p.1 p.2 true) (hu : A.units < cLine) (h : Q (.bool true) s) :
    wpAny (model prog w) A (compareOp .Eq (.ref a) (.ref b)) Q E s := by
  have ga := N.get ha
  have gb := N.get hb
  have ta : s.TypeIs (.ref a) "tuple" := ⟨_, ga, rfl⟩
  have tb : s.TypeIs (.ref b) "tuple" := ⟨_, gb, rfl⟩
  refine cmp_ofEq ?_
  refine wpAny_richCompare_same_room (op := .Eq) ta tb F.slot_tuple_eq
    (call_meets F.slot_tuple_eq ta F.entry_tuple_eq (F.args_tuple_eq_2 _ _) (SeqAt.tuple_eqAt a b xs.toArray ys.toArray 0 0 none none #[] #[] (fun _ => true)) ⟨ga, gb, ?_, ?_⟩) hu
  · intro j h1 h2
    have h3 : j < xs.length := by simpa using h1
    have h4 : j < ys.length := by simpa using h2
    have hz : j < (xs.zip ys).length := by rw [List.length_zip]; omega
    have e : (xs.zip ys)[j] = (xs[j], ys[j]) := by simp
    have := he (xs[j], ys[j]) (e ▸ List.getElem_mem hz)
    simpa using this _ _
  · have e : ((List.range (min xs.toArray.size ys.toArray.size)).all (fun _ => true) && xs.toArray.size == ys.toArray.size) = true := by simp [hl]
    rw [e]
    exact ⟨(fun e => nomatch e), h⟩
theorem eqAt_int {i : Int} {t u : Tok} : ∀ A' s', SeqAt.EqAt A' s' (.int i t) (.int i u) true := fun A' s' prog w E Q hq => wpAny_eqBool_int (by rw [beq_self_eq_true]; exact hq)
theorem eqAt_bytes {b c : Array UInt8} {t u : Tok} (h : KBw.bInts b = KBw.bInts c) : ∀ A' s', SeqAt.EqAt A' s' (.bytes b t) (.bytes c u) true := fun A' s' prog w E Q hq => eqBool_bytes (by rw [decide_eq_true (toList_of_ints h)]; exact hq)
end
end Mine
namespace Mine
theorem data48 {f : Int → Int} {l : List Int} {n : Nat} (h : KBa.In (List.map f (List.take (min 49 n - 1) l))) : ∃ D ks, byteArr (List.map f (List.take (min 49 n - 1) l)) = D ∧ KBw.bInts D = ks ∧ ks.length ≤ 48 :=
  ⟨_, _, rfl, KBa.ints_make h, by rw [List.length_map, List.length_take]; omega⟩
section
variable {prog : Program} {w : World} {A₀ : Around} {E : Value → Shared → Prop} {s' : Shared} {h₀ h : Heap} {outer : List Env} {L a e : Addr} {m : PySem.Str → Option Value} {cn : PySem.Str} {cs : Scope} {ccd : Value} {cl : List (PySem.Str × Addr)}
  {b₀ : Stmt} {suite : List Stmt} {pos np : Pos} {rest : List ExceptHandler} {Q : Flow → Shared → Prop} {news : List (Addr × Obj)} {KF : Frag}
  {p : Program} {loose : List PySem.Str} {mg mb : PySem.Str → Option Value}
/-- a ValueError from below, caught in a frame that has cells -/
theorem caughtX (K : Below A₀ h₀ outer h₀) (F : Fr h₀ L h m) (hsm : h.UpToSlots s'.heap) (R : RaisedN h₀ (envX cn cs L a ccd cl :: outer) e (.type "ValueError") news s'.heap)
    (T : TopRead p loose mg mb h₀) (X : KF.In h₀) (ex : nsIn KF mainGlobals (PySem.Str.ofString "ValueError") = some none) (hk : cs.kind = .function) (hx : (envX cn cs L a ccd cl).kindOf (PySem.Str.ofString "ValueError") = some .globalImplicit)
    (hE : PassesOwnAt (model prog w) ((A₀.deeper (envX cn cs L a ccd cl)).mark (some (.ref e))) (A₀.deeper (envX cn cs L a ccd cl)) (envX cn cs L a ccd cl) E)
    (k : ∀ h', Fr h₀ L h' m → News h₀ L h' news → wpAny (model prog w) ((A₀.deeper (envX cn cs L a ccd cl)).mark (some (.ref e))) (execs (b₀ :: suite) (envX cn cs L a ccd cl)) Q E { s' with heap := h' }) :
    wpAny (model prog w) (A₀.deeper (envX cn cs L a ccd cl)) (noteFrame (.ref e) (envX cn cs L a ccd cl))
      (fun _ s₂ => wpAny (model prog w) (A₀.deeper (envX cn cs L a ccd cl)) (setFlight (.ref e) none) (fun _ s₃ =>
        wpAny (model prog w) (A₀.deeper (envX cn cs L a ccd cl)) (handleBy (.ref e) (envX cn cs L a ccd cl) (.ExceptHandler (some (.Name (PySem.Str.ofString "ValueError") np)) none (b₀ :: suite) pos :: rest)) Q E s₃) E s₂) E s' := by
  obtain ⟨B, a0, hB, hl, hfl⟩ := R
  have hL : B.get? L = none := by
    obtain ⟨_, ⟨L', _, hf, hn', _⟩, _⟩ := hfl.2.2.1
    rw [show L = L' from Option.some.inj hf]
    exact hn'
  refine wpAny_looks_onW (Around.frames_deeper K.stack) rfl hfl fun h4 held4 sm4 => ?_
  refine wpAny_landsW held4 fun h5 held5 sm5 => ?_
  have fly5 := flyingW_base hB held5
  have F5 := F.of_stays fly5.1 (hsm.trans (sm4.trans sm5))
  obtain ⟨ob, hob, hobc⟩ := fly5.there
  refine wpAny_handleBy_builtin (X := "ValueError") (T := "ValueError") (b := true) PySem.F.isExc_ValueError PySem.F.notTuple_ValueError (by rw [isSubtype_type]; kernel_rfl)
    (nameX_B F5 X T ex PyProof.Rows.Boot.«ValueError» (by decide) ⟨rfl, ⟨ob, hob, hobc⟩, ?_⟩ hk hx)
  refine lands_againW held5 fun h6 fly6 sm6 => ?_
  have F6 := F.of_stays (flyingW_base hB fly6).1 ((hsm.trans (sm4.trans sm5)).trans sm6)
  exact wpAny_passesOwnAt hE (k h6 F6 fun q hq => ⟨fly6.1 _ _ (hl q hq).1, (fun z => by have := (hl q hq).1; rw [z, hL] at this; cases this), (hl q hq).2⟩)
end
theorem cut_front {ks : List Int} {b : Int} (h1 : 0 ≤ b) (h2 : b ≤ ks.length) : cut ks 0 b = List.take (clipAt ks.length b) ks := by
  rw [clipAt_in h1 h2]
  unfold cut
  simp
theorem dec_or {p q : Prop} [Decidable p] (h : decide p = true → q) : ¬ p ∨ q := by
  by_cases hp : p
  · exact .inr (h (decide_eq_true hp))
  · exact .inl hp
local macro_rules | `(tactic| walk_at "compareOp Eq ref ref") => `(tactic| (refine hold ?_))
local macro_rules | `(tactic| walk_at "exec Try") => `(tactic| (refine wpAny_Try_except ?_))
local macro_rules | `(tactic| walk_at "noteFrame ref") => `(tactic| (k_here; (with_reducible rename RaisedN _ _ _ _ _ _ => rkX); k_dflt (refine' caughtX ?cK ?cF ?cU rkX ?cT ?cX ?ce ?ck ?cx ?cE ?_; (case cU => assumption); (case cF => assumption); (case cK => assumption); (case cT => k_asm); (case cX => k_asm); (case ce => k_is); (case ck => rfl); (case cx => rfl); (case cE => first | passes_own | with_unfolding_all passes_own)); intro h' F' N'; (try k_sweep)))
local macro_rules | `(tactic| walk_at "call ref") => `(tactic| ((with_reducible show wpAny _ _ (call (Value.ref 59) _) _ _ _); refine hold ?_))
local macro_rules | `(tactic| walk_at "call ref") => `(tactic| ((with_reducible show wpAny _ _ (call (Value.ref 37) _ _) _ _ _); refine hold ?_))
local macro_rules | `(tactic| walk_at "call ref") => `(tactic| ((with_reducible show wpAny _ _ (call (Value.ref 44) _) _ _ _); refine hold ?_))
set_option maxRecDepth 100000 in
set_option maxHeartbeats 4000000 in
theorem top : PySem.Challenge.rw_jf0002_01.Holds := hd (by
  k_go0
  all_goals try k_fold
  k_steps
  all_goals (
    refine Hold.go ?_
    rename Fr _ _ _ _ => F1
    rename News _ _ _ _ => N1
    rename Below _ _ _ _ => K0
    rename Top _ _ _ _ _ _ => T0
    rename Frag.In _ _ => X0
    rename KBa.In _ => hin9
    obtain ⟨D, ks, eD, hks, h48⟩ := data48 hin9
    rw [eD] at F1 ⊢
    clear eD hin9
    k_dflt (refine lr_all _ _ _ _ _ _ 11 _ _ _ _ _ _ _ _ _ _ _ _ _ _ _ _ D ks _ _ _ _ _ _ _ K0 F1 X0 N1 T0 rfl hks h48 (Int.le_refl _) (by omega) rfl (by decide) ?_ ?_)
    · intro h5 tk5 F5 N5 hr
      clear F1 N1
      (try dsimp only)
      (try k_fold)
      k_steps
      refine Hold.go ?_
      rename Fr _ _ _ _ => F2
      rename News _ _ _ _ => N2
      k_dflt (refine pc rfl _ _ _ _ _ _ _ _ _ _ _ _ _ _ _ _ _ _ _ _ _ _ D ks _ _ _ _ K0 F2 X0 N2 T0 rfl hks h48 (by show callerA.depth + 1 + 20 < recursionLimit; decide) ?_ ?_)
      · intro e3 g3 h3 tk3 Fg3 R3 U3 _
        clear F2 N2
        (try dsimp only)
        (try k_fold)
        k_steps
        all_goals (
          refine Hold.go ?_
          rename Fr _ _ _ _ => F4
          rename News _ _ _ _ => N4
          k_dflt (refine pk rfl _ _ _ _ _ _ _ _ _ _ _ _ _ _ _ _ _ _ _ _ _ _ D ks _ _ _ K0 F4 X0 N4 T0 rfl hks h48 (by show callerA.depth + 1 + 20 < recursionLimit; decide) ?_ ?_)
          · intro e5 g5 h6 tk6 Fg5 R5 U5 _
            clear F4 N4
            (try dsimp only)
            (try k_fold)
            k_steps
          · intro h6 tk6 x2 u9 F6 N6 hx2
            rw [hr] at hx2; cases hx2)
      · intro r3 h3 tk3 x u0 u1 u2 b1 v1 b2 v2 b3 v3 F3 N3 hx
        rw [hr] at hx; cases hx
    · intro r h5 tk5 x u0 u1 u2 u3 u4 u5 F5 N5 hr
      clear F1 N1
      obtain ⟨i1, i2, i3, i4, i5⟩ := rd_inR (ints_all hks) 11 0 x (Int.le_refl _) hr
      (try dsimp only)
      (try k_fold)
      k_steps
      refine Hold.go ?_
      rename Fr _ _ _ _ => F2
      rename News _ _ _ _ => N2
      k_dflt (refine pc rfl _ _ _ _ _ _ _ _ _ _ _ _ _ _ _ _ _ _ _ _ _ _ D ks _ _ _ _ K0 F2 X0 N2 T0 rfl hks h48 (by show callerA.depth + 1 + 20 < recursionLimit; decide) ?_ ?_)
      · intro e3 g3 h3 tk3 Fg3 R3 U3 hst
        clear F2 N2
        obtain ⟨hm, hne⟩ := hst x hr
        replace hm := of_decide_eq_true hm
        clear hst
        (try dsimp only)
        (try k_fold)
        k_steps
        all_goals (
          refine Hold.go ?_
          rename Fr _ _ _ _ => F4
          rename News _ _ _ _ => N4
          k_dflt (refine pk rfl _ _ _ _ _ _ _ _ _ _ _ _ _ _ _ _ _ _ _ _ _ _ D ks _ _ _ K0 F4 X0 N4 T0 rfl hks h48 (by show callerA.depth + 1 + 20 < recursionLimit; decide) ?_ ?_)
          · intro e5 g5 h6 tk6 Fg5 R5 U5 hx2
            rw [hr] at hx2; cases hx2
          · intro h6 tk6 x2 u9 F6 N6 hx2
            obtain rfl : x = x2 := Option.some.inj (hr.symm.trans hx2)
            clear F4 N4 hx2
            (try dsimp only)
            (try k_fold)
            k_steps
            all_goals (first
              | (exfalso; omega)
              | (exact absurd hm (by decide))
              | (refine Hold.go ?_
                 rename News _ _ _ _ => N8
                 rename KBw.bInts (KBy.picked D none _) = _ => g1
                 rename KBw.bInts (KBy.picked D (some x.h) _) = _ => g2
                 rename KBw.bInts (KBy.picked D (some x.ce) _) = _ => g3
                 k_dflt (refine' tup_eq N8 ?tq1 ?tq2 ?tq3 ?_ ?tq4 ?_; (case tq1 => k_mem); (case tq2 => k_mem); (case tq3 => rfl); (case tq4 => (show callerA.units + 3 < cLine; decide)))
                 · simp only [List.zip_cons_cons, List.zip_nil_left, List.forall_mem_cons]
                   exact ⟨eqAt_int, eqAt_int, eqAt_int, eqAt_bytes (hb1.trans ((cut_front (by omega) (by omega)).trans g1.symm)), eqAt_bytes (hb2.trans (g2.trans (clip_cut (by omega) (by omega) (by omega))).symm), eqAt_bytes (hb3.trans (g3.trans (clip_cut (by omega) (by omega) (by omega))).symm), fun _ h => nomatch h⟩
                 · k_steps)))
      · intro r3 h3 tk3 x' w0 w1 w2 b1 v1 b2 v2 b3 v3 F3 N3 hx hst hb1 hb2 hb3
        obtain rfl : x = x' := Option.some.inj (hr.symm.trans hx)
        clear F2 N2 hx
        (try dsimp only)
        (try k_fold)
        replace hst := dec_or hst
        rcases hst with hm | he
        all_goals k_steps
        all_goals (
          refine Hold.go ?_
          rename Fr _ _ _ _ => F4
          rename News _ _ _ _ => N4
          k_dflt (refine pk rfl _ _ _ _ _ _ _ _ _ _ _ _ _ _ _ _ _ _ _ _ _ _ D ks _ _ _ K0 F4 X0 N4 T0 rfl hks h48 (by show callerA.depth + 1 + 20 < recursionLimit; decide) ?_ ?_)
          · intro e5 g5 h6 tk6 Fg5 R5 U5 hx2
            rw [hr] at hx2; cases hx2
          · intro h6 tk6 x2 u9 F6 N6 hx2
            obtain rfl : x = x2 := Option.some.inj (hr.symm.trans hx2)
            clear F4 N4 hx2
            (try dsimp only)
            (try k_fold)
            k_steps
            all_goals (first
              | (exfalso; omega)
              | (exact absurd hm (by decide))
              | (refine Hold.go ?_
                 rename News _ _ _ _ => N8
                 rename KBw.bInts (KBy.picked D none _) = _ => g1
                 rename KBw.bInts (KBy.picked D (some x.h) _) = _ => g2
                 rename KBw.bInts (KBy.picked D (some x.ce) _) = _ => g3
                 k_dflt (refine' tup_eq N8 ?tq1 ?tq2 ?tq3 ?_ ?tq4 ?_; (case tq1 => k_mem); (case tq2 => k_mem); (case tq3 => rfl); (case tq4 => (show callerA.units + 3 < cLine; decide)))
                 · simp only [List.zip_cons_cons, List.zip_nil_left, List.forall_mem_cons]
                   exact ⟨eqAt_int, eqAt_int, eqAt_int, eqAt_bytes (hb1.trans ((cut_front (by omega) (by omega)).trans g1.symm)), eqAt_bytes (hb2.trans (g2.trans (clip_cut (by omega) (by omega) (by omega))).symm), eqAt_bytes (hb3.trans (g3.trans (clip_cut (by omega) (by omega) (by omega))).symm), fun _ h => nomatch h⟩
                 · k_steps)))))
end Mine
theorem PySem.Challenge.cw_jf0002_01_holds : PySem.Challenge.rw_jf0002_01.Holds := by
  exact Mine.top
