import PyProof.Rows.All
import Wide.All
import OpenK.AllK
import Wide.FinOn
import PySem.Challenge.RW_mq0105_01
open PySem PySem.W PyProof.Rows
set_option Elab.async false
set_option linter.unusedSimpArgs false
section
namespace Mine
set_option maxRecDepth 100000 in
set_option maxHeartbeats 8000000 in
open_top hd for PySem.Challenge.rw_mq0105_01
end Mine
end
section
set_option maxRecDepth 100000
namespace Mine
open PySem.Builtin

theorem slot_bytes_lt : Slot "bytes" (cmpInfo .Lt).2.1 "bytes.__lt__" :=
  .of (owner := "bytes") (n := "__lt__") (by rw [typeLookup_type, builtinLookup_eq_fast]; kernel_rfl) (by decide +kernel) (by decide +kernel) (by decide +kernel)
    (by first | exact .inl (by decide +kernel) | exact .inr (by decide +kernel)) (by rw [isSubtype_type]; kernel_rfl)
theorem entry_bytes_lt : entryFor table "bytes.__lt__" = some Builtin.«bytes.__lt__» := entryFor_of_tree (by kernel_rfl)
theorem args_bytes_lt (a b : Value) : argsOk "bytes.__lt__" ⟨[a, b], []⟩ := by
  unfold argsOk; rw [signature?_of (id := "bytes.__lt__") (n := ['_', '_', 't', 'l', '_', '_']) (o := ['s', 'e', 't', 'y', 'b']) (by kernel_rfl) FB.owner_bytes]; kernel_rfl
theorem gives_bytes_lt (b c : Array UInt8) (t u : Tok) : Gives («bytes.__lt__» ⟨[.bytes b t, .bytes c u], []⟩) (.val (.bool (Builtin.Bytes.order b.toList c.toList == .lt))) := by
  refine .of_wp fun M A E s Q hq => ?_
  show wpAny M A (isInstance (.bytes c u) (.type "bytes") >>= fun r => _) _ E s
  refine wpAny_bind (wpAny_isInstance (typeIs_bytes s c u) F.sub_bytes_bytes ?_)
  exact wpAny_pure ⟨_, rfl, hq⟩

/-- an entry of the heap: the text's octets and the place -/
abbrev Ent := List UInt8 × Int
def elt (x y : Ent) : Bool := if x.1 = y.1 then decide (x.2 < y.2) else (Builtin.Bytes.order x.1 y.1 == .lt)
abbrev tupO (e : Ent) (t u : Tok) : Obj := { cls := .type "tuple", data := .seq #[.bytes e.1.toArray t, .int e.2 u] }

section
variable {prog : Program} {w : World} {A : Around} {E : Value → Shared → Prop} {s : Shared}
theorem lt_bytes {b c : Array UInt8} {t u : Tok} {Q : Value → Shared → Prop} (h : Q (.bool (Builtin.Bytes.order b.toList c.toList == .lt)) s) : wpAny (model prog w) A (richCompare .Lt (.bytes b t) (.bytes c u)) Q E s :=
  richCompare_gives (op := .Lt) (T := "bytes") rfl rfl slot_bytes_lt entry_bytes_lt (args_bytes_lt _ _) (gives_bytes_lt b c t u) (fun x => nomatch x) h

theorem lt_tup {a b : Addr} {x y : Ent} {t1 u1 t2 u2 : Tok} {Q : Value → Shared → Prop} (hu : A.units + 8 < cLine) (ha : s.heap.get? a = some (tupO x t1 u1)) (hb : s.heap.get? b = some (tupO y t2 u2))
    (h : Q (.bool (elt x y)) s) : wpAny (model prog w) A (compareOp .Lt (.ref a) (.ref b)) Q E s := by
  refine cmp_ofLt ?_
  have ta : s.TypeIs (.ref a) "tuple" := ⟨_, ha, rfl⟩
  have tb : s.TypeIs (.ref b) "tuple" := ⟨_, hb, rfl⟩
  refine wpAny_richCompare_same_room (op := .Lt) ta tb F.slot_tuple_lt (wpAny_call_entry F.slot_tuple_lt ta F.entry_tuple_lt ?_ (F.args_tuple_lt_2 _ _)) (by omega)
  show wpAny _ _ (isInstance (.ref b) (.type "tuple") >>= _) _ _ _
  refine wpAny_bind (wpAny_isInstance tb isSubtype_tuple_tuple ?_)
  simp only [Bool.not_true, Bool.false_eq_true, if_false]
  refine wpAny_bind (wpAny_tupleItemsOf ha rfl ?_)
  refine wpAny_bind (wpAny_tupleItemsOf hb rfl ?_)
  refine wpAny_bind ?_
  show wpAny _ _ (forIn [(Value.bytes x.1.toArray t1, Value.bytes y.1.toArray t2), (Value.int x.2 u1, Value.int y.2 u2)] _ _) _ _ _
  rw [List.forIn_cons]
  refine wpAny_bind (wpAny_bind (eqBool_bytes ?_))
  by_cases e : x.1 = y.1
  · rw [decide_eq_true (by simpa using e)]
    simp only [Bool.not_true, Bool.false_eq_true, if_false]
    refine wpAny_pure ?_
    show wpAny _ _ (forIn [(Value.int x.2 u1, Value.int y.2 u2)] _ _) _ _ _
    rw [List.forIn_cons]
    refine wpAny_bind (wpAny_bind (wpAny_eqBool_int ?_))
    by_cases e2 : x.2 = y.2
    · rw [show (x.2 == y.2) = true from beq_iff_eq.mpr e2]
      simp only [Bool.not_true, Bool.false_eq_true, if_false]
      refine wpAny_pure ?_
      show wpAny _ _ (forIn ([] : List (Value × Value)) _ _) _ _ _
      rw [List.forIn_nil]
      refine wpAny_pure (wpAny_pure ⟨_, rfl, (fun e => nomatch e), ?_⟩)
      have : elt x y = false := by simp [elt, e, e2]
      rw [this] at h; exact h
    · rw [show (x.2 == y.2) = false from by simpa using e2]
      simp only [Bool.not_false, if_true]
      refine wpAny_bind (wpAny_rule (wpAny_bind (wpAny_mono (PyProof.Rows.lt_int (t := u1) (u := u2) (a := x.2) (b := y.2) (Q := fun v s' => v = .bool (elt x y) ∧ s' = s) ⟨?_, rfl⟩) ?_ fun _ _ h => h)))
      · simp [elt, e]
      · rintro v s' ⟨rfl, rfl⟩
        exact wpAny_bind (wpAny_pure (wpAny_pure (wpAny_pure (wpAny_pure ⟨_, rfl, (fun e => nomatch e), h⟩))))
  · rw [decide_eq_false (by simpa using e)]
    simp only [Bool.not_false, if_true]
    refine wpAny_bind (wpAny_rule (wpAny_bind (lt_bytes ?_)))
    refine wpAny_bind (wpAny_pure (wpAny_pure (wpAny_pure (wpAny_pure ⟨_, rfl, (fun e => nomatch e), ?_⟩))))
    have : elt x y = (Builtin.Bytes.order x.1 y.1 == .lt) := by simp [elt, e]
    rw [this] at h; exact h
end
end Mine
end
section
namespace Mine

structure LtOk (lt : Nat → Nat → Bool) : Prop where
  irr : ∀ a, lt a a = false
  trans : ∀ a b c, lt a b = true → lt b c = true → lt a c = true
  ntrans : ∀ a b c, lt a b = false → lt b c = false → lt a c = false
theorem LtOk.asymm {lt : Nat → Nat → Bool} (o : LtOk lt) {a b : Nat} (h : lt a b = true) : lt b a = false := by
  cases e : lt b a with
  | false => rfl
  | true => have := o.trans a b a h e; rw [o.irr] at this; cases this

theorem getD_set (as : List Nat) (i j v : Nat) (hi : i < as.length) : (as.set i v).getD j 0 = if i = j then v else as.getD j 0 := by
  rw [List.getD_eq_getElem?_getD, List.getElem?_set]
  split
  · simp
  · rw [List.getD_eq_getElem?_getD]

inductive Sub (sp : Nat) : Nat → Prop
  | self : Sub sp sp
  | left {p : Nat} : Sub sp p → Sub sp (2 * p + 1)
  | right {p : Nat} : Sub sp p → Sub sp (2 * p + 2)
theorem Sub.le {sp p : Nat} (h : Sub sp p) : sp ≤ p := by
  induction h with
  | self => exact Nat.le_refl _
  | left _ ih => omega
  | right _ ih => omega
theorem Sub.par {sp p : Nat} (h : Sub sp p) (hl : sp < p) : Sub sp ((p - 1) / 2) := by
  cases h with
  | self => exact absurd hl (Nat.lt_irrefl _)
  | @left q h => rw [show (2 * q + 1 - 1) / 2 = q by omega]; exact h
  | @right q h => rw [show (2 * q + 2 - 1) / 2 = q by omega]; exact h

def HeapFrom (lt : Nat → Nat → Bool) (as : List Nat) (sp : Nat) : Prop :=
  ∀ k, 1 ≤ k → k < as.length → sp ≤ (k - 1) / 2 → lt (as.getD k 0) (as.getD ((k - 1) / 2) 0) = false
structure SdOk (lt : Nat → Nat → Bool) (as : List Nat) (sp p : Nat) : Prop where
  hp : p < as.length
  sub : Sub sp p
  rel : ∀ k, 1 ≤ k → k < as.length → sp ≤ (k - 1) / 2 → k ≠ p → lt (as.getD k 0) (as.getD ((k - 1) / 2) 0) = false
  grand : ∀ k, 1 ≤ k → k < as.length → (k - 1) / 2 = p → sp < p → lt (as.getD k 0) (as.getD ((p - 1) / 2) 0) = false
def swp (as : List Nat) (p q : Nat) : List Nat := (as.set p (as.getD q 0)).set q (as.getD p 0)
theorem swp_len (as : List Nat) (p q : Nat) : (swp as p q).length = as.length := by simp [swp]
theorem swp_get (as : List Nat) (p q j : Nat) (hp : p < as.length) (hq : q < as.length) :
    (swp as p q).getD j 0 = if q = j then as.getD p 0 else if p = j then as.getD q 0 else as.getD j 0 := by
  unfold swp
  rw [getD_set _ _ _ _ (by simpa using hq), getD_set _ _ _ _ hp]
theorem swp_perm (as : List Nat) (p q : Nat) (hp : p < as.length) (hq : q < as.length) : (swp as p q).Perm as := by
  unfold swp
  have e1 : as.getD q 0 = as[q] := by simp [hq]
  have e2 : as.getD p 0 = as[p] := by simp [hp]
  rw [e1, e2]
  exact List.set_set_perm hp hq

theorem swp_set (bs : List Nat) (q r x : Nat) (hq : q < bs.length) (hr : r ≠ q) : swp (bs.set q x) q r = (bs.set q (bs.getD r 0)).set r x := by
  unfold swp
  rw [getD_set _ _ _ _ hq, getD_set _ _ _ _ hq, if_pos rfl, if_neg (Ne.symm hr), List.set_set]
theorem set_mem {bs as : List Nat} {q r : Nat} (h : ∀ b ∈ bs, b ∈ as) (hr : r < bs.length) : ∀ b ∈ bs.set q (bs.getD r 0), b ∈ as := by
  intro b hb
  rcases List.mem_or_eq_of_mem_set hb with h1 | h1
  · exact h b h1
  · refine h b ?_
    rw [h1, List.getD_eq_getElem?_getD, List.getElem?_eq_getElem hr]
    exact List.getElem_mem hr
theorem sd_done1 {lt : Nat → Nat → Bool} {as : List Nat} {sp p : Nat} (h : SdOk lt as sp p) (e : p ≤ sp) : HeapFrom lt as sp := by
  intro k h1 h2 h3
  exact h.rel k h1 h2 h3 (by omega)
theorem sd_done2 {lt : Nat → Nat → Bool} {as : List Nat} {sp p : Nat} (h : SdOk lt as sp p) (e : lt (as.getD p 0) (as.getD ((p - 1) / 2) 0) = false) : HeapFrom lt as sp := by
  intro k h1 h2 h3
  by_cases hk : k = p
  · subst hk; exact e
  · exact h.rel k h1 h2 h3 hk
theorem sd_step {lt : Nat → Nat → Bool} (o : LtOk lt) {as : List Nat} {sp p : Nat} (h : SdOk lt as sp p) (hl : sp < p) (e : lt (as.getD p 0) (as.getD ((p - 1) / 2) 0) = true) :
    SdOk lt (swp as p ((p - 1) / 2)) sp ((p - 1) / 2) := by
  have hp := h.hp
  generalize hq : (p - 1) / 2 = q at *
  have hqp : q < p := by omega
  have hql : q < as.length := by omega
  have hsub : Sub sp q := hq ▸ h.sub.par hl
  have hspq := hsub.le
  refine ⟨by rw [swp_len]; exact hql, hsub, ?_, ?_⟩
  · intro k h1 h2 h3 hk
    rw [swp_len] at h2
    rw [swp_get _ _ _ _ hp hql, swp_get _ _ _ _ hp hql, if_neg (Ne.symm hk)]
    by_cases e1 : p = k
    · subst e1
      rw [if_pos rfl, hq, if_pos rfl]
      exact o.asymm e
    · rw [if_neg e1]
      by_cases e2 : q = (k - 1) / 2
      · rw [if_pos e2]
        have r := h.rel k h1 h2 h3 (Ne.symm e1)
        rw [← e2] at r
        cases hx : lt (as.getD k 0) (as.getD p 0) with
        | false => rfl
        | true => rw [o.trans _ _ _ hx e] at r; cases r
      · rw [if_neg e2]
        by_cases e3 : p = (k - 1) / 2
        · rw [if_pos e3]
          have := h.grand k h1 h2 e3.symm hl
          rw [hq] at this; exact this
        · rw [if_neg e3]
          exact h.rel k h1 h2 h3 (Ne.symm e1)
  · intro k h1 h2 hk hlq
    rw [swp_len] at h2
    have hr : (q - 1) / 2 < q := by omega
    rw [swp_get _ _ _ _ hp hql, swp_get _ _ _ _ hp hql, if_neg (by omega : ¬ q = k), if_neg (by omega : ¬ q = (q - 1) / 2), if_neg (by omega : ¬ p = (q - 1) / 2)]
    have hq1 : lt (as.getD q 0) (as.getD ((q - 1) / 2) 0) = false := h.rel q (by omega) hql (hsub.par hlq).le (by omega)
    by_cases e1 : p = k
    · rw [if_pos e1]; exact hq1
    · rw [if_neg e1]
      have r := h.rel k h1 h2 (by omega) (Ne.symm e1)
      rw [hk] at r
      exact o.ntrans _ _ _ r hq1

/-- going down: the hole's value is a copy of its parent's -/
structure SuOk (lt : Nat → Nat → Bool) (as : List Nat) (sp p : Nat) : Prop where
  hp : p < as.length
  sub : Sub sp p
  rel : ∀ k, 1 ≤ k → k < as.length → (sp < (k - 1) / 2 ∨ (sp = (k - 1) / 2 ∧ p ≠ sp)) → lt (as.getD k 0) (as.getD ((k - 1) / 2) 0) = false
theorem su_start {lt : Nat → Nat → Bool} {as : List Nat} {sp : Nat} (hp : sp < as.length) (h : HeapFrom lt as (sp + 1)) : SuOk lt as sp sp :=
  ⟨hp, .self, fun k h1 h2 h3 => h k h1 h2 (by omega)⟩
theorem su_step {lt : Nat → Nat → Bool} (o : LtOk lt) {as : List Nat} {sp p c : Nat} (h : SuOk lt as sp p) (hc : c = 2 * p + 1 ∨ c = 2 * p + 2) (hcl : c < as.length)
    (hmin : ∀ k, (k = 2 * p + 1 ∨ k = 2 * p + 2) → k < as.length → lt (as.getD k 0) (as.getD c 0) = false) : SuOk lt (as.set p (as.getD c 0)) sp c := by
  have hp := h.hp
  have hle := h.sub.le
  refine ⟨by simpa using hcl, by rcases hc with rfl | rfl; exact .left h.sub; exact .right h.sub, ?_⟩
  intro k h1 h2 h3
  rw [List.length_set] at h2
  rw [getD_set _ _ _ _ hp, getD_set _ _ _ _ hp]
  by_cases e1 : p = (k - 1) / 2
  · rw [if_neg (by omega : ¬ p = k), if_pos e1]
    exact hmin k (by omega) h2
  · rw [if_neg e1]
    by_cases e2 : p = k
    · subst e2
      rw [if_pos rfl]
      -- the moved child is not less than the parent of p
      have hps : p ≠ sp := by
        have := h.sub.le
        omega
      have hpp : sp ≤ (p - 1) / 2 := (h.sub.par (by omega)).le
      have hrp : lt (as.getD p 0) (as.getD ((p - 1) / 2) 0) = false := h.rel p h1 h2 (by omega)
      have hrc : lt (as.getD c 0) (as.getD p 0) = false := by
        have := h.rel c (by omega) hcl (by omega)
        rw [show (c - 1) / 2 = p by omega] at this; exact this
      exact o.ntrans _ _ _ hrc hrp
    · rw [if_neg e2]
      exact h.rel k h1 h2 (by omega)
theorem su_done {lt : Nat → Nat → Bool} {as : List Nat} {sp p x : Nat} (h : SuOk lt as sp p) (he : as.length ≤ 2 * p + 1) : SdOk lt (as.set p x) sp p := by
  refine ⟨by simpa using h.hp, h.sub, ?_, ?_⟩
  · intro k h1 h2 h3 hk
    rw [List.length_set] at h2
    rw [getD_set _ _ _ _ h.hp, getD_set _ _ _ _ h.hp, if_neg (Ne.symm hk), if_neg (by omega : ¬ p = (k - 1) / 2)]
    refine h.rel k h1 h2 ?_
    by_cases e : sp < (k - 1) / 2
    · exact .inl e
    · exact .inr ⟨by omega, by omega⟩
  · intro k h1 h2 hk _
    rw [List.length_set] at h2
    omega
theorem su_perm {as : List Nat} {p c x : Nat} (hp : p < as.length) (hc : c < as.length) (hpc : p ≠ c) : ((as.set p (as.getD c 0)).set c x).Perm (as.set p x) := by
  have e := swp_perm (as.set p x) p c (by simpa using hp) (by simpa using hc)
  unfold swp at e
  rw [getD_set _ _ _ _ hp, getD_set _ _ _ _ hp, if_pos rfl, if_neg hpc, List.set_set] at e
  exact e
end Mine
end
section
namespace Mine

def numb (cs : List Nat) : Nat := cs.foldl (fun a c => a * 256 + c) 0
theorem numb_snoc (cs : List Nat) (c : Nat) : numb (cs ++ [c]) = numb cs * 256 + c := by simp [numb]
/-- the bits in sixes -/
def vals (cs : List Nat) : List Nat := (List.range ((8 * cs.length + 5) / 6)).map fun k => numb cs * 64 / 2 ^ (8 * cs.length - 6 * k) % 64

/-- what stands after some octets: N their number, tot their bits, vs the sixes written, lb the bits left, lc the window -/
structure BInv (N tot : Nat) (vs : List Nat) (lb lc : Nat) : Prop where
  bits : tot = 6 * vs.length + lb
  low : lc % 2 ^ lb = N % 2 ^ lb
  out : vs = (List.range vs.length).map fun k => N / 2 ^ (tot - 6 * k - 6) % 64

theorem binv_zero : BInv 0 0 [] 0 0 := ⟨rfl, rfl, rfl⟩
theorem binv_byte {N tot : Nat} {vs : List Nat} {lb lc c : Nat} (h : BInv N tot vs lb lc) (hl : lb < 6) (hc : c < 256) : BInv (N * 256 + c) (tot + 8) vs (lb + 8) ((lc * 256 + c) % 65536) := by
  refine ⟨by have := h.bits; omega, ?_, ?_⟩
  · have hd : 2 ^ (lb + 8) ∣ 65536 := by
      rw [show (65536 : Nat) = 2 ^ 16 from rfl]
      exact Nat.pow_dvd_pow 2 (by omega)
    rw [Nat.mod_mod_of_dvd _ hd]
    have hp : 2 ^ (lb + 8) = 2 ^ lb * 256 := by rw [Nat.pow_add]
    rw [hp]
    have key : ∀ a, (a * 256 + c) % (2 ^ lb * 256) = (a % 2 ^ lb) * 256 + c := by
      intro a
      have hpos : 0 < 2 ^ lb := Nat.two_pow_pos lb
      have e : a = 2 ^ lb * (a / 2 ^ lb) + a % 2 ^ lb := (Nat.div_add_mod a _).symm
      have hm := Nat.mod_lt a hpos
      generalize a / 2 ^ lb = q at e
      generalize a % 2 ^ lb = r at e hm ⊢
      subst e
      have e2 : (2 ^ lb * q + r) * 256 + c = (r * 256 + c) + (2 ^ lb * 256) * q := by
        rw [Nat.add_mul, Nat.mul_right_comm]; omega
      rw [e2, Nat.add_mul_mod_self_left]
      apply Nat.mod_eq_of_lt
      have : (r + 1) * 256 ≤ 2 ^ lb * 256 := Nat.mul_le_mul_right _ hm
      omega
    rw [key, key, h.low]
  · conv => lhs; rw [h.out]
    apply List.map_congr_left
    intro k hk
    have hk' := List.mem_range.mp hk
    have ht := h.bits
    have e : tot + 8 - 6 * k - 6 = 8 + (tot - 6 * k - 6) := by omega
    rw [e, Nat.pow_add, ← Nat.div_div_eq_div_mul]
    have : (N * 256 + c) / 2 ^ 8 = N := by
      rw [show (2 : Nat) ^ 8 = 256 from rfl]; omega
    rw [this]
theorem binv_six {N tot : Nat} {vs : List Nat} {lb lc : Nat} (h : BInv N tot vs lb lc) (hl : 6 ≤ lb) : BInv N tot (vs ++ [lc / 2 ^ (lb - 6) % 64]) (lb - 6) lc := by
  have ht := h.bits
  have hp : 2 ^ lb = 2 ^ (lb - 6) * 64 := by
    rw [show (64 : Nat) = 2 ^ 6 from rfl, ← Nat.pow_add]; congr 1; omega
  have hlow := h.low
  rw [hp] at hlow
  refine ⟨by simp; omega, ?_, ?_⟩
  · have := congrArg (· % 2 ^ (lb - 6)) hlow
    simpa [Nat.mod_mul_right_mod] using this
  · rw [List.length_append, List.length_singleton, List.range_succ, List.map_append, ← h.out]
    congr 1
    simp only [List.map_cons, List.map_nil, List.cons.injEq, and_true]
    rw [show tot - 6 * vs.length - 6 = lb - 6 by omega]
    rw [← Nat.mod_mul_right_div_self lc, ← Nat.mod_mul_right_div_self N, hlow]
theorem binv_vals {cs : List Nat} {vs : List Nat} {lb lc : Nat} (h : BInv (numb cs) (8 * cs.length) vs lb lc) (hl : lb < 6) :
    vals cs = vs ++ (if lb = 2 then [lc % 4 * 16] else if lb = 4 then [lc % 16 * 4] else []) := by
  have ht := h.bits
  have hev : lb = 0 ∨ lb = 2 ∨ lb = 4 := by omega
  have front : vs = (List.range vs.length).map fun k => numb cs * 64 / 2 ^ (8 * cs.length - 6 * k) % 64 := by
    conv => lhs; rw [h.out]
    apply List.map_congr_left
    intro k hk
    have hk' := List.mem_range.mp hk
    have e : 8 * cs.length - 6 * k = (8 * cs.length - 6 * k - 6) + 6 := by omega
    conv => rhs; rw [e, Nat.pow_add, show (2 : Nat) ^ 6 = 64 from rfl, Nat.mul_div_mul_right _ _ (by omega : 0 < 64)]
  unfold vals
  rcases hev with rfl | rfl | rfl
  · rw [show (8 * cs.length + 5) / 6 = vs.length by omega, ← front]; simp
  · rw [show (8 * cs.length + 5) / 6 = vs.length + 1 by omega, List.range_succ, List.map_append, ← front]
    congr 1
    simp only [List.map_cons, List.map_nil, if_true, List.cons.injEq, and_true]
    rw [show 8 * cs.length - 6 * vs.length = 2 by omega]
    have := h.low
    simp only [show (2 : Nat) ^ 2 = 4 from rfl] at this ⊢
    omega
  · rw [show (8 * cs.length + 5) / 6 = vs.length + 1 by omega, List.range_succ, List.map_append, ← front]
    congr 1
    simp only [List.map_cons, List.map_nil, List.cons.injEq, and_true]
    rw [show 8 * cs.length - 6 * vs.length = 4 by omega]
    have := h.low
    simp only [show (2 : Nat) ^ 4 = 16 from rfl] at this ⊢
    rw [if_neg (by decide), if_pos trivial]
    simp only [List.cons.injEq, and_true]
    omega
theorem vals_lt {cs : List Nat} : ∀ v ∈ vals cs, v < 64 := by
  intro v hv
  obtain ⟨k, _, rfl⟩ := List.mem_map.mp hv
  exact Nat.mod_lt _ (by decide)
theorem vals_len (cs : List Nat) : (vals cs).length = (8 * cs.length + 5) / 6 := by simp [vals]
end Mine
end
section
namespace Mine

def OkWp {α : Type} (lt : Nat → Nat → Bool) (n : Nat) : KasT α → (α → Prop) → Prop
  | .ret a, Q => Q a
  | .ask i j k, Q => i < n ∧ j < n ∧ OkWp lt n (k (lt i j)) Q
theorem okwp_bind {α β : Type} {lt : Nat → Nat → Bool} {n : Nat} {f : α → KasT β} {Q : β → Prop} : ∀ (t : KasT α), OkWp lt n t (fun a => OkWp lt n (f a) Q) → OkWp lt n (t.bind f) Q
  | .ret _, h => h
  | .ask _ _ k, ⟨h1, h2, h⟩ => ⟨h1, h2, okwp_bind (k _) h⟩
theorem okwp_kas {α : Type} {lt : Nat → Nat → Bool} {n : Nat} {cmp : Nat → Nat → (Bool → Shared → Prop) → Shared → Prop} (Inv : Shared → Prop)
    (hc : ∀ i j C s, Inv s → i < n → j < n → (∀ s', Inv s' → C (lt i j) s') → cmp i j C s) {Q : α → Shared → Prop} : ∀ (t : KasT α) (s : Shared), Inv s → OkWp lt n t (fun a => ∀ s', Inv s' → Q a s') → t.kasWp cmp Q s
  | .ret _, s, hs, h => h s hs
  | .ask i j k, s, hs, ⟨h1, h2, h⟩ => hc i j _ s hs h1 h2 fun s' hs' => okwp_kas Inv hc (k _) s' hs' h

structure LtT (lt : Nat → Nat → Bool) (n : Nat) : Prop where
  tot : ∀ i j, i < n → j < n → i ≠ j → lt i j = false → lt j i = true
  trans : ∀ i j k, i < n → j < n → k < n → lt i j = true → lt j k = true → lt i k = true
  asym : ∀ i j, i < n → j < n → lt i j = true → lt j i = false

abbrev g (p : Array Nat) (k : Nat) : Nat := p.getD k 0
def PermR (p : Array Nat) (n : Nat) : Prop := p.toList.Perm (List.range n)
def Upto (lt : Nat → Nat → Bool) (p : Array Nat) (m : Nat) : Prop := ∀ k, 1 ≤ k → k < m → lt (g p (k - 1)) (g p k) = true
section
variable {lt : Nat → Nat → Bool} {n : Nat} {p : Array Nat}
theorem PermR.size (h : PermR p n) : p.size = n := by
  have := h.length_eq
  rw [Array.length_toList, List.length_range] at this; exact this
theorem g_some {k : Nat} (hk : k < p.size) : p[k]? = some (g p k) := by simp [g, Array.getD, hk]
theorem PermR.bnd (h : PermR p n) {k : Nat} (hk : k < n) : g p k < n := by
  have hs := h.size
  have hm : g p k ∈ p.toList := by
    have := g_some (p := p) (k := k) (by omega)
    rw [← Array.getElem?_toList] at this
    exact List.mem_of_getElem? this
  exact List.mem_range.mp (h.mem_iff.mp hm)
theorem PermR.inj (h : PermR p n) {i j : Nat} (hi : i < n) (hj : j < n) (hij : i ≠ j) : g p i ≠ g p j := by
  have hs := h.size
  have hnd : p.toList.Nodup := h.nodup_iff.mpr List.nodup_range
  intro e
  have h1 := g_some (p := p) (k := i) (by omega)
  have h2 := g_some (p := p) (k := j) (by omega)
  rw [← Array.getElem?_toList] at h1 h2
  rw [e, ← h2] at h1
  exact hij ((List.getElem?_inj (by rw [Array.length_toList]; omega) hnd).mp h1)
theorem Upto.less (o : LtT lt n) (hp : PermR p n) {m : Nat} (hm : m ≤ n) (h : Upto lt p m) : ∀ d i, i + d + 1 < m → lt (g p i) (g p (i + d + 1)) = true := by
  intro d
  induction d with
  | zero => intro i hi; have := h (i + 1) (by omega) (by omega); simpa using this
  | succ d ih =>
    intro i hi
    have h1 := ih i (by omega)
    have h2 := h (i + (d + 1) + 1) (by omega) hi
    rw [show i + (d + 1) + 1 - 1 = i + d + 1 by omega] at h2
    exact o.trans _ _ _ (hp.bnd (by omega)) (hp.bnd (by omega)) (hp.bnd (by omega)) h1 h2

theorem ok_asc (o : LtT lt n) (hp : PermR p n) {Q : Nat → Prop} : ∀ (f m : Nat), 1 ≤ m → m + f ≤ n →
    (∀ r, m ≤ r → r ≤ m + f → (∀ k, m ≤ k → k < r → lt (g p (k - 1)) (g p k) = true) → (r < m + f → lt (g p r) (g p (r - 1)) = true) → Q r) → OkWp lt n (kas_asc p f m) Q
  | 0, m, h1, hf, h => h m (Nat.le_refl _) (Nat.le_refl _) (fun k a b => by omega) (fun a => by omega)
  | f + 1, m, h1, hf, h => by
    refine ⟨hp.bnd (by omega), hp.bnd (by omega), ?_⟩
    cases e : lt (p.getD m 0) (p.getD (m - 1) 0) with
    | true => exact h m (Nat.le_refl _) (by omega) (fun k a b => by omega) fun _ => e
    | false =>
      refine ok_asc o hp f (m + 1) (by omega) (by omega) fun r h2 h3 h4 h5 => h r (by omega) (by omega) (fun k a b => ?_) (fun a => h5 (by omega))
      by_cases hk : k = m
      · subst hk
        exact o.tot _ _ (hp.bnd (by omega)) (hp.bnd (by omega)) (hp.inj (by omega) (by omega) (by omega)) e
      · exact h4 k (by omega) b
theorem ok_desc (o : LtT lt n) (hp : PermR p n) {Q : Array Nat × Nat × Nat → Prop} : ∀ (f m : Nat), 1 ≤ m → m + f ≤ n →
    (∀ r, m ≤ r → r ≤ m + f → (∀ k, m ≤ k → k < r → lt (g p k) (g p (k - 1)) = true) → Q (p, r, 0)) → OkWp lt n (kas_desc f p m 0) Q
  | 0, m, h1, hf, h => h m (Nat.le_refl _) (Nat.le_refl _) (fun k a b => by omega)
  | f + 1, m, h1, hf, h => by
    refine ⟨hp.bnd (by omega), hp.bnd (by omega), ?_⟩
    cases e : lt (p.getD m 0) (p.getD (m - 1) 0) with
    | true =>
      show OkWp lt n (if true = true then (if 0 > 0 then _ else kas_desc f p (m + 1) 0) else _) Q
      rw [if_pos rfl, if_neg (by decide)]
      refine ok_desc o hp f (m + 1) (by omega) (by omega) fun r h2 h3 h4 => h r (by omega) (by omega) fun k a b => ?_
      by_cases hk : k = m
      · subst hk; exact e
      · exact h4 k (by omega) b
    | false =>
      show OkWp lt n (if false = true then _ else _) Q
      rw [if_neg (by decide)]
      have e2 : lt (p.getD (m - 1) 0) (p.getD m 0) = true := o.tot _ _ (hp.bnd (by omega)) (hp.bnd (by omega)) (hp.inj (by omega) (by omega) (by omega)) e
      refine ⟨hp.bnd (by omega), hp.bnd (by omega), ?_⟩
      rw [e2]
      show OkWp lt n (if true = true then _ else _) Q
      rw [if_pos rfl]
      exact h m (Nat.le_refl _) (by omega) (fun k a b => by omega)
theorem rev_perm (hp : PermR p n) (i j : Nat) : PermR (kas_rev p i j) n := by
  have h1 : (kas_rev p i j).toList.Perm p.toList := Array.perm_iff_toList_perm.mp (mirror_perm p i j ((j - i) / 2))
  exact h1.trans hp
theorem rev_get (hp : PermR p n) {m k : Nat} (hm : m ≤ n) (hk : k < n) : g (kas_rev p 0 m) k = if k < m then g p (m - 1 - k) else g p k := by
  have hs := hp.size
  have h1 := g_some (p := kas_rev p 0 m) (k := k) (by rw [(rev_perm hp 0 m).size]; exact hk)
  unfold kas_rev at h1
  rw [getElem?_mirror_all (by omega)] at h1
  by_cases c : k < m
  · rw [if_pos ⟨Nat.zero_le _, c⟩, g_some (by omega)] at h1
    rw [if_pos c]
    have := Option.some.inj h1
    rw [show 0 + m - 1 - k = m - 1 - k by omega] at this
    exact this.symm
  · rw [if_neg (by omega), g_some (by omega)] at h1
    rw [if_neg c]
    exact (Option.some.inj h1).symm
theorem ok_tail3 (o : LtT lt n) (hp : PermR p n) {m : Nat} {Q : Nat × Array Nat → Prop} (h1 : 1 ≤ m) (hm : m ≤ n) (hd : ∀ k, 1 ≤ k → k < m → lt (g p k) (g p (k - 1)) = true)
    (h : ∀ r p', PermR p' n → 1 ≤ r → r ≤ n → Upto lt p' r → Q (r, p')) : OkWp lt n (kas_tail3 m n p) Q := by
  unfold kas_tail3
  have hp' := rev_perm hp 0 m
  have hup : Upto lt (kas_rev p 0 m) m := by
    intro k a b
    rw [rev_get hp hm (by omega), rev_get hp hm (by omega), if_pos (by omega), if_pos b]
    have := hd (m - 1 - (k - 1)) (by omega) (by omega)
    rw [show m - 1 - (k - 1) - 1 = m - 1 - k by omega] at this
    exact this
  refine okwp_bind _ (ok_asc o hp' (n - m) m h1 (by omega) fun r h2 h3 h4 _ => ?_)
  refine h r _ hp' (by omega) (by omega) fun k a b => ?_
  by_cases c : k < m
  · exact hup k a c
  · exact h4 k (by omega) b
theorem ok_descPart (o : LtT lt n) (hp : PermR p n) {Q : Nat × Array Nat → Prop} (hn : 2 ≤ n) (h0 : lt (g p 1) (g p 0) = true)
    (h : ∀ r p', PermR p' n → 1 ≤ r → r ≤ n → Upto lt p' r → Q (r, p')) : OkWp lt n (kas_descPart 1 n p) Q := by
  unfold kas_descPart
  refine okwp_bind _ (ok_desc o hp (n - (1 + 1)) (1 + 1) (by omega) (by omega) fun r h2 h3 h4 => ?_)
  show OkWp lt n (if 0 > 0 then _ else kas_tail3 r n p) Q
  rw [if_neg (by decide)]
  refine ok_tail3 o hp (by omega) (by omega) (fun k a b => ?_) h
  by_cases c : k = 1
  · subst c; exact h0
  · exact h4 k (by omega) b
theorem ok_count (o : LtT lt n) (hp : PermR p n) {Q : Nat × Array Nat → Prop} (hn : 2 ≤ n) (h : ∀ r p', PermR p' n → 1 ≤ r → r ≤ n → Upto lt p' r → Q (r, p')) : OkWp lt n (kas_count n p) Q := by
  unfold kas_count
  refine okwp_bind _ (ok_asc o hp (n - 1) 1 (Nat.le_refl _) (by omega) fun r h2 h3 h4 h5 => ?_)
  have hup : Upto lt p r := fun k a b => h4 k a b
  by_cases e1 : (r == n) = true
  · rw [if_pos e1]; exact h r p hp h2 (by omega) hup
  · rw [if_neg e1]
    have hrn : r < n := by
      have : r ≠ n := fun q => e1 (by rw [q]; exact beq_self_eq_true _)
      omega
    by_cases e2 : r > 1
    · rw [if_pos e2]
      have h0 : lt (g p 0) (g p (r - 1)) = true := by
        have := hup.less o hp (by omega) (r - 2) 0 (by omega)
        rw [show 0 + (r - 2) + 1 = r - 1 by omega] at this; exact this
      refine ⟨hp.bnd (by omega), hp.bnd (by omega), ?_⟩
      rw [h0]
      show OkWp lt n (if true = true then _ else _) Q
      rw [if_pos rfl]
      exact h r p hp h2 (by omega) hup
    · rw [if_neg e2]
      have hr1 : r = 1 := by omega
      subst hr1
      exact ok_descPart o hp hn (h5 (by omega)) h
theorem ok_place (o : LtT lt n) (hp : PermR p n) {k : Nat} (hk : k < n) {Q : Nat → Prop} (h : ∀ l, l ≤ k → (∀ j, j < l → lt (g p k) (g p j) = false) → (∀ j, l ≤ j → j < k → lt (g p k) (g p j) = true) → Q l) (hup : Upto lt p k) :
    ∀ (f l r : Nat), r - l ≤ f → l ≤ r → r ≤ k → (∀ j, j < l → lt (g p k) (g p j) = false) → (∀ j, r ≤ j → j < k → lt (g p k) (g p j) = true) → OkWp lt n (kas_place p k f l r) Q
  | 0, l, r, hf, hlr, hr, h1, h2 => h l (by omega) h1 (fun j a b => h2 j (by omega) b)
  | f + 1, l, r, hf, hlr, hr, h1, h2 => by
    unfold kas_place
    by_cases c : l ≥ r
    · rw [if_pos c]; exact h l (by omega) h1 (fun j a b => h2 j (by omega) b)
    · rw [if_neg c]
      have hmid : l ≤ (l + r) / 2 ∧ (l + r) / 2 < r := by omega
      refine ⟨hp.bnd hk, hp.bnd (by omega), ?_⟩
      cases e : lt (p.getD k 0) (p.getD ((l + r) / 2) 0) with
      | true =>
        show OkWp lt n (if true = true then _ else _) Q
        rw [if_pos rfl]
        refine ok_place o hp hk h hup f l ((l + r) / 2) (by omega) (by omega) (by omega) h1 fun j a b => ?_
        by_cases q : j = (l + r) / 2
        · rw [q]; exact e
        · have := hup.less o hp (by omega) (j - (l + r) / 2 - 1) ((l + r) / 2) (by omega)
          rw [show (l + r) / 2 + (j - (l + r) / 2 - 1) + 1 = j by omega] at this
          exact o.trans _ _ _ (hp.bnd hk) (hp.bnd (by omega)) (hp.bnd (by omega)) e this
      | false =>
        show OkWp lt n (if false = true then _ else _) Q
        rw [if_neg (by decide)]
        refine ok_place o hp hk h hup f ((l + r) / 2 + 1) r (by omega) (by omega) hr (fun j a => ?_) h2
        have e' : lt (g p ((l + r) / 2)) (g p k) = true := o.tot _ _ (hp.bnd hk) (hp.bnd (by omega)) (hp.inj hk (by omega) (by omega)) e
        by_cases q : j = (l + r) / 2
        · rw [q]; exact e
        · have := hup.less o hp (by omega) ((l + r) / 2 - j - 1) j (by omega)
          rw [show j + ((l + r) / 2 - j - 1) + 1 = (l + r) / 2 by omega] at this
          exact o.asym _ _ (hp.bnd (by omega)) (hp.bnd hk) (o.trans _ _ _ (hp.bnd (by omega)) (hp.bnd (by omega)) (hp.bnd hk) this e')
theorem bub_perm (hp : PermR p n) (k d : Nat) : PermR (bubble p k d) n :=
  (Array.perm_iff_toList_perm.mp (bubble_perm p k d)).trans hp
theorem bub_get (hp : PermR p n) {k l j : Nat} (hk : k < n) (hl : l ≤ k) (hj : j < n) : g (bubble p k (k - l)) j = if j = l then g p k else if l < j ∧ j ≤ k then g p (j - 1) else g p j := by
  have hs := hp.size
  have h1 := g_some (p := bubble p k (k - l)) (k := j) (by rw [(bub_perm hp k (k - l)).size]; exact hj)
  rw [getElem?_bubble (by omega) _ (by omega), show k - (k - l) = l by omega] at h1
  by_cases c : j = l
  · rw [if_pos c, g_some (by omega)] at h1
    rw [if_pos c]; exact (Option.some.inj h1).symm
  · rw [if_neg c] at h1
    rw [if_neg c]
    by_cases c2 : l < j ∧ j ≤ k
    · rw [if_pos c2, g_some (by omega)] at h1
      rw [if_pos c2]; exact (Option.some.inj h1).symm
    · rw [if_neg c2, g_some (by omega)] at h1
      rw [if_neg c2]; exact (Option.some.inj h1).symm
theorem ok_bin (o : LtT lt n) {Q : Array Nat → Prop} (h : ∀ p', PermR p' n → Upto lt p' n → Q p') : ∀ (f k : Nat) (p : Array Nat), 1 ≤ k → k + f = n → PermR p n → Upto lt p k → OkWp lt n (kas_bin f p k) Q
  | 0, k, p, h1, hk, hp, hup => h p hp (by have : k = n := by omega
                                           rw [← this]; exact hup)
  | f + 1, k, p, h1, hk, hp, hup => by
    unfold kas_bin
    refine okwp_bind _ (ok_place o hp (by omega) (fun l hl hlo hhi => ?_) hup k 0 k (by omega) (by omega) (Nat.le_refl _) (fun j a => by omega) (fun j a b => by omega))
    refine ok_bin o h f (k + 1) _ (by omega) (by omega) (bub_perm hp _ _) fun j a b => ?_
    rw [bub_get hp (by omega) hl (by omega), bub_get hp (by omega) hl (by omega)]
    by_cases c1 : j = l
    · rw [if_neg (by omega), if_neg (by omega), if_pos c1]
      exact o.tot _ _ (hp.bnd (by omega)) (hp.bnd (by omega)) (hp.inj (by omega) (by omega) (by omega)) (hlo (j - 1) (by omega))
    · rw [if_neg c1]
      by_cases c2 : l < j ∧ j ≤ k
      · rw [if_pos c2]
        by_cases c3 : j - 1 = l
        · rw [if_pos c3]
          exact hhi (j - 1) (by omega) (by omega)
        · rw [if_neg c3, if_pos (by omega)]
          exact hup (j - 1) (by omega) (by omega)
      · rw [if_neg c2, if_neg (by omega), if_neg (by omega)]
        exact hup j a (by omega)
theorem ok_sort (o : LtT lt n) (hn : 2 ≤ n) {Q : Array Nat → Prop} (h : ∀ p', PermR p' n → Upto lt p' n → Q p') : OkWp lt n (kas_sort n) Q := by
  unfold kas_sort
  have hp0 : PermR (List.toArray (List.range n)) n := .refl _
  refine okwp_bind _ (ok_count o hp0 hn fun r p' hp' h1 h2 hup => ?_)
  show OkWp lt n (if r < n then kas_bin (n - max r 1) p' (max r 1) else .ret p') Q
  have hm : max r 1 = r := by omega
  rw [hm]
  by_cases c : r < n
  · rw [if_pos c]
    exact ok_bin o h (n - r) r p' h1 (by omega) hp' hup
  · rw [if_neg c]
    exact h p' hp' (by have : r = n := by omega
                       rw [← this]; exact hup)
end
end Mine
end
section
set_option maxRecDepth 100000
namespace Mine

/-- what is known of a name: an int, or the very value -/
inductive KV where
  | i (n : Int)
  | v (x : Value)
def tokOf : Option Value → Tok
  | some (.int _ t) => t
  | _ => 0
def KV.val (u : Option Value) : KV → Value
  | .i n => .int n (tokOf u)
  | .v x => x
def KV.is (o : Option Value) : KV → Prop
  | .i n => ∃ t, o = some (.int n t)
  | .v x => o = some x
theorem KV.is_val {o : Option Value} : ∀ {k : KV}, k.is o → o = some (k.val o)
  | .i n, ⟨t, h⟩ => by rw [h]; rfl
  | .v x, h => h
/-- the names of a frame in a loop: what is known, what is forgotten, what stands -/
def frm (m₀ : Str → Option Value) (junk : List Str) (u : Str → Option Value) (kn : List (Str × KV)) : Str → Option Value :=
  fun y => match kn.lookup y with
    | some (.i n) => some (.int n (tokOf (u y)))
    | some (.v x) => some x
    | none => if junk.contains y then u y else m₀ y
def FrmOk (m₀ : Str → Option Value) (junk : List Str) (kn : List (Str × KV)) (m' : Str → Option Value) : Prop :=
  ∀ y, (match kn.lookup y with
    | some k => k.is (m' y)
    | none => junk.contains y = false → m' y = m₀ y)
theorem frm_of {m₀ m' : Str → Option Value} {junk : List Str} {kn : List (Str × KV)} (h : FrmOk m₀ junk kn m') : frm m₀ junk m' kn = m' := by
  funext y
  have := h y
  unfold frm
  cases e : kn.lookup y with
  | some v =>
    rw [e] at this
    cases v with
    | i n => exact (KV.is_val this).symm
    | v x => exact (KV.is_val this).symm
  | none =>
    rw [e] at this
    simp only at this ⊢
    cases hj : junk.contains y with
    | true => simp
    | false => simp only [Bool.false_eq_true, if_false]; exact (this hj).symm
theorem lookup_ne {α : Type} {y k : Str} {v : α} {r : List (Str × α)} (h : ¬ y = k) : List.lookup y ((k, v) :: r) = List.lookup y r := by
  rw [List.lookup_cons]
  have : (y == k) = false := by simpa using h
  rw [this]
theorem lookup_in {α : Type} {y : Str} : ∀ {kn : List (Str × α)}, (y ∉ kn.map (·.1)) → kn.lookup y = none
  | [], _ => rfl
  | (k, v) :: r, h => by
    simp only [List.map_cons, List.mem_cons, not_or] at h
    rw [lookup_ne h.1]
    exact lookup_in h.2
theorem frm_else {m₀ u : Str → Option Value} {junk : List Str} {kn : List (Str × KV)} {y : Str} (h1 : y ∉ kn.map (·.1)) (h2 : y ∉ junk) : frm m₀ junk u kn y = m₀ y := by
  unfold frm
  rw [lookup_in h1]
  have : junk.contains y = false := by simpa using h2
  simp only [this, Bool.false_eq_true, if_false]
def AllKn (m' : Str → Option Value) : List (Str × KV) → Prop
  | [] => True
  | p :: r => p.2.is (m' p.1) ∧ AllKn m' r
theorem allKn_lookup {m' : Str → Option Value} {y : Str} {v : KV} : ∀ {kn : List (Str × KV)}, AllKn m' kn → kn.lookup y = some v → v.is (m' y)
  | [], _, h => by cases h
  | (k, u) :: r, ⟨h1, h2⟩, h => by
    by_cases e : y = k
    · subst e
      rw [List.lookup_cons, beq_self_eq_true] at h
      cases h; exact h1
    · rw [lookup_ne e] at h
      exact allKn_lookup h2 h
theorem lookup_none {α : Type} {y : Str} : ∀ {kn : List (Str × α)}, kn.lookup y = none → y ∉ kn.map (·.1)
  | [], _ => by simp
  | (k, v) :: r, h => by
    by_cases e : y = k
    · subst e
      rw [List.lookup_cons, beq_self_eq_true] at h
      cases h
    · rw [lookup_ne e] at h
      simp only [List.map_cons, List.mem_cons, not_or]
      exact ⟨e, lookup_none h⟩
theorem FrmOk.mk {m₀ m' : Str → Option Value} {junk : List Str} {kn : List (Str × KV)} (hk : AllKn m' kn) (hj : ∀ y, y ∉ kn.map (·.1) → y ∉ junk → m' y = m₀ y) : FrmOk m₀ junk kn m' := by
  intro y
  cases e : kn.lookup y with
  | some v => exact allKn_lookup hk e
  | none => exact fun h => hj y (lookup_none e) (by simpa using h)
theorem FrmOk.start {m₀ : Str → Option Value} {junk : List Str} {kn : List (Str × KV)} (hk : AllKn m₀ kn) : FrmOk m₀ junk kn m₀ := .mk hk fun _ _ _ => rfl

/-- a frame of which these names are known -/
def frm0 (u : Str → Option Value) (kn : List (Str × KV)) : Str → Option Value :=
  fun y => match kn.lookup y with
    | some (.i n) => some (.int n (tokOf (u y)))
    | some (.v x) => some x
    | none => u y
theorem frCut {h₀ h : Heap} {L : Addr} {m : Str → Option Value} (kn : List (Str × KV)) (F : Fr h₀ L h m) (hk : AllKn m kn) : ∃ u, Fr h₀ L h (frm0 u kn) := by
  refine ⟨m, ?_⟩
  have e : frm0 m kn = m := by
    funext y
    unfold frm0
    cases e : kn.lookup y with
    | none => rfl
    | some v =>
      have := allKn_lookup hk e
      cases v with
      | i n => exact (KV.is_val this).symm
      | v x => exact (KV.is_val this).symm
  rw [e]; exact F

/-- a turn's end -/
def StEnd {σ : Type} (h₀ : Heap) (L : Addr) (s : Shared) (m₀ : Str → Option Value) (junk : List Str) (kn : σ → List (Str × KV)) (led : σ → List (Addr × Obj)) (I : σ → Prop) (s₂ : Shared) : Prop :=
  ∃ h' tk m' news' x', s₂ = { s with heap := h', toks := tk } ∧ Fr h₀ L h' m' ∧ News h₀ L h' news' ∧ FrmOk m₀ junk (kn x') m' ∧ (∀ p ∈ led x', p ∈ news') ∧ I x'
theorem StEnd.intro {σ : Type} {h₀ : Heap} {L : Addr} {s : Shared} {m₀ : Str → Option Value} {junk : List Str} {kn : σ → List (Str × KV)} {led : σ → List (Addr × Obj)} {I : σ → Prop} {h' : Heap} {tk : Nat} {m' : Str → Option Value} {news' : List (Addr × Obj)} (x' : σ)
    (F : Fr h₀ L h' m') (N : News h₀ L h' news') (hm : FrmOk m₀ junk (kn x') m') (hl : ∀ p ∈ led x', p ∈ news') (hI : I x') : StEnd h₀ L s m₀ junk kn led I { s with heap := h', toks := tk } :=
  ⟨h', tk, m', news', x', rfl, F, N, hm, hl, hI⟩
def StPost {σ : Type} (h₀ : Heap) (L : Addr) (s : Shared) (m₀ : Str → Option Value) (junk : List Str) (kn : σ → List (Str × KV)) (led : σ → List (Addr × Obj)) (I : σ → Prop) (Q : Flow → Shared → Prop) (f : Flow) (s₂ : Shared) : Prop :=
  match f with
  | .ret v => Q (.ret v) s₂
  | .brk => Q .next s₂
  | _ => StEnd h₀ L s m₀ junk kn led I s₂

section
variable {prog : Program} {w : World} {A : Around} {E : Value → Shared → Prop} {Q : Flow → Shared → Prop} {s : Shared} {env : Env} {h₀ : Heap} {L : Addr}

theorem while_st {σ : Type} {test : PySem.Expr} {body : List Stmt} {pos : Pos} {m₀ : Str → Option Value} {news : List (Addr × Obj)} (junk : List Str) (kn : σ → List (Str × KV)) (led : σ → List (Addr × Obj)) (I : σ → Prop) (μ : σ → Nat) (x₀ : σ)
    (F : Fr h₀ L s.heap m₀) (N : News h₀ L s.heap news) (hm : FrmOk m₀ junk (kn x₀) m₀) (hl : ∀ p ∈ led x₀, p ∈ news) (hI : I x₀)
    (turn : ∀ x u h tk, I x → Fr h₀ L h (frm m₀ junk u (kn x)) → News h₀ L h (led x) →
      wpAny (model prog w) A (isTrue test env (eval test env)) (fun b s₂ =>
        if b = true then wpAny (model prog w) A (execs body env) (StPost h₀ L s m₀ junk kn led (fun x' => I x' ∧ μ x' < μ x) Q) E s₂ else Q .next s₂) E { s with heap := h, toks := tk })
    (hE : PassesOwn (model prog w) A env E := by passes_own) :
    wpAny (model prog w) A (exec (.While test body [] pos) env) Q E s := by
  refine While_inv2 (fun n m nx => ∃ x, μ x = n ∧ FrmOk m₀ junk (kn x) m ∧ nx = led x ∧ I x) (n₀ := μ x₀) F (fun p hp => N p (hl p hp)) ⟨x₀, rfl, hm, rfl, hI⟩ ?_ hE
  rintro n m₁ nx h tk F₁ N₁ ⟨x, rfl, hm₁, rfl, hI₁⟩
  rw [← frm_of hm₁] at F₁
  refine wpAny_mono (turn x m₁ h tk hI₁ F₁ N₁) (fun b s₂ p => ?_) fun _ _ x => x
  cases b with
  | false => simpa using p
  | true =>
    simp only [if_true] at p ⊢
    refine wpAny_mono p (fun f s₃ q => ?_) fun _ _ x => x
    have go : StEnd h₀ L s m₀ junk kn led (fun x' => I x' ∧ μ x' < μ x) s₃ → ∃ h' tk m₂ news₂ n', s₃ = { s with heap := h', toks := tk } ∧ Fr h₀ L h' m₂ ∧ News h₀ L h' news₂ ∧ n' < μ x ∧ ∃ x, μ x = n' ∧ FrmOk m₀ junk (kn x) m₂ ∧ news₂ = led x ∧ I x := by
      rintro ⟨h', tk', m', news', x', rfl, F', N', hm', hl', hI', hμ⟩
      exact ⟨h', tk', m', led x', _, rfl, F', fun p hp => N' p (hl' p hp), hμ, x', rfl, hm', rfl, hI'⟩
    cases f with
    | ret v => exact q
    | brk => exact q
    | next => exact go q
    | cont => exact go q
end
end Mine
end
section
set_option maxRecDepth 100000
namespace Mine

section
variable {prog : Program} {w : World} {A : Around} {E : Value → Shared → Prop} {s : Shared} {h₀ : Heap} {L l : Addr} {m : Str → Option Value} {news news' : List (Addr × Obj)} {as : List Addr} {n : Nat} {k : Int} {t u : Tok} {a : Addr}
theorem refs_get {i : Nat} (h : i < as.length) : (as.map Value.ref)[i]? = some (.ref (as.getD i 0)) := by
  simp [h]
theorem hp_sub {value slice : PySem.Expr} {Q : Value → Shared → Prop} (N : News h₀ L s.heap news) (hm : (l, listOf (as.map Value.ref).toArray n) ∈ news) (h0 : 0 ≤ k) (h1 : k < as.length) (hfit : k < 2 ^ 63) (h : Q (.ref (as.getD k.toNat 0)) s)
    (hs : subscripted slice false (.ref l) (.int k u) = operate [.ref l, .int k u] (getItem (.ref l) (.int k u)) := by with_unfolding_all rfl) :
    wpAny (model prog w) A (subscriptTail value slice (.ref l) (.int k u)) Q E s :=
  have hL := PySem.IsL.isList (n := n) (N _ hm).1
  tail_any hL.typeIs slot_list_getitem.lookup (wpAny_getItem_list hL h0 hfit (by rw [List.getElem?_toArray]; exact refs_get (by omega)) h) hs
theorem hp_set {Q : Unit → Shared → Prop} (F : Fr h₀ L s.heap m) (N : News h₀ L s.heap news) (U : Upd l (listOf (as.map Value.ref).toArray n) (listOf ((as.set k.toNat a).map Value.ref).toArray n) news news') (h0 : 0 ≤ k) (h1 : k < as.length) (hfit : k < 2 ^ 63)
    (h : ∀ h', Fr h₀ L h' m → News h₀ L h' news' → Q () { s with heap := h' }) : wpAny (model prog w) A (setItem (.ref l) (.int k t) (.ref a)) Q E s := by
  obtain ⟨pre, post, rfl, rfl, x, y⟩ := U.split
  have z := N (l, listOf (as.map Value.ref).toArray n) (List.mem_append.mpr (.inr (.head _)))
  refine ki_setAt z.1 h0 hfit (by simpa using h1) (h _ (F.change (Heap.SameBut.update ..) z.2.1 z.2.2) (ki_turn _ N x y ?_ ?_))
  · show (as.map Value.ref).toArray.setIfInBounds k.toNat (.ref a) = ((as.set k.toNat a).map Value.ref).toArray
    apply Array.toList_inj.mp
    simp
  · simp
end

/-- what a call of the def at f gives: the ledger it leaves and what it hands back -/
def Claim (w : World) (f : Addr) (d u : Nat) (news : List (Addr × Obj)) (args : List Value) (R : Value → List (Addr × Obj) → Prop) : Prop :=
  ∀ (mean : ExcName → Option Value) (mg mb : Str → Option Value) (dp un : Nat) (gd : Option (List Code)) (cn : Str) (cs : Scope) (a : Addr) (ccd : Value) (cl : List (Str × Addr)) (outer : List Env) (A₀ : Around) (base h₀ : Heap) (L : Addr) (m : Str → Option Value) (s : Shared) (Q E : Value → Shared → Prop),
    Below A₀ base outer h₀ → Fr h₀ L s.heap m → (hd.heap_39 w.params).In h₀ → News h₀ L s.heap news → Top hd.view_39 (looseW hd.view_39 [Str.ofString "b2a_base64", Str.ofString "b64encode"]) mean mg mb h₀ → cs.kind = .function →
    dp + d < recursionLimit → un + u < cLine →
    (∀ r news' h' tk', Fr h₀ L h' m → News h₀ L h' news' → R r news' → Q r { s with heap := h', toks := tk' }) →
    wpAny (model PySem.Challenge.rw_mq0105_01.row.prog w) (ktrTop dp un gd cn cs L a ccd cl outer) (call (.ref f) args) Q E s

end Mine
end
section
theorem Mine.freshB4 : True := by
  w_top off
  exact True.intro
set_option maxRecDepth 100000
namespace Mine

section
variable {prog : Program} {w : World} {A : Around} {E : Value → Shared → Prop} {s : Shared} {h₀ : Heap} {L : Addr} {news rest : List (Addr × Obj)}
theorem rsh1 {p : Nat} {t u : Tok} {Q : Value → Shared → Prop} (hp : 1 ≤ p) (h : Q (.int (((p - 1) / 2 : Nat) : Int) s.toks) { s with toks := s.toks + 1 }) : wpAny (model prog w) A (binaryOp .RShift (.int ((p : Int) - 1) t) (.int 1 u)) Q E s := by
  refine rshift_int (by decide) ?_
  have e : ((p : Int) - 1).fdiv (2 ^ Int.toNat 1) = (((p - 1) / 2 : Nat) : Int) := by
    rw [show ((2 : Int) ^ Int.toNat 1) = 2 from rfl, Int.fdiv_eq_ediv_of_nonneg _ (by decide)]
    omega
  rw [e]; exact h
theorem lt_ent {ent : Addr → Ent} {a b : Addr} {Q : Value → Shared → Prop} (N : News h₀ L s.heap news) (hsub : ∀ q ∈ rest, q ∈ news) (ha : ∃ t u, (a, tupO (ent a) t u) ∈ rest) (hb : ∃ t u, (b, tupO (ent b) t u) ∈ rest) (hu : A.units + 8 < cLine)
    (h : Q (.bool (elt (ent a) (ent b))) s) : wpAny (model prog w) A (compareOp .Lt (.ref a) (.ref b)) Q E s := by
  obtain ⟨t1, u1, ha⟩ := ha
  obtain ⟨t2, u2, hb⟩ := hb
  exact lt_tup hu (N _ (hsub _ ha)).1 (N _ (hsub _ hb)).1 h
theorem hE_get {ent : Addr → Ent} {as : List Addr} (hE : ∀ a ∈ as, ∃ t u, (a, tupO (ent a) t u) ∈ rest) {i : Nat} (hi : i < as.length) : ∃ t u, (as.getD i 0, tupO (ent (as.getD i 0)) t u) ∈ rest := by
  refine hE _ ?_
  rw [List.getD_eq_getElem?_getD, List.getElem?_eq_getElem hi]
  exact List.getElem_mem hi
end

local macro_rules | `(tactic| walk_at "subscriptTail") => `(tactic| (k_here; (with_reducible show wpAny _ _ (subscriptTail _ _ (Value.ref _) (Value.int _ _)) _ _ _); k_dflt (refine' hp_sub ?k1 ?k2 ?k4 ?k5 ?k6 ?_ ?k7; (case k1 => k_asm); (case k2 => k_mem); (case k4 => omega); (case k5 => omega); (case k6 => omega); (case k7 => with_unfolding_all rfl); k_whole)))
local macro_rules | `(tactic| walk_at "binaryOp RShift int int") => `(tactic| (k_here; k_dflt (refine' rsh1 ?k1 ?_; (case k1 => omega); k_whole)))

local macro_rules | `(tactic| k_all) => `(tactic| assumption)
local macro_rules | `(tactic| walk_at "setItem ref int") => `(tactic| (k_here; (with_reducible show wpAny _ _ (setItem (Value.ref _) (Value.int _ _) (Value.ref _)) _ _ _); k_dflt (refine' hp_set ?k1 ?k2 ?k3 ?k4 ?k5 ?k6 ?_; (case k1 => k_asm); (case k2 => k_asm); (case k3 => k_upd); (case k4 => omega); (case k5 => omega); (case k6 => omega); k_whole); intro h' F' N'; (try k_sweep)))

set_option maxHeartbeats 4000000 in
theorem siftdown_claim (w : World) (l : Addr) (as : List Addr) (n : Nat) (rest : List (Addr × Obj)) (ent : Addr → Ent) (sp p : Nat) (t1 t2 : Tok)
   (hE : ∀ a ∈ as, ∃ t u, (a, tupO (ent a) t u) ∈ rest) (hne : ∀ q ∈ rest, q.1 ≠ l) (hlen : as.length < 64) (o : LtOk fun a b => elt (ent a) (ent b)) (hS : SdOk (fun a b => elt (ent a) (ent b)) as sp p) :
   Claim w 72 4 20 ((l, listOf (as.map Value.ref).toArray n) :: rest) [.ref l, .int sp t1, .int p t2] (fun r news' => r = .none ∧ ∃ as' : List Addr, as'.Perm as ∧ HeapFrom (fun a b => elt (ent a) (ent b)) as' sp ∧ news' = (l, listOf (as'.map Value.ref).toArray n) :: rest) := by
  have hp := hS.hp
  unfold Claim
  k_fill
  intro mean mg mb dp un gd cn cs a ccd cl outer A₀ base h₀ L m s Q E B F X N T hk hd hu hret
  refine wpAny_call ?_
  k_dflt ktr_enter
  (rename Fr _ _ _ _ => F1)
  have F2 : Fr _ _ _ (fun y => List.lookup y [(Str.ofString "pos", Value.int p t2), (Str.ofString "startpos", .int sp t1), (Str.ofString "heap", .ref l)]) := F1
  clear F1
  (repeat' ((fail_if_success (with_reducible show wpAny _ _ (exec (Stmt.While _ _ _ _) _) _ _ _)); (first | (k_unfold; (try dsimp only)) | (k_end; wrow_close) | walk1 | (dsimp only; walk1) | (leave1; walk_say "STEP leave1"; try dsimp only) | fail "no step")))
  (rename Fr _ _ _ _ => F1)
  have F2 : Fr _ _ _ (fun y => if y = Str.ofString "newitem" then some (.ref (as.getD p 0)) else List.lookup y [(Str.ofString "pos", Value.int p t2), (Str.ofString "startpos", .int sp t1), (Str.ofString "heap", .ref l)]) := F1
  clear F1
  refine while_st (σ := List Addr × Nat) [Str.ofString "parentpos", Str.ofString "parent"] (fun x => [(Str.ofString "pos", .i x.2)]) (fun x => (l, listOf (x.1.map Value.ref).toArray n) :: rest)
    (fun x => x.1.length = as.length ∧ (∀ b ∈ x.1, b ∈ as) ∧ (x.1.set x.2 (as.getD p 0)).Perm as ∧ SdOk (fun a b => elt (ent a) (ent b)) (x.1.set x.2 (as.getD p 0)) sp x.2) (fun x => x.2) (as, p) F2 (by k_asm) ?hm ?hl ?hI ?turn
  case hm => (exact FrmOk.start (by repeat' (first | exact True.intro | refine And.intro ⟨_, rfl⟩ ?_ | refine And.intro rfl ?_)))
  case hl => exact fun _ h => h
  case hI =>
    have e : as.set p (as.getD p 0) = as := by rw [List.getD_eq_getElem?_getD, List.getElem?_eq_getElem hp]; simp
    dsimp only
    rw [e]
    exact ⟨rfl, fun _ h => h, .refl _, hS⟩
  case turn =>
    rintro ⟨bs, q⟩ u h tk ⟨hbl, hbm, hperm, hsd⟩ F3 N3
    dsimp only at hbl hbm hperm hsd F3 N3
    have hq := hsd.hp
    rw [List.length_set] at hq
    have hEb : ∀ a ∈ bs, ∃ t u, (a, tupO (ent a) t u) ∈ rest := fun a h => hE a (hbm a h)
    (repeat' ((fail_if_success (with_reducible show wpAny _ _ (exec (Stmt.While _ _ _ _) _) _ _ _)); (fail_if_success (with_reducible show wpAny _ _ (compareOp CmpOp.Lt (Value.ref _) (Value.ref _)) _ _ _)); (fail_if_success (with_reducible show StEnd _ _ _ _ _ _ _ _ _)); (first | (k_unfold; (try dsimp only)) | (k_end; wrow_close) | walk1 | (dsimp only; walk1) | (leave1; walk_say "STEP leave1"; try dsimp only) | fail "no step")))
    · refine lt_ent (by k_asm) (fun _ h => .tail _ h) (hE_get hE hp) (hE_get hEb (by omega)) (by show un + 3 + 8 < cLine; omega) ?_
      (repeat' ((fail_if_success (with_reducible show wpAny _ _ (exec (Stmt.While _ _ _ _) _) _ _ _)); (fail_if_success (with_reducible show StEnd _ _ _ _ _ _ _ _ _)); (first | (k_unfold; (try dsimp only)) | (k_end; wrow_close) | walk1 | (dsimp only; walk1) | (leave1; walk_say "STEP leave1"; try dsimp only) | fail "no step")))
      · rename elt _ _ = true => hlt
        have hsq : sp < q := by omega
        have hr : (q - 1) / 2 < q := by omega
        have e := swp_set bs q ((q - 1) / 2) (as.getD p 0) hq (by omega)
        have hg1 : (bs.set q (as.getD p 0)).getD q 0 = as.getD p 0 := by rw [getD_set _ _ _ _ hq, if_pos rfl]
        have hg2 : (bs.set q (as.getD p 0)).getD ((q - 1) / 2) 0 = bs.getD ((q - 1) / 2) 0 := by rw [getD_set _ _ _ _ hq, if_neg (by omega)]
        refine' StEnd.intro (bs.set q (bs.getD ((q - 1) / 2) 0), (q - 1) / 2) ?F ?N ?fm ?hl ?hI
        case F => k_asm
        case N => k_asm
        case fm => (refine FrmOk.mk (by repeat' (first | exact True.intro | refine And.intro ⟨_, rfl⟩ ?_ | refine And.intro rfl ?_)) ?_; intro y h1 h2; simp only [List.map_cons, List.map_nil, List.mem_cons, List.not_mem_nil, or_false, not_or] at h1 h2; first | (simp only [h1, h2, if_false, not_false_eq_true, List.map_cons, List.map_nil, List.mem_cons, List.not_mem_nil, or_false, or_self, frm_else]; done) | (simp only [h1, h2, if_false]; exact frm_else (by simp [h1, h2]) (by simp [h1, h2])))
        case hl => exact fun _ h => h
        case hI =>
          refine ⟨⟨by simp [hbl], set_mem hbm (by omega), ?_, ?_⟩, by show (q - 1) / 2 < q; omega⟩
          · dsimp only
            rw [← e]
            exact (swp_perm _ _ _ (by simpa using hq) (by simp; omega)).trans hperm
          · dsimp only
            rw [← e]
            exact sd_step o hsd hsq (by rw [hg1, hg2]; exact hlt)
      · rename elt _ _ = false => hlt
        have hsq : sp < q := by omega
        have hg1 : (bs.set q (as.getD p 0)).getD q 0 = as.getD p 0 := by rw [getD_set _ _ _ _ hq, if_pos rfl]
        have hg2 : (bs.set q (as.getD p 0)).getD ((q - 1) / 2) 0 = bs.getD ((q - 1) / 2) 0 := by rw [getD_set _ _ _ _ hq, if_neg (by omega)]
        have hfin := sd_done2 hsd (by rw [hg1, hg2]; exact hlt)
        dsimp only [StPost]
        (repeat' ((fail_if_success (with_reducible show wpAny _ _ (exec (Stmt.While _ _ _ _) _) _ _ _)); (fail_if_success (with_reducible show StEnd _ _ _ _ _ _ _ _ _)); (first | (k_unfold; (try dsimp only)) | (k_end; wrow_close) | walk1 | (dsimp only; walk1) | (leave1; walk_say "STEP leave1"; try dsimp only) | fail "no step")))
        exact hret _ _ _ _ (by k_asm) (by k_asm) ⟨rfl, _, hperm, hfin, rfl⟩
    · have hfin := sd_done1 hsd (by omega)
      (repeat' ((fail_if_success (with_reducible show wpAny _ _ (exec (Stmt.While _ _ _ _) _) _ _ _)); (fail_if_success (with_reducible show StEnd _ _ _ _ _ _ _ _ _)); (first | (k_unfold; (try dsimp only)) | (k_end; wrow_close) | walk1 | (dsimp only; walk1) | (leave1; walk_say "STEP leave1"; try dsimp only) | fail "no step")))
      exact hret _ _ _ _ (by k_asm) (by k_asm) ⟨rfl, _, hperm, hfin, rfl⟩
end Mine
end
section
theorem Mine.freshB5 : True := by
  w_top off
  exact True.intro
local macro_rules | `(tactic| walk_at "pad 0") => `(tactic| skip)
set_option maxRecDepth 100000
namespace Mine

theorem Claim.use {w : World} {f : Addr} {d u : Nat} {news : List (Addr × Obj)} {args : List Value} {R : Value → List (Addr × Obj) → Prop} (C : Claim w f d u news args R)
   {mean : ExcName → Option Value} {mg mb : Str → Option Value} {dp un : Nat} {gd : Option (List Code)} {cn : Str} {cs : Scope} {a : Addr} {ccd : Value} {cl : List (Str × Addr)} {outer : List Env} {A₀ : Around} {base h₀ : Heap} {L : Addr} {m : Str → Option Value} {s : Shared} {Q E : Value → Shared → Prop} {news₁ : List (Addr × Obj)}
   (B : Below A₀ base outer h₀) (F : Fr h₀ L s.heap m) (X : (hd.heap_39 w.params).In h₀) (N : News h₀ L s.heap news₁) (hs : ∀ p ∈ news, p ∈ news₁) (T : Top hd.view_39 (looseW hd.view_39 [Str.ofString "b2a_base64", Str.ofString "b64encode"]) mean mg mb h₀) (hk : cs.kind = .function)
   (hdp : dp + d < recursionLimit) (hun : un + u < cLine)
   (h : ∀ r news' h' tk', Fr h₀ L h' m → News h₀ L h' news' → R r news' → Q r { s with heap := h', toks := tk' }) :
   wpAny (model PySem.Challenge.rw_mq0105_01.row.prog w) (ktrTop dp un gd cn cs L a ccd cl outer) (call (.ref f) args) Q E s :=
  C mean mg mb dp un gd cn cs a ccd cl outer A₀ base h₀ L m s Q E B F X (fun p hp => N p (hs p hp)) T hk hdp hun h

section
variable {prog : Program} {w : World} {A : Around} {E : Value → Shared → Prop} {s : Shared} {h₀ : Heap} {L l : Addr} {news : List (Addr × Obj)} {n : Nat}
theorem lst_len {vs : List Value} {Q : Value → Shared → Prop} (N : News h₀ L s.heap news) (hm : (l, listOf vs.toArray n) ∈ news) (hf : vs.length < 2 ^ 62) (h : Q (.int (vs.length : Nat) (s.toks + 1)) { s with toks := s.toks + 1 + 1 }) :
    wpAny (model prog w) A (call (.builtin "len") [.ref l]) Q E s := by
  have hl : s.heap.IsList l vs.toArray := News.isList N hm
  refine PySem.Calls.call_len_list hl (by rw [List.size_toArray]; omega) ?_
  rw [List.size_toArray]; exact h
theorem hp_len {as : List Addr} {Q : Value → Shared → Prop} (N : News h₀ L s.heap news) (hm : (l, listOf (as.map Value.ref).toArray n) ∈ news) (hf : as.length < 2 ^ 62) (h : Q (.int (as.length : Nat) (s.toks + 1)) { s with toks := s.toks + 1 + 1 }) :
    wpAny (model prog w) A (call (.builtin "len") [.ref l]) Q E s :=
  lst_len N hm (by simpa using hf) (by rw [List.length_map]; exact h)
end

local macro_rules | `(tactic| walk_at "subscriptTail Name Name ref int") => `(tactic| (k_here; (with_reducible show wpAny _ _ (subscriptTail _ _ (Value.ref _) (Value.int _ _)) _ _ _); k_dflt (refine' hp_sub ?k1 ?k2 ?k4 ?k5 ?k6 ?_ ?k7; (case k1 => k_asm); (case k2 => k_mem); (case k4 => omega); (case k5 => omega); (case k6 => omega); (case k7 => with_unfolding_all rfl); k_whole)))
local macro_rules | `(tactic| k_all) => `(tactic| assumption)
local macro_rules | `(tactic| walk_at "setItem ref int") => `(tactic| (k_here; (with_reducible show wpAny _ _ (setItem (Value.ref _) (Value.int _ _) (Value.ref _)) _ _ _); k_dflt (refine' hp_set ?k1 ?k2 ?k3 ?k4 ?k5 ?k6 ?_; (case k1 => k_asm); (case k2 => k_asm); (case k3 => k_upd); (case k4 => omega); (case k5 => omega); (case k6 => omega); k_whole); intro h' F' N'; (try k_sweep)))

local macro_rules | `(tactic| walk_at "call builtin:len") => `(tactic| (k_here; (with_reducible show wpAny _ _ (call (Value.builtin "len") [Value.ref _]) _ _ _); k_dflt (refine' hp_len ?k1 ?k2 ?k3 ?_; (case k1 => k_asm); (case k2 => k_mem); (case k3 => omega); k_whole)))

set_option maxHeartbeats 4000000 in
theorem siftup_claim (w : World) (l : Addr) (as : List Addr) (n : Nat) (rest : List (Addr × Obj)) (ent : Addr → Ent) (sp : Nat) (t1 : Tok)
   (hE : ∀ a ∈ as, ∃ t u, (a, tupO (ent a) t u) ∈ rest) (hne : ∀ q ∈ rest, q.1 ≠ l) (hlen : as.length < 64) (o : LtOk fun a b => elt (ent a) (ent b)) (hsp : sp < as.length) (hS : HeapFrom (fun a b => elt (ent a) (ent b)) as (sp + 1)) :
   Claim w 79 8 40 ((l, listOf (as.map Value.ref).toArray n) :: rest) [.ref l, .int sp t1] (fun r news' => r = .none ∧ ∃ as' : List Addr, as'.Perm as ∧ HeapFrom (fun a b => elt (ent a) (ent b)) as' sp ∧ news' = (l, listOf (as'.map Value.ref).toArray n) :: rest) := by
  unfold Claim
  k_fill
  intro mean mg mb dp un gd cn cs a ccd cl outer A₀ base h₀ L m s Q E B F X N T hk hd hu hret
  refine wpAny_call ?_
  k_dflt ktr_enter
  (rename Fr _ _ _ _ => F1)
  have F2 : Fr _ _ _ (fun y => List.lookup y [(Str.ofString "pos", .int sp t1), (Str.ofString "heap", .ref l)]) := F1
  clear F1
  (repeat' ((fail_if_success (with_reducible show wpAny _ _ (exec (Stmt.While _ _ _ _) _) _ _ _)); (first | (k_unfold; (try dsimp only)) | (k_end; wrow_close) | walk1 | (dsimp only; walk1) | (leave1; walk_say "STEP leave1"; try dsimp only) | fail "no step")))
  (rename Fr _ _ _ _ => F1); obtain ⟨u0, F2⟩ := frCut [(Str.ofString "pos", .i sp), (Str.ofString "childpos", .i (2 * (sp : Int) + 1)), (Str.ofString "heap", .v (.ref l)), (Str.ofString "newitem", .v (.ref (as.getD sp 0))), (Str.ofString "startpos", .i sp), (Str.ofString "endpos", .i as.length)] F1 (by repeat' (first | exact True.intro | refine And.intro ⟨_, rfl⟩ ?_ | refine And.intro rfl ?_)); clear F1
  refine while_st (σ := List Addr × Nat) [Str.ofString "rightpos"] (fun x => [(Str.ofString "pos", .i x.2), (Str.ofString "childpos", .i (2 * (x.2 : Int) + 1))]) (fun x => (l, listOf (x.1.map Value.ref).toArray n) :: rest)
    (fun x => x.1.length = as.length ∧ (∀ b ∈ x.1, b ∈ as) ∧ (x.1.set x.2 (as.getD sp 0)).Perm as ∧ SuOk (fun a b => elt (ent a) (ent b)) x.1 sp x.2) (fun x => as.length - x.2) (as, sp) F2 (by k_asm) ?hm ?hl ?hI ?turn
  case hm => (exact FrmOk.start (by repeat' (first | exact True.intro | refine And.intro ⟨_, rfl⟩ ?_ | refine And.intro rfl ?_)))
  case hl => exact fun _ h => h
  case hI =>
    have e : as.set sp (as.getD sp 0) = as := by rw [List.getD_eq_getElem?_getD, List.getElem?_eq_getElem hsp]; simp
    dsimp only
    rw [e]
    exact ⟨rfl, fun _ h => h, .refl _, su_start hsp hS⟩
  case turn =>
    rintro ⟨bs, q⟩ u h tk ⟨hbl, hbm, hperm, hsu⟩ F3 N3
    dsimp only at hbl hbm hperm hsu F3 N3
    have hq := hsu.hp
    have hEb : ∀ a ∈ bs, ∃ t u, (a, tupO (ent a) t u) ∈ rest := fun a h => hE a (hbm a h)
    (repeat' ((fail_if_success (with_reducible show wpAny _ _ (exec (Stmt.While _ _ _ _) _) _ _ _)); (fail_if_success (with_reducible show wpAny _ _ (compareOp CmpOp.Lt (Value.ref _) (Value.ref _)) _ _ _)); (fail_if_success (with_reducible show StEnd _ _ _ _ _ _ _ _ _)); (fail_if_success (with_reducible show wpAny _ _ (PySem.call (Value.ref _) _) _ _ _)); (first | (k_unfold; (try dsimp only)) | (k_end; wrow_close) | walk1 | (dsimp only; walk1) | (leave1; walk_say "STEP leave1"; try dsimp only) | fail "no step")))
    · refine lt_ent (by k_asm) (fun _ h => .tail _ h) (hE_get hEb (by omega)) (hE_get hEb (by omega)) (by show un + 3 + 8 < cLine; omega) ?_
      (repeat' ((fail_if_success (with_reducible show wpAny _ _ (exec (Stmt.While _ _ _ _) _) _ _ _)); (fail_if_success (with_reducible show StEnd _ _ _ _ _ _ _ _ _)); (fail_if_success (with_reducible show wpAny _ _ (PySem.call (Value.ref _) _) _ _ _)); (first | (k_unfold; (try dsimp only)) | (k_end; wrow_close) | walk1 | (dsimp only; walk1) | (leave1; walk_say "STEP leave1"; try dsimp only) | fail "no step")))
      · rename elt _ _ = true => hlt
        refine' StEnd.intro (bs.set q (bs.getD (2 * q + 1) 0), (2 * q + 1)) ?F ?N ?fm ?hl ?hI
        case F => k_asm
        case N => k_asm
        case fm => (refine FrmOk.mk (by repeat' (first | exact True.intro | refine And.intro ⟨_, rfl⟩ ?_ | refine And.intro rfl ?_)) ?_; intro y h1 h2; simp only [List.map_cons, List.map_nil, List.mem_cons, List.not_mem_nil, or_false, not_or] at h1 h2; first | (simp only [h1, h2, if_false, not_false_eq_true, List.map_cons, List.map_nil, List.mem_cons, List.not_mem_nil, or_false, or_self, frm_else]; done) | (simp only [h1, h2, if_false]; exact frm_else (by simp [h1, h2]) (by simp [h1, h2])))
        case hl => exact fun _ h => h
        case hI =>
          refine ⟨⟨by simp [hbl], set_mem hbm (by omega), ?_, ?_⟩, by show as.length - ((2 * q + 1)) < as.length - q; omega⟩
          · exact (su_perm hq (by omega) (by omega)).trans hperm
          · refine su_step o hsu (by omega) (by omega) ?_
            intro k hk hkl
            rcases hk with rfl | rfl
            · exact o.irr _
            · exact o.asymm hlt
      · rename elt _ _ = false => hlt
        refine' StEnd.intro (bs.set q (bs.getD (2 * q + 2) 0), (2 * q + 2)) ?F ?N ?fm ?hl ?hI
        case F => k_asm
        case N => k_asm
        case fm => (refine FrmOk.mk (by repeat' (first | exact True.intro | refine And.intro ⟨_, rfl⟩ ?_ | refine And.intro rfl ?_)) ?_; intro y h1 h2; simp only [List.map_cons, List.map_nil, List.mem_cons, List.not_mem_nil, or_false, not_or] at h1 h2; first | (simp only [h1, h2, if_false, not_false_eq_true, List.map_cons, List.map_nil, List.mem_cons, List.not_mem_nil, or_false, or_self, frm_else]; done) | (simp only [h1, h2, if_false]; exact frm_else (by simp [h1, h2]) (by simp [h1, h2])))
        case hl => exact fun _ h => h
        case hI =>
          refine ⟨⟨by simp [hbl], set_mem hbm (by omega), ?_, ?_⟩, by show as.length - ((2 * q + 2)) < as.length - q; omega⟩
          · exact (su_perm hq (by omega) (by omega)).trans hperm
          · refine su_step o hsu (by omega) (by omega) ?_
            intro k hk hkl
            rcases hk with rfl | rfl
            · exact hlt
            · exact o.irr _
    · refine' StEnd.intro (bs.set q (bs.getD (2 * q + 1) 0), (2 * q + 1)) ?F ?N ?fm ?hl ?hI
      case F => k_asm
      case N => k_asm
      case fm => (refine FrmOk.mk (by repeat' (first | exact True.intro | refine And.intro ⟨_, rfl⟩ ?_ | refine And.intro rfl ?_)) ?_; intro y h1 h2; simp only [List.map_cons, List.map_nil, List.mem_cons, List.not_mem_nil, or_false, not_or] at h1 h2; first | (simp only [h1, h2, if_false, not_false_eq_true, List.map_cons, List.map_nil, List.mem_cons, List.not_mem_nil, or_false, or_self, frm_else]; done) | (simp only [h1, h2, if_false]; exact frm_else (by simp [h1, h2]) (by simp [h1, h2])))
      case hl => exact fun _ h => h
      case hI =>
        refine ⟨⟨by simp [hbl], set_mem hbm (by omega), ?_, ?_⟩, by show as.length - ((2 * q + 1)) < as.length - q; omega⟩
        · exact (su_perm hq (by omega) (by omega)).trans hperm
        · refine su_step o hsu (by omega) (by omega) ?_
          intro k hk hkl
          rcases hk with rfl | rfl
          · exact o.irr _
          · omega
    · have hsd := su_done (x := as.getD sp 0) hsu (by omega)
      (refine' Claim.use (siftdown_claim w l (bs.set q (as.getD sp 0)) n rest ent sp q _ _ (fun a h => hE a (hperm.mem_iff.mp h)) hne (by simp; omega) o hsd) ?k1 ?k2 ?k3 ?k4 ?ks ?k5 ?kK ?kd ?ku ?ret; (case k1 => k_asm); (case k2 => k_asm); (case k3 => k_asm); (case k4 => k_asm); (case k5 => k_asm); (case kK => first | exact rfl | assumption); (case kd => ktr_room); (case ku => ktr_units))
      case ks => exact fun _ h => h
      case ret =>
        rintro r news' h' tk' F9 N9 ⟨rfl, as', hp', hh', rfl⟩
        dsimp only
        (repeat' ((fail_if_success (with_reducible show wpAny _ _ (exec (Stmt.While _ _ _ _) _) _ _ _)); (fail_if_success (with_reducible show StEnd _ _ _ _ _ _ _ _ _)); (fail_if_success (with_reducible show wpAny _ _ (PySem.call (Value.ref _) _) _ _ _)); (first | (k_unfold; (try dsimp only)) | (k_end; wrow_close) | walk1 | (dsimp only; walk1) | (leave1; walk_say "STEP leave1"; try dsimp only) | fail "no step")))
        exact hret _ _ _ _ (by k_asm) (by k_asm) ⟨rfl, _, hp'.trans hperm, hh', rfl⟩
end Mine
end
section
set_option maxRecDepth 100000
namespace Mine
section
variable {prog : Program} {w : World} {A : Around} {E : Value → Shared → Prop} {s : Shared} {env : Env} {h₀ : Heap} {x : Str} {body : List Stmt} {Q : Flow → Shared → Prop}

theorem loop_st {σ : Type} {I : Addr} {fp : List Addr} {n : Nat} {P : Nat → Value → Prop} {St : Nat → Heap → Prop} {m₀ : Str → Option Value} {news : List (Addr × Obj)}
    (junk : List Str) (kn : σ → List (Str × KV)) (led : σ → List (Addr × Obj)) (Inv : Nat → σ → Prop) (x₀ : σ)
    (W : Walks prog w A I fp [I] n P St) (hIo : ∀ i h, St i h → ∃ o, h.get? I = some o) (hLf : env.locals ∉ fp) (hI₀ : h₀.get? I = none) (hst : St 0 s.heap)
    (F : Fr h₀ env.locals s.heap m₀) (N : News h₀ env.locals s.heap news) (hadr : ∀ x, (led x).map (·.1) = (led x₀).map (·.1)) (hnI : ∀ p ∈ led x₀, p.1 ≠ I)
    (hfp : ∀ b ∈ fp, b = I ∨ ∃ o, ∀ x, (b, o) ∈ led x) (hm : FrmOk m₀ junk (kn x₀) m₀) (hl : ∀ p ∈ led x₀, p ∈ news) (hi : Inv 0 x₀)
    (turn : ∀ i v st u h tk oI, i < n → P i v → Inv i st → Fr h₀ env.locals h (fun y => if y = x then some v else frm m₀ junk u (kn st) y) → News h₀ env.locals h (led st ++ [(I, oI)]) →
      wpAny (model prog w) A (execs body env) (StPost h₀ env.locals { s with heap := h, toks := tk } m₀ junk kn (fun x => led x ++ [(I, oI)]) (Inv (i + 1)) Q) E { s with heap := h, toks := tk })
    (done : ∀ st u h tk, Inv n st → Fr h₀ env.locals h (frm m₀ junk u (kn st)) → News h₀ env.locals h (led st) → Q .next { s with heap := h, toks := tk }) :
    LoopAtV prog w A h₀ env x body Q E (.ref I) s := by
  have off : ∀ st, ∀ p ∈ led st, p.1 ∉ [I] := fun st p hp hq => by
    have h1 : p.1 ∈ (led st).map (·.1) := List.mem_map.mpr ⟨p, hp, rfl⟩
    rw [hadr] at h1
    obtain ⟨q, hq1, hq2⟩ := List.mem_map.mp h1
    exact hnI q hq1 (hq2.trans (List.mem_singleton.mp hq))
  refine ⟨I, fp, [I], n, P, St, m₀, led x₀, (fun i m nx => ∃ st, FrmOk m₀ junk (kn st) m ∧ nx = led st ∧ Inv i st), rfl, W, hLf, ?_, off x₀, hst, F, (fun p hp => N p (hl p hp)), ⟨x₀, hm, rfl, hi⟩, ?_, ?_⟩
  · intro b hb
    rw [List.mem_singleton.mp hb]; exact hI₀
  · rintro i v m₁ news₁ s₁ own ⟨h, tk, rfl⟩ hin hP ⟨st, hm₁, rfl, hInv⟩ _ hown hget hall hSt F₁ N₁
    obtain ⟨oI, hoI⟩ := hIo _ _ hSt
    have hIown := hall I (W.sub I (List.mem_singleton.mpr rfl)) hI₀ oI hoI
    have N₂ : News h₀ env.locals h (led st ++ [(I, oI)]) := fun p hp => by
      rcases List.mem_append.mp hp with hp | hp
      · exact N₁ p (List.mem_append.mpr (.inr hp))
      · rw [List.mem_singleton.mp hp]; exact N₁ _ (List.mem_append.mpr (.inl hIown))
    have F₂ : Fr h₀ env.locals h (fun y => if y = x then some v else frm m₀ junk m₁ (kn st) y) := by
      rw [frm_of hm₁]; exact F₁
    refine wpAny_mono (turn i v st m₁ h tk oI hin hP hInv F₂ N₂) (fun f s₂ p => ?_) fun _ _ e => e
    have fin : StEnd h₀ env.locals { s with heap := h, toks := tk } m₀ junk kn (fun x => led x ++ [(I, oI)]) (Inv (i + 1)) s₂ →
        LoopStepU h₀ env.locals [I] own (fun m nx => ∃ st, FrmOk m₀ junk (kn st) m ∧ nx = led st ∧ Inv (i + 1) st) { s with heap := h, toks := tk } .next s₂ := by
      rintro ⟨h', tk', m', news', x', e, F', N', hm', hl', hI'⟩
      refine ⟨rfl, h', tk', m', led x', e, F', fun p hp => ?_, off x', x', hm', rfl, hI'⟩
      rcases List.mem_append.mp hp with hp | hp
      · have g : h.get? p.1 = some p.2 := hget p hp
        rcases hfp _ (hown p hp) with e1 | ⟨o, ho⟩
        · rw [e1, hoI] at g
          have : p = (I, oI) := Prod.ext e1 (Option.some.inj g).symm
          rw [this]
          exact N' _ (hl' _ (List.mem_append.mpr (.inr (List.mem_singleton.mpr rfl))))
        · have g2 : h.get? p.1 = some o := (N₂ _ (List.mem_append.mpr (.inl (ho st)))).1
          rw [g] at g2
          have : p = (p.1, o) := Prod.ext rfl (Option.some.inj g2)
          rw [this]
          exact N' _ (hl' _ (List.mem_append.mpr (.inl (ho x'))))
      · exact N' _ (hl' _ (List.mem_append.mpr (.inl hp)))
    cases f with
    | ret v => exact .ret p
    | brk => exact .brk p
    | next => exact .next (fin p)
    | cont => exact .cont (fin p)
  · rintro h' tk m' news' F' N' _ ⟨st, hm', rfl, hI'⟩
    exact done st m' h' tk hI' (by rw [frm_of hm']; exact F') N'

end
section
open PySem.Builtin.Range
/-- reversed(range(b)) -/
theorem meets_range_rev (r : Addr) (a b c : Int) (t u v : Tok) (hc0 : ¬ (!(rangeFitsLong a && rangeFitsLong b && rangeFitsLong c && rangeFitsLong (-c) && rangeFitsLong (a - c) && rangeFitsLong (rangeSize a b c))) = true) :
    Meets (Builtin.«range.__reversed__» ⟨[.ref r], []⟩) (fun _ R s => IsRange s.heap r a b c t u v ∧ R (.ok (.ret (Value.ref s.heap.objs.size))) { s with heap := s.heap.push { cls := .type (if (rangeFitsLong a && rangeFitsLong b && rangeFitsLong c && rangeFitsLong (-c) && rangeFitsLong (a - c) && rangeFitsLong (rangeSize a b c)) = true then "range_iterator" else "longrange_iterator"), data := .fields #[rawInt (a + (rangeSize a b c - 1) * c), rawInt (rangeSize a b c), rawInt (-c)] } }) := by
  refine .of_wp fun prog w A R s h => ?_
  obtain ⟨hp, g, d, tk, os⟩ := s
  obtain ⟨hl, h⟩ := h
  wp_walk
  exact ⟨_, rfl, h⟩
end

abbrev riObj (x left step : Int) : Obj := { cls := .type "range_iterator", dict := none, data := .fields #[rawInt x, rawInt left, rawInt step], slots := #[] }
theorem sub_ri_reversed : isSubtype (.type "range_iterator") (.type "reversed") = pure false := by rw [isSubtype_type]; kernel_rfl

section
variable {prog : Program} {w : World} {A : Around} {E : Value → Shared → Prop} {s : Shared}
theorem call_range_rev {r : Addr} {b : Nat} {t u v : Tok} {Q : Value → Shared → Prop} (hr : IsRange s.heap r 0 b 1 t u v) (hb : b < 2 ^ 60) (h : Q (.ref s.heap.objs.size) { s with heap := s.heap.push (riObj ((b : Int) - 1) b (-1)) }) :
    wpAny (model prog w) A (call (.builtin "range.__reversed__") [.ref r]) Q E s := by
  have hT : s.TypeIs (.ref r) "range" := ⟨_, hr, rfl⟩
  have hsz : Builtin.Range.rangeSize 0 b 1 = ((b : Nat) : Int) := by
    unfold Builtin.Range.rangeSize
    by_cases h0 : (0 : Int) < b
    · simp only [Int.reduceLT, if_true, gt_iff_lt, if_pos h0, Int.ediv_one]; omega
    · simp only [Int.reduceLT, if_true, gt_iff_lt, if_neg h0]; omega
  have hsm : (Builtin.Range.rangeFitsLong 0 && Builtin.Range.rangeFitsLong b && Builtin.Range.rangeFitsLong 1 && Builtin.Range.rangeFitsLong (-1) && Builtin.Range.rangeFitsLong (0 - 1) && Builtin.Range.rangeFitsLong (Builtin.Range.rangeSize 0 b 1)) = true := by
    rw [hsz]
    unfold Builtin.Range.rangeFitsLong
    simp
    omega
  refine call_meets F.slot_range_reversed hT F.entry_range_reversed (F.args_range_reversed_1 _) (meets_range_rev r 0 b 1 t u v (by rw [hsm]; decide)) ⟨hr, ?_⟩
  rw [hsm, hsz, if_pos rfl]
  have e : (0 : Int) + ((b : Int) - 1) * 1 = (b : Int) - 1 := by omega
  rw [e]
  exact h
theorem code_reversed_range {r : Addr} {b : Nat} {t u v : Tok} {Q₁ : Value → Shared → Prop} (hr : IsRange s.heap r 0 b 1 t u v) (hb : b < 2 ^ 60)
    (h : Q₁ (.ref s.heap.objs.size) { s with heap := s.heap.push (riObj ((b : Int) - 1) b (-1)) }) :
    codeAny (model prog w) A (.call (.builtin "reversed.__new__") ⟨[.type "reversed", .ref r], []⟩) (wants Q₁ E) s := by
  have hT : s.TypeIs (.ref r) "range" := ⟨_, hr, rfl⟩
  refine codeAny_of_tree ?_
  show wpAny _ A.in1 (do checkBuiltinCall "reversed.__new__" ⟨[.type "reversed", .ref r], []⟩; again (.builtin "reversed.__new__" ⟨[.type "reversed", .ref r], []⟩)) _ _ s
  refine wpAny_bind (wpAny_of_eq (F.newCall_reversed_1 _) (wpAny_pure ⟨plainId_quiet F.plain_reversed_new _, codeAny_builtin F.entry_reversed_new ?_⟩))
  rw [Around.under_plainId F.plain_reversed_new _]
  unfold Builtin.«reversed.__new__»
  refine wpAny_bind (wpAny_of_eq (newClass_reversed _) ?_)
  try dsimp only
  refine wpAny_bind (wpAny_of_eq (a := ()) (by first | rfl | kernel_rfl) ?_)
  refine wpAny_bind (wpAny_of_eq (a := ()) (by first | rfl | kernel_rfl) ?_)
  try dsimp only
  refine wpAny_bind (wpAny_specialOf hT F.slot_range_reversed.lookup ?_)
  try dsimp only
  refine wpAny_bind (wpAny_of_eq (F.slot_range_reversed.bind _) ?_)
  try dsimp only
  first
  | rw [if_neg (show ¬ ((Value.builtin "range.__reversed__" == Value.none) = true) from Bool.false_ne_true)]
  | (show wpAny _ _ (if (Value.builtin "range.__reversed__" == Value.none) = true then _ else _) _ _ _; rw [if_neg (show ¬ ((Value.builtin "range.__reversed__" == Value.none) = true) from Bool.false_ne_true)])
  refine wpAny_bind (wpAny_rule ?_)
  refine wpAny_bind (m := runValue (.call (.builtin "range.__reversed__") ⟨[.ref r], []⟩)) (show wpAny _ _ (call (.builtin "range.__reversed__") [.ref r]) _ _ _ from call_range_rev hr hb ?_)
  first
  | exact wpAny_pure h
  | exact wpAny_bind (wpAny_pure (wpAny_pure h))
theorem call_reversed_range {r : Addr} {b : Nat} {t u v : Tok} {Q : Value → Shared → Prop} (hr : IsRange s.heap r 0 b 1 t u v) (hb : b < 2 ^ 60) (h : Q (.ref s.heap.objs.size) { s with heap := s.heap.push (riObj ((b : Int) - 1) b (-1)) }) :
    wpAny (model prog w) A (call (.type "reversed") [.ref r]) Q E s := by
  refine callType_other (U := "range_iterator") (Q₁ := fun obj s₁ => obj = .ref s.heap.objs.size ∧ s₁ = { s with heap := s.heap.push (riObj ((b : Int) - 1) b (-1)) }) (by decide +kernel) F.create_reversed ⟨_, _, F.mro_reversed⟩ F.made_reversed sub_ri_reversed (F.typeCall_reversed_1 _) (code_reversed_range hr hb ⟨rfl, rfl⟩) ?_
  rintro obj s₁ ⟨rfl, rfl⟩
  exact ⟨⟨_, Heap.get?_push_size _ rfl, rfl⟩, h⟩

variable {env : Env} {h₀ : Heap} {x : Str} {body : List Stmt} {Q : Flow → Shared → Prop} {L : Addr} {m : Str → Option Value} {news : List (Addr × Obj)}
theorem rev_N {r : Addr} {b : Nat} {t u v : Tok} {Q : Value → Shared → Prop} (F : Fr h₀ L s.heap m) (N : News h₀ L s.heap news) (hr : IsRange s.heap r 0 b 1 t u v) (hb : b < 2 ^ 60)
    (h : ∀ D h', Fr h₀ L h' m → News h₀ L h' ((D, riObj ((b : Int) - 1) b (-1)) :: news) → (∀ p ∈ news, p.1 ≠ D) → Q (.ref D) { s with heap := h' }) : wpAny (model prog w) A (call (.type "reversed") [.ref r]) Q E s :=
  call_reversed_range hr hb (h _ _ (F.push _) (News.push F N _) fun p hp => Nat.ne_of_lt (Heap.lt_size (N p hp).1))

theorem for_rev {σ : Type} {I : Addr} {b : Nat} {m₀ : Str → Option Value}
    (junk : List Str) (kn : σ → List (Str × KV)) (led : σ → List (Addr × Obj)) (Inv : Nat → σ → Prop) (x₀ : σ)
    (hh : A.handled = none) (F : Fr h₀ env.locals s.heap m₀) (N : News h₀ env.locals s.heap news) (hI : (I, riObj ((b : Int) - 1) b (-1)) ∈ news)
    (hadr : ∀ x, (led x).map (·.1) = (led x₀).map (·.1)) (hnI : ∀ p ∈ led x₀, p.1 ≠ I) (hm : FrmOk m₀ junk (kn x₀) m₀) (hl : ∀ p ∈ led x₀, p ∈ news) (hi : Inv 0 x₀)
    (turn : ∀ i tv st u h tk oI, i < b → Inv i st → Fr h₀ env.locals h (fun y => if y = x then some (.int ((b - 1 - i : Nat) : Int) tv) else frm m₀ junk u (kn st) y) → News h₀ env.locals h (led st ++ [(I, oI)]) →
      wpAny (model prog w) A (execs body env) (StPost h₀ env.locals { s with heap := h, toks := tk } m₀ junk kn (fun x => led x ++ [(I, oI)]) (Inv (i + 1)) Q) E { s with heap := h, toks := tk })
    (done : ∀ st u h tk, Inv b st → Fr h₀ env.locals h (frm m₀ junk u (kn st)) → News h₀ env.locals h (led st) → Q .next { s with heap := h, toks := tk }) :
    wpAny (model prog w) A (pyIter (.ref I)) (fun it s₂ => LoopAtV prog w A h₀ env x body Q E it s₂) E s := by
  have hN := N _ hI
  have hit : IsRangeIter s.heap I ((b : Int) - 1) b (-1) := hN.1
  refine wpAny_pyIter_rangeiter hit ?_
  have W := Walks.range (prog := prog) (w := w) hh I ((b : Int) - 1) (-1) b
  refine loop_st junk kn led Inv x₀ W (fun i h st => ⟨_, st⟩) ?_ hN.2.2 ?_ F N hadr hnI (fun b hb => .inl (List.mem_singleton.mp hb)) hm hl hi ?_ done
  · intro hm
    exact hN.2.1 (List.mem_singleton.mp hm).symm
  · show IsRangeIter _ _ _ _ _
    have e1 : (b : Int) - 1 + ((0 : Nat) : Int) * -1 = (b : Int) - 1 := by omega
    have e2 : (b : Int) - ((0 : Nat) : Int) = b := by omega
    rw [e1, e2]; exact hit
  · rintro i v st u h tk oI hin ⟨tv, rfl⟩ hInv F₁ N₁
    have e : (b : Int) - 1 + (i : Int) * -1 = ((b - 1 - i : Nat) : Int) := by omega
    rw [e] at F₁
    exact turn i tv st u h tk oI hin hInv F₁ N₁
end
end Mine
end
section
theorem Mine.freshB7 : True := by
  w_top off
  exact True.intro
set_option maxRecDepth 100000
namespace Mine

section
variable {prog : Program} {w : World} {A : Around} {E : Value → Shared → Prop} {s : Shared}
theorem fdivNat {a b : Nat} {t u : Tok} {Q : Value → Shared → Prop} (hb : 0 < b) (hs : b < 1073741824) (h : Q (.int ((a / b : Nat) : Int) s.toks) { s with toks := s.toks + 1 }) : wpAny (model prog w) A (binaryOp .FloorDiv (.int (a : Int) t) (.int (b : Int) u)) Q E s := by
  refine floordiv_int (by omega) ?_ (.inl (PyProof.noPylong_small (by omega)))
  have e : ((a : Int)).fdiv (b : Int) = ((a / b : Nat) : Int) := by
    rw [Int.fdiv_eq_ediv_of_nonneg _ (by omega)]
    omega
  rw [e]; exact h
end

local macro_rules | `(tactic| walk_at "call builtin:len") => `(tactic| (k_here; (with_reducible show wpAny _ _ (call (Value.builtin "len") [Value.ref _]) _ _ _); k_dflt (refine' hp_len ?k1 ?k2 ?k3 ?_; (case k1 => k_asm); (case k2 => k_mem); (case k3 => omega); k_whole)))
local macro_rules | `(tactic| walk_at "binaryOp FloorDiv int int") => `(tactic| (k_here; k_dflt (refine' fdivNat (b := 2) ?k1 ?k2 ?_; (case k1 => first | decide | omega); (case k2 => first | decide | omega); k_whole)))

theorem heap_start {lt : Nat → Nat → Bool} {as : List Nat} : HeapFrom lt as (as.length / 2) := by
  intro k h1 h2 h3; omega
theorem ent_app {ent : Addr → Ent} {as : List Addr} {rest : List (Addr × Obj)} {I : Addr} {oI : Obj} (hE : ∀ a ∈ as, ∃ t u, (a, tupO (ent a) t u) ∈ rest) : ∀ a ∈ as, ∃ t u, (a, tupO (ent a) t u) ∈ rest ++ [(I, oI)] := fun a ha => by
  obtain ⟨t, u, h⟩ := hE a ha
  exact ⟨t, u, List.mem_append.mpr (.inl h)⟩
theorem ne_app {l : Addr} {rest : List (Addr × Obj)} {I : Addr} {oI : Obj} (hne : ∀ q ∈ rest, q.1 ≠ l) (h : l ≠ I) : ∀ q ∈ rest ++ [(I, oI)], q.1 ≠ l := fun q hq => by
  rcases List.mem_append.mp hq with h1 | h1
  · exact hne q h1
  · rw [List.mem_singleton.mp h1]; exact Ne.symm h

set_option maxHeartbeats 4000000 in
theorem heapify_claim (w : World) (l : Addr) (as : List Addr) (n : Nat) (rest : List (Addr × Obj)) (ent : Addr → Ent)
   (hE : ∀ a ∈ as, ∃ t u, (a, tupO (ent a) t u) ∈ rest) (hne : ∀ q ∈ rest, q.1 ≠ l) (hlen : as.length < 64) (o : LtOk fun a b => elt (ent a) (ent b)) :
   Claim w 65 12 60 ((l, listOf (as.map Value.ref).toArray n) :: rest) [.ref l] (fun r news' => r = .none ∧ ∃ as' : List Addr, as'.Perm as ∧ HeapFrom (fun a b => elt (ent a) (ent b)) as' 0 ∧ news' = (l, listOf (as'.map Value.ref).toArray n) :: rest) := by
  unfold Claim
  k_fill
  intro mean mg mb dp un gd cn cs a ccd cl outer A₀ base h₀ L m s Q E B F X N T hk hd hu hret
  refine wpAny_call ?_
  k_dflt ktr_enter
  (rename Fr _ _ _ _ => F1)
  have F2 : Fr _ _ _ (fun y => List.lookup y [(Str.ofString "x", .ref l)]) := F1
  clear F1
  (repeat' ((fail_if_success (with_reducible show wpAny _ _ (exec (Stmt.While _ _ _ _) _) _ _ _)); (fail_if_success (with_reducible show wpAny _ _ (pyIter _) _ _ _)); (first | (k_unfold; (try dsimp only)) | (k_end; wrow_close) | walk1 | (dsimp only; walk1) | (leave1; walk_say "STEP leave1"; try dsimp only) | fail "no step")))
  refine rev_N (by k_asm) (by k_asm) (by assumption) (by omega) ?_
  intro D h' F1 N1 hD
  dsimp only
  (repeat' ((fail_if_success (with_reducible show wpAny _ _ (exec (Stmt.While _ _ _ _) _) _ _ _)); (fail_if_success (with_reducible show wpAny _ _ (pyIter _) _ _ _)); (first | (k_unfold; (try dsimp only)) | (k_end; wrow_close) | walk1 | (dsimp only; walk1) | (leave1; walk_say "STEP leave1"; try dsimp only) | fail "no step")))
  (rename Fr _ _ _ _ => F1); obtain ⟨u0, F2⟩ := frCut [(Str.ofString "x", .v (.ref l))] F1 (by repeat' (first | exact True.intro | refine And.intro ⟨_, rfl⟩ ?_ | refine And.intro rfl ?_)); clear F1
  refine for_rev (σ := List Addr) [Str.ofString "i"] (fun _ => []) (fun x => (l, listOf (x.map Value.ref).toArray n) :: rest) (fun i x => x.Perm as ∧ HeapFrom (fun a b => elt (ent a) (ent b)) x (as.length / 2 - i)) as rfl F2 (by k_asm) (.head _) (fun _ => rfl) hD ?hm (fun _ h => .tail _ h) ?hi ?turn ?done
  case hm => (exact FrmOk.start (by repeat' (first | exact True.intro | refine And.intro ⟨_, rfl⟩ ?_ | refine And.intro rfl ?_)))
  case hi => exact ⟨.refl _, heap_start⟩
  case turn =>
    rintro i tv bs u h tk oI hi ⟨hperm, hh⟩ F3 N3
    dsimp only [List.cons_append] at N3
    have hbl := hperm.length_eq
    (repeat' ((fail_if_success (with_reducible show wpAny _ _ (exec (Stmt.While _ _ _ _) _) _ _ _)); (fail_if_success (with_reducible show wpAny _ _ (pyIter _) _ _ _)); (fail_if_success (with_reducible show wpAny _ _ (PySem.call (Value.ref _) _) _ _ _)); (first | (k_unfold; (try dsimp only)) | (k_end; wrow_close) | walk1 | (dsimp only; walk1) | (leave1; walk_say "STEP leave1"; try dsimp only) | fail "no step")))
    (refine' Claim.use (siftup_claim w l bs n (rest ++ [(D, oI)]) ent (as.length / 2 - 1 - i) _ (ent_app fun a h => hE a (hperm.mem_iff.mp h)) (ne_app hne (hD _ (.head _))) (by omega) o (by omega) (by rw [show as.length / 2 - 1 - i + 1 = as.length / 2 - i by omega]; exact hh)) ?k1 ?k2 ?k3 ?k4 ?ks ?k5 ?kK ?kd ?ku ?ret; (case k1 => k_asm); (case k2 => k_asm); (case k3 => k_asm); (case k4 => k_asm); (case k5 => k_asm); (case kK => first | exact rfl | assumption); (case kd => ktr_room); (case ku => ktr_units))
    case ks => exact fun _ h => h
    case ret =>
      rintro r news' h' tk' F9 N9 ⟨rfl, as', hp', hh', rfl⟩
      dsimp only
      (repeat' ((fail_if_success (with_reducible show wpAny _ _ (exec (Stmt.While _ _ _ _) _) _ _ _)); (fail_if_success (with_reducible show wpAny _ _ (pyIter _) _ _ _)); (fail_if_success (with_reducible show StEnd _ _ _ _ _ _ _ _ _)); (first | (k_unfold; (try dsimp only)) | (k_end; wrow_close) | walk1 | (dsimp only; walk1) | (leave1; walk_say "STEP leave1"; try dsimp only) | fail "no step")))
      refine' StEnd.intro as' ?F ?N ?fm ?hl ?hI
      case F => k_asm
      case N => k_asm
      case fm => (refine FrmOk.mk (by repeat' (first | exact True.intro | refine And.intro ⟨_, rfl⟩ ?_ | refine And.intro rfl ?_)) ?_; intro y h1 h2; simp only [List.map_cons, List.map_nil, List.mem_cons, List.not_mem_nil, or_false, not_or] at h1 h2; first | (simp only [h1, h2, if_false, not_false_eq_true, List.map_cons, List.map_nil, List.mem_cons, List.not_mem_nil, or_false, or_self, frm_else]; done) | (simp only [h1, h2, if_false]; exact frm_else (by simp [h1, h2]) (by simp [h1, h2])))
      case hl => exact fun _ h => h
      case hI => exact ⟨hp'.trans hperm, by rw [show as.length / 2 - (i + 1) = as.length / 2 - 1 - i by omega]; exact hh'⟩
  case done =>
    rintro bs u h tk ⟨hperm, hh⟩ F3 N3
    (repeat' ((fail_if_success (with_reducible show wpAny _ _ (exec (Stmt.While _ _ _ _) _) _ _ _)); (fail_if_success (with_reducible show wpAny _ _ (pyIter _) _ _ _)); (fail_if_success (with_reducible show StEnd _ _ _ _ _ _ _ _ _)); (first | (k_unfold; (try dsimp only)) | (k_end; wrow_close) | walk1 | (dsimp only; walk1) | (leave1; walk_say "STEP leave1"; try dsimp only) | fail "no step")))
    exact hret _ _ _ _ (by k_asm) (by k_asm) ⟨rfl, _, hperm, by rw [Nat.sub_self] at hh; exact hh, rfl⟩
end Mine
end
section
theorem Mine.freshB8 : True := by
  w_top off
  exact True.intro
set_option maxRecDepth 100000
namespace Mine

section
variable {prog : Program} {w : World} {A : Around} {E : Value → Shared → Prop} {s : Shared} {h₀ : Heap} {L l : Addr} {m : Str → Option Value} {news news' : List (Addr × Obj)} {n : Nat}
theorem hp_pop {init : List Addr} {z : Addr} {Q : Value → Shared → Prop} (F : Fr h₀ L s.heap m) (N : News h₀ L s.heap news) (U : Upd l (listOf ((init ++ [z]).map Value.ref).toArray n) (listOf (init.map Value.ref).toArray (n + 1)) news news') (hz : init.length < 1000)
    (h : ∀ h', Fr h₀ L h' m → News h₀ L h' news' → Q (.ref z) { s with heap := h' }) : wpAny (model prog w) A (call (.builtin "list.pop") [.ref l]) Q E s := by
  refine kl_pop F N (p := init.map Value.ref) (y := .ref z) ?_ U (by simp; rw [PySem.sizeLine_eq]; omega) h
  rw [List.map_append]
  exact kpa_last _ _
theorem hp_truthy {as : List Addr} {Q : Bool → Shared → Prop} (N : News h₀ L s.heap news) (hm : (l, listOf (as.map Value.ref).toArray n) ∈ news) (hf : as.length < 2 ^ 62) (h : Q (decide (0 < as.length)) { s with toks := s.toks + 1 + 1 }) :
    wpAny (model prog w) A (truthy (.ref l)) Q E s := by
  have hl : s.heap.IsList l (as.map Value.ref).toArray := News.isList N hm
  refine wpAny_truthy_list hl (by simp; omega) ?_
  have e : (!(as.map Value.ref).toArray.isEmpty) = decide (0 < as.length) := by cases as <;> simp
  rw [e]; exact h
end
local macro_rules | `(tactic| walk_at "subscriptTail") => `(tactic| (k_here; (with_reducible show wpAny _ _ (subscriptTail _ _ (Value.ref _) (Value.int _ _)) _ _ _); k_dflt (refine' hp_sub ?k1 ?k2 ?k4 ?k5 ?k6 ?_ ?k7; (case k1 => k_asm); (case k2 => k_mem); (case k4 => omega); (case k5 => omega); (case k6 => omega); (case k7 => with_unfolding_all rfl); k_whole)))
local macro_rules | `(tactic| k_all) => `(tactic| assumption)
local macro_rules | `(tactic| walk_at "setItem ref int") => `(tactic| (k_here; (with_reducible show wpAny _ _ (setItem (Value.ref _) (Value.int _ _) (Value.ref _)) _ _ _); k_dflt (refine' hp_set ?k1 ?k2 ?k3 ?k4 ?k5 ?k6 ?_; (case k1 => k_asm); (case k2 => k_asm); (case k3 => k_upd); (case k4 => omega); (case k5 => omega); (case k6 => omega); k_whole); intro h' F' N'; (try k_sweep)))
local macro_rules | `(tactic| walk_at "call builtin:list.pop") => `(tactic| (k_here; k_dflt (refine' hp_pop ?k1 ?k2 ?k3 ?k4 ?_; (case k1 => k_asm); (case k2 => k_asm); (case k3 => k_upd); (case k4 => omega); k_whole); intro h' F' N'; (try k_sweep)))
local macro_rules | `(tactic| walk_at "truthy ref") => `(tactic| (k_here; k_dflt (refine' hp_truthy ?k1 ?k2 ?k3 ?_; (case k1 => k_asm); (case k2 => k_mem); (case k3 => omega); k_whole)))

theorem getD_app (a b : List Nat) (i : Nat) (h : i < a.length) : (a ++ b).getD i 0 = a.getD i 0 := by
  rw [List.getD_eq_getElem?_getD, List.getD_eq_getElem?_getD, List.getElem?_append_left h]
theorem pop_heap {lt : Nat → Nat → Bool} {init : List Nat} {z : Nat} (h : HeapFrom lt (init ++ [z]) 0) : HeapFrom lt (init.set 0 z) 1 := by
  intro k h1 h2 h3
  rw [List.length_set] at h2
  have r := h k h1 (by simp; omega) (Nat.zero_le _)
  rw [getD_set _ _ _ _ (by omega), getD_set _ _ _ _ (by omega), if_neg (by omega), if_neg (by omega)]
  rw [getD_app _ _ _ h2, getD_app _ _ _ (by omega)] at r
  exact r
theorem pop_perm {init : List Nat} {z : Nat} (h : 0 < init.length) : (init.getD 0 0 :: init.set 0 z).Perm (init ++ [z]) := by
  cases init with
  | nil => cases h
  | cons a t =>
    show (a :: z :: t).Perm (a :: (t ++ [z]))
    exact .cons _ (List.perm_append_singleton z t).symm

set_option maxHeartbeats 4000000 in
theorem heappop_claim (w : World) (l : Addr) (init : List Addr) (z : Addr) (n : Nat) (rest : List (Addr × Obj)) (ent : Addr → Ent)
   (hE : ∀ a ∈ init ++ [z], ∃ t u, (a, tupO (ent a) t u) ∈ rest) (hne : ∀ q ∈ rest, q.1 ≠ l) (hlen : init.length < 63) (o : LtOk fun a b => elt (ent a) (ent b)) (hh : HeapFrom (fun a b => elt (ent a) (ent b)) (init ++ [z]) 0) :
   Claim w 58 12 60 ((l, listOf ((init ++ [z]).map Value.ref).toArray n) :: rest) [.ref l] (fun r news' => r = .ref ((init ++ [z]).getD 0 0) ∧ ∃ as' : List Addr, ((init ++ [z]).getD 0 0 :: as').Perm (init ++ [z]) ∧ HeapFrom (fun a b => elt (ent a) (ent b)) as' 0 ∧ news' = (l, listOf (as'.map Value.ref).toArray (n + 1)) :: rest) := by
  unfold Claim
  k_fill
  intro mean mg mb dp un gd cn cs a ccd cl outer A₀ base h₀ L m s Q E B F X N T hk hd hu hret
  refine wpAny_call ?_
  k_dflt ktr_enter
  (rename Fr _ _ _ _ => F1)
  have F2 : Fr _ _ _ (fun y => List.lookup y [(Str.ofString "heap", .ref l)]) := F1
  clear F1
  (repeat' ((fail_if_success (with_reducible show wpAny _ _ (exec (Stmt.While _ _ _ _) _) _ _ _)); (fail_if_success (with_reducible show wpAny _ _ (pyIter _) _ _ _)); (fail_if_success (with_reducible show wpAny _ _ (PySem.call (Value.ref _) _) _ _ _)); (first | (k_unfold; (try dsimp only)) | (k_end; wrow_close) | walk1 | (dsimp only; walk1) | (leave1; walk_say "STEP leave1"; try dsimp only) | fail "no step")))
  · have hil : 0 < init.length := by simp_all
    (refine' Claim.use (siftup_claim w l (init.set 0 z) (n + 1) rest ent 0 _ (fun a h => hE a (by rcases List.mem_or_eq_of_mem_set h with h | h; exact List.mem_append.mpr (.inl h); rw [h]; simp)) hne (by simp; omega) o (by simp; omega) (pop_heap hh)) ?k1 ?k2 ?k3 ?k4 ?ks ?k5 ?kK ?kd ?ku ?ret; (case k1 => k_asm); (case k2 => k_asm); (case k3 => k_asm); (case k4 => k_asm); (case k5 => k_asm); (case kK => first | exact rfl | assumption); (case kd => ktr_room); (case ku => ktr_units))
    case ks => exact fun _ h => h
    case ret =>
      rintro r news' h' tk' F9 N9 ⟨rfl, as', hp', hh', rfl⟩
      dsimp only
      (repeat' ((fail_if_success (with_reducible show wpAny _ _ (exec (Stmt.While _ _ _ _) _) _ _ _)); (fail_if_success (with_reducible show wpAny _ _ (pyIter _) _ _ _)); (fail_if_success (with_reducible show wpAny _ _ (PySem.call (Value.ref _) _) _ _ _)); (first | (k_unfold; (try dsimp only)) | (k_end; wrow_close) | walk1 | (dsimp only; walk1) | (leave1; walk_say "STEP leave1"; try dsimp only) | fail "no step")))
      have e : (init ++ [z]).getD 0 0 = init.getD 0 0 := getD_app _ _ _ hil
      refine hret _ _ _ _ (by k_asm) (by k_asm) ⟨by rw [e]; rfl, _, ?_, hh', rfl⟩
      rw [e]
      exact (List.Perm.cons _ hp').trans (pop_perm hil)
  · have hil : init = [] := by cases init <;> simp_all
    subst hil
    exact hret _ _ _ _ (by k_asm) (by k_asm) ⟨rfl, [], .refl _, fun k h1 h2 => by simp at h2, rfl⟩
end Mine
end
section
set_option maxRecDepth 100000
namespace Mine
theorem frm0_of {m : Str → Option Value} {kn : List (Str × KV)} (hk : AllKn m kn) : frm0 m kn = m := by
  funext y
  unfold frm0
  cases e : kn.lookup y with
  | none => rfl
  | some v =>
    have := allKn_lookup hk e
    cases v with
    | i n => exact (KV.is_val this).symm
    | v x => exact (KV.is_val this).symm
/-- a turn's end, nothing kept of the frame but what is said -/
def KEnd {σ : Type} (h₀ : Heap) (L : Addr) (s : Shared) (kn : σ → List (Str × KV)) (led : σ → List (Addr × Obj)) (I : σ → Prop) (s₂ : Shared) : Prop :=
  ∃ h' tk m' news' x', s₂ = { s with heap := h', toks := tk } ∧ Fr h₀ L h' m' ∧ News h₀ L h' news' ∧ AllKn m' (kn x') ∧ (∀ p ∈ led x', p ∈ news') ∧ I x'
theorem KEnd.intro {σ : Type} {h₀ : Heap} {L : Addr} {s : Shared} {kn : σ → List (Str × KV)} {led : σ → List (Addr × Obj)} {I : σ → Prop} {h' : Heap} {tk : Nat} {m' : Str → Option Value} {news' : List (Addr × Obj)} (x' : σ)
    (F : Fr h₀ L h' m') (N : News h₀ L h' news') (hm : AllKn m' (kn x')) (hl : ∀ p ∈ led x', p ∈ news') (hI : I x') : KEnd h₀ L s kn led I { s with heap := h', toks := tk } :=
  ⟨h', tk, m', news', x', rfl, F, N, hm, hl, hI⟩
def KPost {σ : Type} (h₀ : Heap) (L : Addr) (s : Shared) (kn : σ → List (Str × KV)) (led : σ → List (Addr × Obj)) (I : σ → Prop) (Q : Flow → Shared → Prop) (f : Flow) (s₂ : Shared) : Prop :=
  match f with
  | .ret v => Q (.ret v) s₂
  | .brk => Q .next s₂
  | _ => KEnd h₀ L s kn led I s₂

section
variable {prog : Program} {w : World} {A : Around} {E : Value → Shared → Prop} {Q : Flow → Shared → Prop} {s : Shared} {env : Env} {h₀ : Heap} {L : Addr}
theorem while_k {σ : Type} {test : PySem.Expr} {body : List Stmt} {pos : Pos} {m₀ : Str → Option Value} {news : List (Addr × Obj)} (kn : σ → List (Str × KV)) (led : σ → List (Addr × Obj)) (I : σ → Prop) (μ : σ → Nat) (x₀ : σ)
    (F : Fr h₀ L s.heap m₀) (N : News h₀ L s.heap news) (hm : AllKn m₀ (kn x₀)) (hl : ∀ p ∈ led x₀, p ∈ news) (hI : I x₀)
    (turn : ∀ x u h tk, I x → Fr h₀ L h (frm0 u (kn x)) → News h₀ L h (led x) →
      wpAny (model prog w) A (isTrue test env (eval test env)) (fun b s₂ =>
        if b = true then wpAny (model prog w) A (execs body env) (KPost h₀ L s kn led (fun x' => I x' ∧ μ x' < μ x) Q) E s₂ else Q .next s₂) E { s with heap := h, toks := tk })
    (hE : PassesOwn (model prog w) A env E := by passes_own) :
    wpAny (model prog w) A (exec (.While test body [] pos) env) Q E s := by
  refine While_inv2 (fun n m nx => ∃ x, μ x = n ∧ AllKn m (kn x) ∧ nx = led x ∧ I x) (n₀ := μ x₀) F (fun p hp => N p (hl p hp)) ⟨x₀, rfl, hm, rfl, hI⟩ ?_ hE
  rintro n m₁ nx h tk F₁ N₁ ⟨x, rfl, hm₁, rfl, hI₁⟩
  rw [← frm0_of hm₁] at F₁
  refine wpAny_mono (turn x m₁ h tk hI₁ F₁ N₁) (fun b s₂ p => ?_) fun _ _ x => x
  cases b with
  | false => simpa using p
  | true =>
    simp only [if_true] at p ⊢
    refine wpAny_mono p (fun f s₃ q => ?_) fun _ _ x => x
    have go : KEnd h₀ L s kn led (fun x' => I x' ∧ μ x' < μ x) s₃ → ∃ h' tk m₂ news₂ n', s₃ = { s with heap := h', toks := tk } ∧ Fr h₀ L h' m₂ ∧ News h₀ L h' news₂ ∧ n' < μ x ∧ ∃ x, μ x = n' ∧ AllKn m₂ (kn x) ∧ news₂ = led x ∧ I x := by
      rintro ⟨h', tk', m', news', x', rfl, F', N', hm', hl', hI', hμ⟩
      exact ⟨h', tk', m', led x', _, rfl, F', fun p hp => N' p (hl' p hp), hμ, x', rfl, hm', rfl, hI'⟩
    cases f with
    | ret v => exact q
    | brk => exact q
    | next => exact go q
    | cont => exact go q
end
section
variable {prog : Program} {w : World} {A : Around} {E : Value → Shared → Prop} {s : Shared} {env : Env} {h₀ : Heap} {x : Str} {body : List Stmt} {Q : Flow → Shared → Prop}

theorem loop_k {σ : Type} {I : Addr} {fp : List Addr} {n : Nat} {P : Nat → Value → Prop} {St : Nat → Heap → Prop} {m₀ : Str → Option Value} {news : List (Addr × Obj)}
    (kn : σ → List (Str × KV)) (led : σ → List (Addr × Obj)) (Inv : Nat → σ → Prop) (x₀ : σ)
    (W : Walks prog w A I fp [I] n P St) (hIo : ∀ i h, St i h → ∃ o, h.get? I = some o) (hLf : env.locals ∉ fp) (hI₀ : h₀.get? I = none) (hst : St 0 s.heap)
    (F : Fr h₀ env.locals s.heap m₀) (N : News h₀ env.locals s.heap news) (hadr : ∀ x, (led x).map (·.1) = (led x₀).map (·.1)) (hnI : ∀ p ∈ led x₀, p.1 ≠ I)
    (hfp : ∀ b ∈ fp, b = I ∨ ∃ o, ∀ x, (b, o) ∈ led x) (hm : AllKn m₀ (kn x₀)) (hl : ∀ p ∈ led x₀, p ∈ news) (hi : Inv 0 x₀)
    (turn : ∀ i v st u h tk oI, i < n → P i v → Inv i st → Fr h₀ env.locals h (fun y => if y = x then some v else frm0 u (kn st) y) → News h₀ env.locals h (led st ++ [(I, oI)]) →
      wpAny (model prog w) A (execs body env) (KPost h₀ env.locals { s with heap := h, toks := tk } kn (fun x => led x ++ [(I, oI)]) (Inv (i + 1)) Q) E { s with heap := h, toks := tk })
    (done : ∀ st u h tk, Inv n st → Fr h₀ env.locals h (frm0 u (kn st)) → News h₀ env.locals h (led st) → Q .next { s with heap := h, toks := tk }) :
    LoopAtV prog w A h₀ env x body Q E (.ref I) s := by
  have off : ∀ st, ∀ p ∈ led st, p.1 ∉ [I] := fun st p hp hq => by
    have h1 : p.1 ∈ (led st).map (·.1) := List.mem_map.mpr ⟨p, hp, rfl⟩
    rw [hadr] at h1
    obtain ⟨q, hq1, hq2⟩ := List.mem_map.mp h1
    exact hnI q hq1 (hq2.trans (List.mem_singleton.mp hq))
  refine ⟨I, fp, [I], n, P, St, m₀, led x₀, (fun i m nx => ∃ st, AllKn m (kn st) ∧ nx = led st ∧ Inv i st), rfl, W, hLf, ?_, off x₀, hst, F, (fun p hp => N p (hl p hp)), ⟨x₀, hm, rfl, hi⟩, ?_, ?_⟩
  · intro b hb
    rw [List.mem_singleton.mp hb]; exact hI₀
  · rintro i v m₁ news₁ s₁ own ⟨h, tk, rfl⟩ hin hP ⟨st, hm₁, rfl, hInv⟩ _ hown hget hall hSt F₁ N₁
    obtain ⟨oI, hoI⟩ := hIo _ _ hSt
    have hIown := hall I (W.sub I (List.mem_singleton.mpr rfl)) hI₀ oI hoI
    have N₂ : News h₀ env.locals h (led st ++ [(I, oI)]) := fun p hp => by
      rcases List.mem_append.mp hp with hp | hp
      · exact N₁ p (List.mem_append.mpr (.inr hp))
      · rw [List.mem_singleton.mp hp]; exact N₁ _ (List.mem_append.mpr (.inl hIown))
    have F₂ : Fr h₀ env.locals h (fun y => if y = x then some v else frm0 m₁ (kn st) y) := by
      rw [frm0_of hm₁]; exact F₁
    refine wpAny_mono (turn i v st m₁ h tk oI hin hP hInv F₂ N₂) (fun f s₂ p => ?_) fun _ _ e => e
    have fin : KEnd h₀ env.locals { s with heap := h, toks := tk } kn (fun x => led x ++ [(I, oI)]) (Inv (i + 1)) s₂ →
        LoopStepU h₀ env.locals [I] own (fun m nx => ∃ st, AllKn m (kn st) ∧ nx = led st ∧ Inv (i + 1) st) { s with heap := h, toks := tk } .next s₂ := by
      rintro ⟨h', tk', m', news', x', e, F', N', hm', hl', hI'⟩
      refine ⟨rfl, h', tk', m', led x', e, F', fun p hp => ?_, off x', x', hm', rfl, hI'⟩
      rcases List.mem_append.mp hp with hp | hp
      · have g : h.get? p.1 = some p.2 := hget p hp
        rcases hfp _ (hown p hp) with e1 | ⟨o, ho⟩
        · rw [e1, hoI] at g
          have : p = (I, oI) := Prod.ext e1 (Option.some.inj g).symm
          rw [this]
          exact N' _ (hl' _ (List.mem_append.mpr (.inr (List.mem_singleton.mpr rfl))))
        · have g2 : h.get? p.1 = some o := (N₂ _ (List.mem_append.mpr (.inl (ho st)))).1
          rw [g] at g2
          have : p = (p.1, o) := Prod.ext rfl (Option.some.inj g2)
          rw [this]
          exact N' _ (hl' _ (List.mem_append.mpr (.inl (ho x'))))
      · exact N' _ (hl' _ (List.mem_append.mpr (.inl hp)))
    cases f with
    | ret v => exact .ret p
    | brk => exact .brk p
    | next => exact .next (fin p)
    | cont => exact .cont (fin p)
  · rintro h' tk m' news' F' N' _ ⟨st, hm', rfl, hI'⟩
    exact done st m' h' tk hI' (by rw [frm0_of hm']; exact F') N'

/-- for x in range(b): -/
theorem for_rangeK {σ : Type} {r : Addr} {b : Nat} {t u v : Tok} {m₀ : Str → Option Value} {news : List (Addr × Obj)}
    (kn : σ → List (Str × KV)) (led : σ → List (Addr × Obj)) (Inv : Nat → σ → Prop) (x₀ : σ)
    (hh : A.handled = none) (hr : IsRange s.heap r 0 b 1 t u v) (hb : b < 2 ^ 60) (F : Fr h₀ env.locals s.heap m₀) (N : News h₀ env.locals s.heap news)
    (hadr : ∀ x, (led x).map (·.1) = (led x₀).map (·.1)) (hm : AllKn m₀ (kn x₀)) (hl : ∀ p ∈ led x₀, p ∈ news) (hi : Inv 0 x₀)
    (turn : ∀ i tv st u h tk I oI, i < b → (∀ p ∈ led x₀, p.1 ≠ I) → Inv i st → Fr h₀ env.locals h (fun y => if y = x then some (.int (i : Nat) tv) else frm0 u (kn st) y) → News h₀ env.locals h (led st ++ [(I, oI)]) →
      wpAny (model prog w) A (execs body env) (KPost h₀ env.locals { s with heap := h, toks := tk } kn (fun x => led x ++ [(I, oI)]) (Inv (i + 1)) Q) E { s with heap := h, toks := tk })
    (done : ∀ st u h tk, Inv b st → Fr h₀ env.locals h (frm0 u (kn st)) → News h₀ env.locals h (led st) → Q .next { s with heap := h, toks := tk }) :
    wpAny (model prog w) A (pyIter (.ref r)) (fun it s₂ => LoopAtV prog w A h₀ env x body Q E it s₂) E s := by
  have hsz : Builtin.Range.rangeSize 0 b 1 = ((b : Nat) : Int) := by
    unfold Builtin.Range.rangeSize
    by_cases h0 : (0 : Int) < b
    · simp only [Int.reduceLT, if_true, gt_iff_lt, if_pos h0, Int.ediv_one]; omega
    · simp only [Int.reduceLT, if_true, gt_iff_lt, if_neg h0]; omega
  have hsm : Builtin.Range.small 0 b 1 = true := by
    unfold Builtin.Range.small Builtin.Range.rangeFitsLong
    rw [hsz]
    simp
    omega
  refine wpAny_pyIter_range hr hsm ?_
  have W := LCg.range_walks (prog := prog) (w := w) (I := s.heap.objs.size) hh 0 b
  have ne : ∀ p ∈ led x₀, p.1 ≠ s.heap.objs.size := fun p hp => Nat.ne_of_lt (Heap.lt_size (N p (hl p hp)).1)
  refine loop_k kn led Inv x₀ W (fun i h st => ⟨_, st⟩) ?_ (next_is_new F) ?_ (F.push _) (fun p hp => ⟨Heap.get?_push_of_some _ (N p hp).1, (N p hp).2⟩) hadr ne (fun b hb => .inl (List.mem_singleton.mp hb)) hm hl hi ?_ done
  · intro hm
    exact absurd F.ns.lt ((List.mem_singleton.mp hm) ▸ Nat.lt_irrefl _)
  · show IsRangeIter _ _ _ _ _
    rw [hsz]; simpa using Heap.get?_push_size _ rfl
  · rintro i v st u h tk oI hin ⟨tv, rfl⟩ hInv F₁ N₁
    rw [Int.zero_add] at F₁
    exact turn i tv st u h tk _ oI hin ne hInv F₁ N₁

/-- for x in xs: a list of the ledger -/
theorem for_listK {σ : Type} {l : Addr} {vs : List Value} {k : Nat} {m₀ : Str → Option Value} {news : List (Addr × Obj)}
    (kn : σ → List (Str × KV)) (led : σ → List (Addr × Obj)) (Inv : Nat → σ → Prop) (x₀ : σ)
    (hh : A.handled = none) (hsrc : ∀ x, (l, listOf vs.toArray k) ∈ led x) (F : Fr h₀ env.locals s.heap m₀) (N : News h₀ env.locals s.heap news)
    (hadr : ∀ x, (led x).map (·.1) = (led x₀).map (·.1)) (hm : AllKn m₀ (kn x₀)) (hl : ∀ p ∈ led x₀, p ∈ news) (hi : Inv 0 x₀)
    (turn : ∀ i v st u h tk I oI, i < vs.length → vs[i]? = some v → (∀ p ∈ led x₀, p.1 ≠ I) → Inv i st → Fr h₀ env.locals h (fun y => if y = x then some v else frm0 u (kn st) y) → News h₀ env.locals h (led st ++ [(I, oI)]) →
      wpAny (model prog w) A (execs body env) (KPost h₀ env.locals { s with heap := h, toks := tk } kn (fun x => led x ++ [(I, oI)]) (Inv (i + 1)) Q) E { s with heap := h, toks := tk })
    (done : ∀ st u h tk, Inv vs.length st → Fr h₀ env.locals h (frm0 u (kn st)) → News h₀ env.locals h (led st) → Q .next { s with heap := h, toks := tk }) :
    wpAny (model prog w) A (pyIter (.ref l)) (fun it s₂ => LoopAtV prog w A h₀ env x body Q E it s₂) E s := by
  have hN := N _ (hl _ (hsrc x₀))
  have hls : s.heap.IsList l vs.toArray := ⟨_, hN.1, rfl, k, rfl⟩
  have hne : l ≠ s.heap.objs.size := Nat.ne_of_lt (Heap.lt_size hN.1)
  refine wpAny_pyIter_list hls ?_
  have W := Walks.list (prog := prog) (w := w) hh s.heap.objs.size l hne vs.toArray
  rw [List.size_toArray] at W
  have ne : ∀ p ∈ led x₀, p.1 ≠ s.heap.objs.size := fun p hp => Nat.ne_of_lt (Heap.lt_size (N p (hl p hp)).1)
  refine loop_k kn led Inv x₀ W (fun i h st => by obtain ⟨o, e, _⟩ := st.1; exact ⟨o, e⟩) ?_ (next_is_new F) ⟨⟨_, Heap.get?_push_size _ rfl, rfl, rfl⟩, hls.at fun o e => Heap.get?_push_of_some _ e⟩ (F.push _)
    (fun p hp => ⟨Heap.get?_push_of_some _ (N p hp).1, (N p hp).2⟩) hadr ne ?_ hm hl hi ?_ done
  · intro hm
    rcases List.mem_cons.mp hm with e | hm
    · exact absurd F.ns.lt (e ▸ Nat.lt_irrefl _)
    · exact hN.2.1 (List.mem_singleton.mp hm).symm
  · intro b hb
    rcases List.mem_cons.mp hb with e | hb
    · exact .inl e
    · rw [List.mem_singleton.mp hb]; exact .inr ⟨_, hsrc⟩
  · intro i v st u h tk oI hin hP hInv F₁ N₁
    exact turn i v st u h tk _ oI hin (by simpa using hP) ne hInv F₁ N₁

/-- for x in b'..': -/
theorem for_bytesK {σ : Type} {bs : Array UInt8} {tb : Tok} {m₀ : Str → Option Value} {news : List (Addr × Obj)}
    (kn : σ → List (Str × KV)) (led : σ → List (Addr × Obj)) (Inv : Nat → σ → Prop) (x₀ : σ)
    (hh : A.handled = none) (F : Fr h₀ env.locals s.heap m₀) (N : News h₀ env.locals s.heap news)
    (hadr : ∀ x, (led x).map (·.1) = (led x₀).map (·.1)) (hm : AllKn m₀ (kn x₀)) (hl : ∀ p ∈ led x₀, p ∈ news) (hi : Inv 0 x₀)
    (turn : ∀ i c tv st u h tk I oI, i < bs.size → bs[i]? = some c → (∀ p ∈ led x₀, p.1 ≠ I) → Inv i st → Fr h₀ env.locals h (fun y => if y = x then some (.int (c.toNat : Nat) tv) else frm0 u (kn st) y) → News h₀ env.locals h (led st ++ [(I, oI)]) →
      wpAny (model prog w) A (execs body env) (KPost h₀ env.locals { s with heap := h, toks := tk } kn (fun x => led x ++ [(I, oI)]) (Inv (i + 1)) Q) E { s with heap := h, toks := tk })
    (done : ∀ st u h tk, Inv bs.size st → Fr h₀ env.locals h (frm0 u (kn st)) → News h₀ env.locals h (led st) → Q .next { s with heap := h, toks := tk }) :
    wpAny (model prog w) A (pyIter (.bytes bs tb)) (fun it s₂ => LoopAtV prog w A h₀ env x body Q E it s₂) E s := by
  refine KBw.pyIter_bytes ?_
  have W := KBw.walks (prog := prog) (w := w) hh s.heap.objs.size bs tb
  have ne : ∀ p ∈ led x₀, p.1 ≠ s.heap.objs.size := fun p hp => Nat.ne_of_lt (Heap.lt_size (N p (hl p hp)).1)
  refine loop_k kn led Inv x₀ W (fun i h st => by obtain ⟨o, e, _⟩ := st; exact ⟨o, e⟩) ?_ (next_is_new F) ⟨_, Heap.get?_push_size _ rfl, rfl, rfl⟩ (F.push _) (fun p hp => ⟨Heap.get?_push_of_some _ (N p hp).1, (N p hp).2⟩) hadr ne (fun b hb => .inl (List.mem_singleton.mp hb)) hm hl hi ?_ done
  · intro hm
    exact absurd F.ns.lt ((List.mem_singleton.mp hm) ▸ Nat.lt_irrefl _)
  · rintro i v st u h tk oI hin ⟨c, tv, hc, rfl⟩ hInv F₁ N₁
    exact turn i c tv st u h tk _ oI hin hc ne hInv F₁ N₁

end
end Mine
end
section
theorem Mine.freshC1 : True := by
  w_top off
  exact True.intro
set_option maxRecDepth 100000
namespace Mine
local macro_rules | `(tactic| walk_at "call type:type") => `(tactic| (k_here; (with_reducible show wpAny _ _ (call _ [Value.bytes _ _]) _ _ _); refine call_type_of (Tx := "bytes") rfl (by decide +kernel) ?_))
set_option maxHeartbeats 4000000 in
theorem buffer_claim (w : World) (b : Array UInt8) (t : Tok) (news : List (Addr × Obj)) :
   Claim w 28 4 20 news [.bytes b t] (fun r news' => r = .bytes b t ∧ news' = news) := by
  unfold Claim
  k_fill
  intro mean mg mb dp un gd cn cs a ccd cl outer A₀ base h₀ L m s Q E B F X N T hk hd hu hret
  refine wpAny_call ?_
  k_dflt (refine' code_def ?k1 ?k2 ?k3 ?k4 ?k5 ?kA ?kF ?kK ?k6 ?k7 ?k8 ?k9 ?kB ?_ ?c2 ?c3 ?c4 ?c5; (case kA => exact rfl); (case kF => exact rfl); (case kK => first | exact rfl | assumption); (case k1 => k_asm); (case k2 => k_asm); (case k3 => k_asm); (case k4 => k_asm); (case k5 => k_asm); (case k6 => k_is); (case k7 => k_is); (case k8 => ktr_room); (case k9 => first | exact BindsTo.of_eq rfl | exact binds_K (by k_in) rfl (by k_is) rfl rfl rfl); (case c5 => decide); (case kB => exact locs rfl); (case c2 => exact rfl); (case c3 => exact rfl); (case c4 => exact rfl); k_whole; intro g' L' h' FG' F' N' B' X' T'; (try dsimp only); (try k_fold))
  (rename Fr _ _ _ _ => F1)
  have F2 : Fr _ _ _ (fun y => List.lookup y [(Str.ofString "data", .bytes b t)]) := F1
  clear F1
  (repeat' ((fail_if_success (with_reducible show wpAny _ _ (exec (Stmt.While _ _ _ _) _) _ _ _)); (fail_if_success (with_reducible show wpAny _ _ (pyIter _) _ _ _)); (fail_if_success (with_reducible show wpAny _ _ (PySem.call (Value.ref _) _) _ _ _)); (first | (k_unfold; (try dsimp only)) | (k_end; wrow_close) | walk1 | (dsimp only; walk1) | (leave1; walk_say "STEP leave1"; try dsimp only) | fail "no step")))
  all_goals exact hret _ _ _ _ (by k_asm) (by k_asm) ⟨rfl, rfl⟩

set_option maxHeartbeats 4000000 in
theorem truth_claim (w : World) (news : List (Addr × Obj)) :
   Claim w 35 4 20 news [.bool false] (fun r news' => r = .bool false ∧ news' = news) := by
  unfold Claim
  k_fill
  intro mean mg mb dp un gd cn cs a ccd cl outer A₀ base h₀ L m s Q E B F X N T hk hd hu hret
  refine wpAny_call ?_
  k_dflt (refine' code_def ?k1 ?k2 ?k3 ?k4 ?k5 ?kA ?kF ?kK ?k6 ?k7 ?k8 ?k9 ?kB ?_ ?c2 ?c3 ?c4 ?c5; (case kA => exact rfl); (case kF => exact rfl); (case kK => first | exact rfl | assumption); (case k1 => k_asm); (case k2 => k_asm); (case k3 => k_asm); (case k4 => k_asm); (case k5 => k_asm); (case k6 => k_is); (case k7 => k_is); (case k8 => ktr_room); (case k9 => first | exact BindsTo.of_eq rfl | exact binds_K (by k_in) rfl (by k_is) rfl rfl rfl); (case c5 => decide); (case kB => exact locs rfl); (case c2 => exact rfl); (case c3 => exact rfl); (case c4 => exact rfl); k_whole; intro g' L' h' FG' F' N' B' X' T'; (try dsimp only); (try k_fold))
  (rename Fr _ _ _ _ => F1)
  have F2 : Fr _ _ _ (fun y => List.lookup y [(Str.ofString "x", .bool false)]) := F1
  clear F1
  (repeat' ((fail_if_success (with_reducible show wpAny _ _ (exec (Stmt.While _ _ _ _) _) _ _ _)); (fail_if_success (with_reducible show wpAny _ _ (pyIter _) _ _ _)); (fail_if_success (with_reducible show wpAny _ _ (PySem.call (Value.ref _) _) _ _ _)); (first | (k_unfold; (try dsimp only)) | (k_end; wrow_close) | walk1 | (dsimp only; walk1) | (leave1; walk_say "STEP leave1"; try dsimp only) | fail "no step")))
  all_goals exact hret _ _ _ _ (by k_asm) (by k_asm) ⟨rfl, rfl⟩

end Mine
end
section
theorem Mine.freshC2 : True := by
  w_top off
  exact True.intro
set_option maxRecDepth 100000
namespace Mine

def ClaimK (w : World) (f : Addr) (d u : Nat) (news : List (Addr × Obj)) (args : List Value) (kw : List (Str × Value)) (R : Value → List (Addr × Obj) → Prop) : Prop :=
  ∀ (mean : ExcName → Option Value) (mg mb : Str → Option Value) (dp un : Nat) (gd : Option (List Code)) (cn : Str) (cs : Scope) (a : Addr) (ccd : Value) (cl : List (Str × Addr)) (outer : List Env) (A₀ : Around) (base h₀ : Heap) (L : Addr) (m : Str → Option Value) (s : Shared) (Q E : Value → Shared → Prop),
    Below A₀ base outer h₀ → Fr h₀ L s.heap m → (hd.heap_39 w.params).In h₀ → News h₀ L s.heap news → Top hd.view_39 (looseW hd.view_39 [Str.ofString "b2a_base64", Str.ofString "b64encode"]) mean mg mb h₀ → cs.kind = .function →
    dp + d < recursionLimit → un + u < cLine →
    (∀ r news' h' tk', Fr h₀ L h' m → News h₀ L h' news' → R r news' → Q r { s with heap := h', toks := tk' }) →
    wpAny (model PySem.Challenge.rw_mq0105_01.row.prog w) (ktrTop dp un gd cn cs L a ccd cl outer) (call (.ref f) args kw) Q E s
theorem ClaimK.use {w : World} {f : Addr} {d u : Nat} {news : List (Addr × Obj)} {args : List Value} {kw : List (Str × Value)} {R : Value → List (Addr × Obj) → Prop} (C : ClaimK w f d u news args kw R)
   {mean : ExcName → Option Value} {mg mb : Str → Option Value} {dp un : Nat} {gd : Option (List Code)} {cn : Str} {cs : Scope} {a : Addr} {ccd : Value} {cl : List (Str × Addr)} {outer : List Env} {A₀ : Around} {base h₀ : Heap} {L : Addr} {m : Str → Option Value} {s : Shared} {Q E : Value → Shared → Prop} {news₁ : List (Addr × Obj)}
   (B : Below A₀ base outer h₀) (F : Fr h₀ L s.heap m) (X : (hd.heap_39 w.params).In h₀) (N : News h₀ L s.heap news₁) (hs : ∀ p ∈ news, p ∈ news₁) (T : Top hd.view_39 (looseW hd.view_39 [Str.ofString "b2a_base64", Str.ofString "b64encode"]) mean mg mb h₀) (hk : cs.kind = .function)
   (hdp : dp + d < recursionLimit) (hun : un + u < cLine)
   (h : ∀ r news' h' tk', Fr h₀ L h' m → News h₀ L h' news' → R r news' → Q r { s with heap := h', toks := tk' }) :
   wpAny (model PySem.Challenge.rw_mq0105_01.row.prog w) (ktrTop dp un gd cn cs L a ccd cl outer) (call (.ref f) args kw) Q E s :=
  C mean mg mb dp un gd cn cs a ccd cl outer A₀ base h₀ L m s Q E B F X (fun p hp => N p (hs p hp)) T hk hdp hun h

structure BSt where
  vs : List Nat
  its : List Value
  ep : Nat
  lb : Nat
  lc : Nat
def B64 : List UInt8 := [65, 66, 67, 68, 69, 70, 71, 72, 73, 74, 75, 76, 77, 78, 79, 80, 81, 82, 83, 84, 85, 86, 87, 88, 89, 90, 97, 98, 99, 100, 101, 102, 103, 104, 105, 106, 107, 108, 109, 110, 111, 112, 113, 114, 115, 116, 117, 118, 119, 120, 121, 122, 48, 49, 50, 51, 52, 53, 54, 55, 56, 57, 43, 47]
def b64c (v : Nat) : Int := ((B64.getD v 0).toNat : Nat)

section
variable {prog : Program} {w : World} {A : Around} {E : Value → Shared → Prop} {s : Shared} {t u : Tok} {Q : Value → Shared → Prop}
theorem sh8 {a : Nat} (ha : a < 65536) (h : Q (.int ((a * 256 : Nat) : Int) s.toks) { s with toks := s.toks + 1 }) : wpAny (model prog w) A (binaryOp .LShift (.int (a : Int) t) (.int 8 u)) Q E s := by
  refine lshift_int_small (by decide) (by decide) (by omega) ?_
  rw [show (a : Int) * 2 ^ Int.toNat 8 = ((a * 256 : Nat) : Int) by rw [show ((2 : Int) ^ Int.toNat 8) = 256 from rfl]; omega]; exact h
theorem sh4 {a : Nat} (ha : a < 65536) (h : Q (.int ((a * 16 : Nat) : Int) s.toks) { s with toks := s.toks + 1 }) : wpAny (model prog w) A (binaryOp .LShift (.int (a : Int) t) (.int 4 u)) Q E s := by
  refine lshift_int_small (by decide) (by decide) (by omega) ?_
  rw [show (a : Int) * 2 ^ Int.toNat 4 = ((a * 16 : Nat) : Int) by rw [show ((2 : Int) ^ Int.toNat 4) = 16 from rfl]; omega]; exact h
theorem sh2 {a : Nat} (ha : a < 65536) (h : Q (.int ((a * 4 : Nat) : Int) s.toks) { s with toks := s.toks + 1 }) : wpAny (model prog w) A (binaryOp .LShift (.int (a : Int) t) (.int 2 u)) Q E s := by
  refine lshift_int_small (by decide) (by decide) (by omega) ?_
  rw [show (a : Int) * 2 ^ Int.toNat 2 = ((a * 4 : Nat) : Int) by rw [show ((2 : Int) ^ Int.toNat 2) = 4 from rfl]; omega]; exact h
theorem or8 {a c : Nat} (hc : c < 256) (h : Q (.int ((a * 256 + c : Nat) : Int) s.toks) { s with toks := s.toks + 1 }) : wpAny (model prog w) A (binaryOp .BitOr (.int ((a * 256 : Nat) : Int) t) (.int (c : Int) u)) Q E s := by
  refine or_int ?_
  have e : Builtin.bitOr ((a * 256 : Nat) : Int) (c : Int) = ((a * 256 + c : Nat) : Int) := by
    have h1 : Builtin.bitOr ((a * 256 : Nat) : Int) (c : Int) = (((a * 256 ||| c) : Nat) : Int) := by
      have n1 : ¬ (0 : Int) ≤ Builtin.bitNot ((a * 256 : Nat) : Int) := by unfold Builtin.bitNot; omega
      have n2 : ¬ (0 : Int) ≤ Builtin.bitNot (c : Int) := by unfold Builtin.bitNot; omega
      have nn : ∀ z : Int, Builtin.bitNot (Builtin.bitNot z) = z := fun z => by unfold Builtin.bitNot; omega
      unfold Builtin.bitOr Builtin.bitAnd
      rw [decide_eq_false n1, decide_eq_false n2]
      simp only [nn, Int.toNat_natCast]
    rw [h1]
    have h2 := Nat.two_pow_add_eq_or_of_lt (i := 8) (b := c) (by omega) a
    rw [show (2 : Nat) ^ 8 = 256 from rfl, Nat.mul_comm 256 a] at h2
    rw [h2]
  rw [e]; exact h
theorem and16 {a : Nat} (h : Q (.int ((a % 65536 : Nat) : Int) s.toks) { s with toks := s.toks + 1 }) : wpAny (model prog w) A (binaryOp .BitAnd (.int (a : Int) t) (.int 65535 u)) Q E s := by
  refine and_int ?_
  rw [bitAnd_m16, show (a : Int) % 65536 = ((a % 65536 : Nat) : Int) by omega]; exact h
theorem and63 {a : Nat} (h : Q (.int ((a % 64 : Nat) : Int) s.toks) { s with toks := s.toks + 1 }) : wpAny (model prog w) A (binaryOp .BitAnd (.int (a : Int) t) (.int 63 u)) Q E s := by
  refine and_int ?_
  rw [bitAnd_m6, show (a : Int) % 64 = ((a % 64 : Nat) : Int) by omega]; exact h
theorem and3 {a : Nat} (h : Q (.int ((a % 4 : Nat) : Int) s.toks) { s with toks := s.toks + 1 }) : wpAny (model prog w) A (binaryOp .BitAnd (.int (a : Int) t) (.int 3 u)) Q E s := by
  refine and_int ?_
  rw [bitAnd_m2, show (a : Int) % 4 = ((a % 4 : Nat) : Int) by omega]; exact h
theorem and15 {a : Nat} (h : Q (.int ((a % 16 : Nat) : Int) s.toks) { s with toks := s.toks + 1 }) : wpAny (model prog w) A (binaryOp .BitAnd (.int (a : Int) t) (.int 15 u)) Q E s := by
  refine and_int ?_
  rw [bitAnd_m4, show (a : Int) % 16 = ((a % 16 : Nat) : Int) by omega]; exact h
theorem add8 {a : Nat} (h : Q (.int ((a + 8 : Nat) : Int) s.toks) { s with toks := s.toks + 1 }) : wpAny (model prog w) A (binaryOp .Add (.int (a : Int) t) (.int 8 u)) Q E s := add_int h
theorem sub6 {a : Nat} (ha : 6 ≤ a) (h : Q (.int ((a - 6 : Nat) : Int) s.toks) { s with toks := s.toks + 1 }) : wpAny (model prog w) A (binaryOp .Sub (.int (a : Int) t) (.int 6 u)) Q E s := by
  refine sub_int ?_
  rw [show (a : Int) - 6 = ((a - 6 : Nat) : Int) by omega]; exact h
theorem rshN {a k : Nat} (h : Q (.int ((a / 2 ^ k : Nat) : Int) s.toks) { s with toks := s.toks + 1 }) : wpAny (model prog w) A (binaryOp .RShift (.int (a : Int) t) (.int (k : Int) u)) Q E s := by
  refine rshift_int (by omega) ?_
  have e : (a : Int).fdiv (2 ^ (k : Int).toNat) = ((a / 2 ^ k : Nat) : Int) := by
    rw [Int.toNat_natCast, Int.fdiv_eq_ediv_of_nonneg _ (by exact Int.le_of_lt (Int.pow_pos (by decide)))]
    rw [Int.natCast_ediv, Int.natCast_pow]; rfl
  rw [e]; exact h
theorem b64_item {v : Nat} {value slice : PySem.Expr} (hv : v < 64) (h : Q (.int (b64c v) s.toks) { s with toks := s.toks + 1 })
    (hs : subscripted slice false (.bytes B64.toArray t) (.int (v : Int) u) = operate [.bytes B64.toArray t, .int (v : Int) u] (getItem (.bytes B64.toArray t) (.int (v : Int) u)) := by with_unfolding_all rfl)
    (ht : ∀ r, letTemporaryGo value (.bytes B64.toArray t) r = pure () := by intro _; with_unfolding_all rfl) : wpAny (model prog w) A (subscriptTail value slice (.bytes B64.toArray t) (.int (v : Int) u)) Q E s :=
  bytes_item_K (by decide) (by omega) (by show (v : Int) < 64; omega) rfl h hs ht
variable {h₀ : Heap} {L D : Addr} {m : Str → Option Value} {news news' : List (Addr × Obj)} {n : Nat}
theorem lst_append {vs : List Value} {x : Value} (F : Fr h₀ L s.heap m) (N : News h₀ L s.heap news) (U : Upd D (listOf vs.toArray n) (listOf (vs ++ [x]).toArray (n + 1)) news news') (hz : vs.length < 1000000)
    (h : ∀ h', Fr h₀ L h' m → News h₀ L h' news' → Q .none { s with heap := h' }) : wpAny (model prog w) A (call (.builtin "list.append") [.ref D, x]) Q E s := by
  refine append_K F N (its := vs.toArray) (n := n) ?_ h (by rw [List.size_toArray, PySem.sizeLine_eq]; omega)
  rw [List.push_toArray]; exact U
end
theorem of_allLt {d : Nat} : ∀ {l : List (Addr × Obj)}, AllLt d l → ∀ p ∈ l, p.1 ≠ d
  | [], _, _, h => nomatch h
  | _ :: _, ⟨h1, h2⟩, p, h => by
    rcases List.mem_cons.mp h with rfl | h
    · exact Nat.ne_of_lt h1
    · exact of_allLt h2 p h

theorem ints_snoc {x : Int} {u : Tok} : ∀ {vs : List Value} {ns : List Int}, IntsAre vs ns → IntsAre (vs ++ [.int x u]) (ns ++ [x])
  | _, _, .nil => .cons x u .nil
  | _, _, .cons i t h => .cons i t (ints_snoc h)
theorem take_snoc_map {cs : List UInt8} {i : Nat} {c : UInt8} (h : cs[i]? = some c) : (cs.take (i + 1)).map UInt8.toNat = (cs.take i).map UInt8.toNat ++ [c.toNat] := by
  rw [List.take_add_one, h]; simp
theorem b64_byte (v : Nat) : 0 ≤ b64c v ∧ b64c v < 256 := by
  unfold b64c
  have := (B64.getD v 0).toNat_lt
  omega
theorem b64_bytes {vs : List Nat} {r : List Int} (hr : ∀ n ∈ r, n = 61 ∨ ∃ v, n = b64c v) : ∀ n ∈ vs.map b64c ++ r, 0 ≤ n ∧ n < 256 := by
  intro n hn
  rcases List.mem_append.mp hn with h | h
  · obtain ⟨v, _, rfl⟩ := List.mem_map.mp h
    exact b64_byte v
  · rcases hr n h with rfl | ⟨v, rfl⟩
    · decide
    · exact b64_byte v
theorem b64_back (v : Nat) : (b64c v).toNat.toUInt8 = B64.getD v 0 := by
  unfold b64c
  rw [Int.toNat_natCast]
  simp

local macro_rules | `(tactic| walk_at "binaryOp LShift int int") => `(tactic| (k_here; (with_reducible show wpAny _ _ (binaryOp _ (Value.int _ _) (Value.int 8 _)) _ _ _); k_dflt (refine' sh8 ?k1 ?_; (case k1 => omega); k_whole)))
local macro_rules | `(tactic| walk_at "binaryOp LShift int int") => `(tactic| (k_here; (with_reducible show wpAny _ _ (binaryOp _ (Value.int _ _) (Value.int 4 _)) _ _ _); k_dflt (refine' sh4 ?k1 ?_; (case k1 => omega); k_whole)))
local macro_rules | `(tactic| walk_at "binaryOp LShift int int") => `(tactic| (k_here; (with_reducible show wpAny _ _ (binaryOp _ (Value.int _ _) (Value.int 2 _)) _ _ _); k_dflt (refine' sh2 ?k1 ?_; (case k1 => omega); k_whole)))
local macro_rules | `(tactic| walk_at "binaryOp BitAnd int int") => `(tactic| (k_here; (with_reducible show wpAny _ _ (binaryOp _ (Value.int _ _) (Value.int 65535 _)) _ _ _); k_dflt (refine' and16 ?_; k_whole)))
local macro_rules | `(tactic| walk_at "binaryOp BitAnd int int") => `(tactic| (k_here; (with_reducible show wpAny _ _ (binaryOp _ (Value.int _ _) (Value.int 63 _)) _ _ _); k_dflt (refine' and63 ?_; k_whole)))
local macro_rules | `(tactic| walk_at "binaryOp BitAnd int int") => `(tactic| (k_here; (with_reducible show wpAny _ _ (binaryOp _ (Value.int _ _) (Value.int 3 _)) _ _ _); k_dflt (refine' and3 ?_; k_whole)))
local macro_rules | `(tactic| walk_at "binaryOp BitAnd int int") => `(tactic| (k_here; (with_reducible show wpAny _ _ (binaryOp _ (Value.int _ _) (Value.int 15 _)) _ _ _); k_dflt (refine' and15 ?_; k_whole)))
local macro_rules | `(tactic| walk_at "binaryOp Add int int") => `(tactic| (k_here; (with_reducible show wpAny _ _ (binaryOp _ (Value.int _ _) (Value.int 8 _)) _ _ _); k_dflt (refine' add8 ?_; k_whole)))
local macro_rules | `(tactic| walk_at "binaryOp Sub int int") => `(tactic| (k_here; (with_reducible show wpAny _ _ (binaryOp _ (Value.int _ _) (Value.int 6 _)) _ _ _); k_dflt (refine' sub6 ?k1 ?_; (case k1 => omega); k_whole)))
local macro_rules | `(tactic| walk_at "binaryOp BitOr int int") => `(tactic| (k_here; k_dflt (refine' or8 ?k1 ?_; (case k1 => omega); k_whole)))
local macro_rules | `(tactic| walk_at "binaryOp RShift int int") => `(tactic| (k_here; k_dflt (refine' rshN ?_; k_whole)))
local macro_rules | `(tactic| walk_at "subscriptTail") => `(tactic| (k_here; (with_reducible show wpAny _ _ (subscriptTail _ _ (Value.bytes _ _) (Value.int _ _)) _ _ _); k_dflt (refine' b64_item ?k1 ?_ ?k2 ?k3; (case k1 => omega); (case k2 => with_unfolding_all rfl); (case k3 => (intro _; with_unfolding_all rfl)); k_whole)))
local macro_rules | `(tactic| k_all) => `(tactic| first | assumption | exact of_allLt (by assumption))
local macro_rules | `(tactic| walk_at "call builtin:list.append") => `(tactic| (k_here; (with_reducible show wpAny _ _ (call (Value.builtin _) [Value.ref _, _]) _ _ _); k_dflt (refine' lst_append ?k1 ?k2 ?k3 ?z ?_; (case k1 => k_asm); (case k2 => k_asm); (case k3 => k_upd); (case z => ((try simp only [List.length_append, List.length_cons, List.length_nil]); omega)); k_whole); intro h' F' N'; (try k_sweep)))

set_option maxHeartbeats 4000000 in
theorem b2a_claim (w : World) (cs : List UInt8) (t : Tok) (news : List (Addr × Obj)) (hlen : cs.length < 1000) :
   ClaimK w 43 8 40 news [.bytes cs.toArray t] [(Str.ofString "newline", .bool false)] (fun r news' => ∃ t', r = .bytes ((vals (cs.map UInt8.toNat)).map (fun v => B64.getD v 0) ++ List.replicate ((4 - (vals (cs.map UInt8.toNat)).length % 4) % 4) 61).toArray t' ∧ news' = news) := by
  unfold ClaimK
  k_fill
  intro mean mg mb dp un gd cn cs' a ccd cl outer A₀ base h₀ L m s Q E B F X N T hk hd hu hret
  refine wpAny_call ?_
  k_dflt (refine' code_def ?k1 ?k2 ?k3 ?k4 ?k5 ?kA ?kF ?kK ?k6 ?k7 ?k8 ?k9 ?kB ?_ ?c2 ?c3 ?c4 ?c5; (case kA => exact rfl); (case kF => exact rfl); (case kK => first | exact rfl | assumption); (case k1 => k_asm); (case k2 => k_asm); (case k3 => k_asm); (case k4 => k_asm); (case k5 => k_asm); (case k6 => k_is); (case k7 => k_is); (case k8 => ktr_room); (case k9 => first | exact BindsTo.of_eq rfl | exact binds_K (by k_in) rfl (by k_is) rfl rfl rfl); (case c5 => decide); (case kB => exact locs rfl); (case c2 => exact rfl); (case c3 => exact rfl); (case c4 => exact rfl); k_whole; intro g' L' h' FG' F' N' B' X' T'; (try dsimp only); (try k_fold))
  (rename Fr _ _ _ _ => F1)
  have F2 : Fr _ _ _ (fun y => List.lookup y [(Str.ofString "newline", .bool false), (Str.ofString "data", .bytes cs.toArray t)]) := F1
  clear F1
  (repeat' ((fail_if_success (with_reducible show wpAny _ _ (exec (Stmt.While _ _ _ _) _) _ _ _)); (fail_if_success (with_reducible show wpAny _ _ (pyIter _) _ _ _)); (fail_if_success (with_reducible show wpAny _ _ (PySem.call (Value.ref _) _) _ _ _)); (first | (k_unfold; (try dsimp only)) | (k_end; wrow_close) | walk1 | (dsimp only; walk1) | (leave1; walk_say "STEP leave1"; try dsimp only) | fail "no step")))
  (refine' Claim.use (buffer_claim w cs.toArray t news) ?k1 ?k2 ?k3 ?k4 ?ks ?k5 ?kK ?kd ?ku ?ret; (case k1 => k_asm); (case k2 => k_asm); (case k3 => k_asm); (case k4 => k_asm); (case k5 => k_asm); (case kK => first | exact rfl | assumption); (case kd => ktr_room); (case ku => ktr_units))
  case ks => exact fun _ h => h
  case ret =>
  rintro r news' h' tk' F9 N9 ⟨rfl, e9⟩
  rw [e9] at N9; clear e9 news'
  dsimp only
  (repeat' ((fail_if_success (with_reducible show wpAny _ _ (exec (Stmt.While _ _ _ _) _) _ _ _)); (fail_if_success (with_reducible show wpAny _ _ (pyIter _) _ _ _)); (fail_if_success (with_reducible show wpAny _ _ (PySem.call (Value.ref _) _) _ _ _)); (first | (k_unfold; (try dsimp only)) | (k_end; wrow_close) | walk1 | (dsimp only; walk1) | (leave1; walk_say "STEP leave1"; try dsimp only) | fail "no step")))
  (refine' Claim.use (truth_claim w news) ?k1 ?k2 ?k3 ?k4 ?ks ?k5 ?kK ?kd ?ku ?ret; (case k1 => k_asm); (case k2 => k_asm); (case k3 => k_asm); (case k4 => k_asm); (case k5 => k_asm); (case kK => first | exact rfl | assumption); (case kd => ktr_room); (case ku => ktr_units))
  case ks => exact fun _ h => h
  case ret =>
  rintro r news' h' tk' F9 N9 ⟨rfl, e9⟩
  rw [e9] at N9; clear e9 news'
  dsimp only
  (repeat' ((fail_if_success (with_reducible show wpAny _ _ (exec (Stmt.While _ _ _ _) _) _ _ _)); (fail_if_success (with_reducible show wpAny _ _ (pyIter _) _ _ _)); (fail_if_success (with_reducible show wpAny _ _ (PySem.call (Value.ref _) _) _ _ _)); (first | (k_unfold; (try dsimp only)) | (k_end; wrow_close) | walk1 | (dsimp only; walk1) | (leave1; walk_say "STEP leave1"; try dsimp only) | fail "no step")))
  rename_i D h3 hl1 h2 h1 h0 F1 N1
  have hD : ∀ p ∈ news, p.1 ≠ D := fun p hp => Nat.ne_of_lt (hl1 p hp)
  refine for_bytesK (σ := BSt) (fun x => [(Str.ofString "out", .v (.ref D)), (Str.ofString "newline", .v (.bool false)), (Str.ofString "leftbits", .i x.lb), (Str.ofString "leftchar", .i x.lc)]) (fun x => (D, listOf x.its.toArray x.ep) :: news)
    (fun i x => BInv (numb ((cs.take i).map UInt8.toNat)) (8 * i) x.vs x.lb x.lc ∧ x.lb < 6 ∧ x.lc < 65536 ∧ IntsAre x.its (x.vs.map b64c) ∧ (∀ v ∈ x.vs, v < 64)) ⟨[], [], 0, 0, 0⟩ rfl F1 N1 (fun _ => rfl) ?hm (fun _ h => h) ?hi ?turn ?done
  case hm => (repeat' (first | exact True.intro | refine And.intro ⟨_, rfl⟩ ?_ | refine And.intro rfl ?_))
  case hi => exact ⟨binv_zero, by decide, by decide, .nil, by simp⟩
  case turn =>
    rintro i c tv ⟨vs, its, ep, lb, lc⟩ u h tk I oI hi hc hI ⟨hb, hlb, hlc, hia, hv⟩ F3 N3
    dsimp only [List.cons_append] at hb hlb hlc hia hv F3 N3
    have hc' : cs[i]? = some c := by simpa using hc
    have hcl := c.toNat_lt
    have hi' : i < cs.length := by simpa using hi
    have hDI : ∀ q ∈ news ++ [(I, oI)], q.1 ≠ D := ne_app hD (hI _ (.head _))
    have hb2 := binv_byte hb hlb hcl
    (repeat' ((fail_if_success (with_reducible show wpAny _ _ (exec (Stmt.While _ _ _ _) _) _ _ _)); (fail_if_success (with_reducible show wpAny _ _ (pyIter _) _ _ _)); (fail_if_success (with_reducible show wpAny _ _ (PySem.call (Value.ref _) _) _ _ _)); (first | (k_unfold; (try dsimp only)) | (k_end; wrow_close) | walk1 | (dsimp only; walk1) | (leave1; walk_say "STEP leave1"; try dsimp only) | fail "no step")))
    rename_i F4 N4
    refine while_k (σ := BSt) (fun x => [(Str.ofString "out", .v (.ref D)), (Str.ofString "newline", .v (.bool false)), (Str.ofString "leftbits", .i x.lb), (Str.ofString "leftchar", .i x.lc)]) (fun x => (D, listOf x.its.toArray x.ep) :: (news ++ [(I, oI)]))
      (fun x => x.lc = (lc * 256 + c.toNat) % 65536 ∧ BInv (numb ((cs.take i).map UInt8.toNat) * 256 + c.toNat) (8 * i + 8) x.vs x.lb x.lc ∧ IntsAre x.its (x.vs.map b64c) ∧ (∀ v ∈ x.vs, v < 64)) (fun x => x.lb) ⟨vs, its, ep, lb + 8, (lc * 256 + c.toNat) % 65536⟩ F4 N4 ?hm (fun _ h => h) ?hi ?turn
    case hm => (repeat' (first | exact True.intro | refine And.intro ⟨_, rfl⟩ ?_ | refine And.intro rfl ?_))
    case hi => exact ⟨rfl, hb2, hia, hv⟩
    case turn =>
      rintro ⟨vs2, its2, ep2, lb2, lc2⟩ u h tk ⟨hl2, hb3, hia2, hv2⟩ F3 N3
      dsimp only at hl2 hb3 hia2 hv2 F3 N3
      have hbits := hb3.bits
      have hlen2 := hia2.length
      rw [List.length_map] at hlen2
      have hv64 : lc2 / 2 ^ (lb2 - 6) % 64 < 64 := Nat.mod_lt _ (by decide)
      (repeat' ((fail_if_success (with_reducible show wpAny _ _ (exec (Stmt.While _ _ _ _) _) _ _ _)); (fail_if_success (with_reducible show wpAny _ _ (pyIter _) _ _ _)); (fail_if_success (with_reducible show wpAny _ _ (PySem.call (Value.ref _) _) _ _ _)); (fail_if_success (with_reducible show KEnd _ _ _ _ _ _ _)); (first | (k_unfold; (try dsimp only)) | (k_end; wrow_close) | walk1 | (dsimp only; walk1) | (leave1; walk_say "STEP leave1"; try dsimp only) | fail "no step")))
      · exact KEnd.intro (⟨vs2 ++ [lc2 / 2 ^ (lb2 - 6) % 64], _, _, lb2 - 6, lc2⟩ : BSt) (by k_asm) (by k_asm) (by (repeat' (first | exact True.intro | refine And.intro ⟨_, rfl⟩ ?_ | refine And.intro rfl ?_))) (fun _ h => h) (by
          refine ⟨⟨hl2, binv_six hb3 (by omega), ?_, ?_⟩, by show lb2 - 6 < lb2; omega⟩
          · dsimp only
            rw [List.map_append]
            exact ints_snoc hia2
          · intro v hv9
            rcases List.mem_append.mp hv9 with h9 | h9
            · exact hv2 v h9
            · rw [List.mem_singleton.mp h9]; exact hv64)
      · refine' KEnd.intro (⟨vs2, its2, ep2, lb2, lc2⟩ : BSt) ?F ?N ?fm ?hl ?hI
        case F => k_asm
        case N => k_asm
        case fm => (repeat' (first | exact True.intro | refine And.intro ⟨_, rfl⟩ ?_ | refine And.intro rfl ?_))
        case hl => exact fun _ h => h
        case hI =>
          refine ⟨?_, by dsimp only; omega, by dsimp only; rw [hl2]; exact Nat.mod_lt _ (by decide), hia2, hv2⟩
          dsimp only
          rw [take_snoc_map hc', numb_snoc, show 8 * (i + 1) = 8 * i + 8 by omega]
          exact hb3
  case done =>
    rintro ⟨vs, its, ep, lb, lc⟩ u h tk ⟨hb, hlb, hlc, hia, hv⟩ F3 N3
    dsimp only at hb hlb hlc hia hv F3 N3
    have hsz : cs.toArray.size = cs.length := by simp
    rw [hsz, List.take_length] at hb
    have hev := hb.bits
    have hcl : (cs.map UInt8.toNat).length = cs.length := by simp
    rw [← hcl] at hb
    have hvals := binv_vals hb hlb
    have hlen2 := hia.length
    rw [List.length_map] at hlen2
    (repeat' ((fail_if_success (with_reducible show wpAny _ _ (exec (Stmt.While _ _ _ _) _) _ _ _)); (fail_if_success (with_reducible show wpAny _ _ (pyIter _) _ _ _)); (fail_if_success (with_reducible show wpAny _ _ (PySem.call (Value.ref _) _) _ _ _)); (first | (k_unfold; (try dsimp only)) | (k_end; wrow_close) | walk1 | (dsimp only; walk1) | (leave1; walk_say "STEP leave1"; try dsimp only) | fail "no step")))
    · have hlb2 : lb = 2 := by omega
      subst hlb2
      refine bytes_K (ns := vs.map b64c ++ [b64c (lc % 4 * 16), 61, 61]) (by k_asm) (by k_asm) (News.isList (by k_asm) (by k_mem)) (by simpa using ints_snoc (ints_snoc (ints_snoc hia))) (b64_bytes (by intro n hn; simp at hn; rcases hn with h | h; exact .inr ⟨_, h⟩; exact .inl h)) (by (try simp only [List.length_append, List.length_cons, List.length_nil]); rw [PySem.sizeLine_eq]; omega) rfl ?_
      intro h9 t9 k9 F9 N9 _
      dsimp only
      (repeat' ((fail_if_success (with_reducible show wpAny _ _ (exec (Stmt.While _ _ _ _) _) _ _ _)); (fail_if_success (with_reducible show wpAny _ _ (pyIter _) _ _ _)); (fail_if_success (with_reducible show wpAny _ _ (PySem.call (Value.ref _) _) _ _ _)); (first | (k_unfold; (try dsimp only)) | (k_end; wrow_close) | walk1 | (dsimp only; walk1) | (leave1; walk_say "STEP leave1"; try dsimp only) | fail "no step")))
      refine hret _ _ _ _ (by k_asm) (fun p hp => (by k_asm : News _ _ _ _) p (.tail _ hp)) ⟨t9, ?_, rfl⟩
      rw [hvals]
      have e4 : (4 - (vs ++ [lc % 4 * 16]).length % 4) % 4 = 2 := by simp only [List.length_append, List.length_cons, List.length_nil]; omega
      simp only [if_true, if_false, Nat.reduceEqDiff, reduceIte]
      rw [e4]
      congr 2
      simp [b64_back, List.map_append, List.replicate]
    · have hlb2 : lb = 4 := by omega
      subst hlb2
      refine bytes_K (ns := vs.map b64c ++ [b64c (lc % 16 * 4), 61]) (by k_asm) (by k_asm) (News.isList (by k_asm) (by k_mem)) (by simpa using ints_snoc (ints_snoc hia)) (b64_bytes (by intro n hn; simp at hn; rcases hn with h | h; exact .inr ⟨_, h⟩; exact .inl h)) (by (try simp only [List.length_append, List.length_cons, List.length_nil]); rw [PySem.sizeLine_eq]; omega) rfl ?_
      intro h9 t9 k9 F9 N9 _
      dsimp only
      (repeat' ((fail_if_success (with_reducible show wpAny _ _ (exec (Stmt.While _ _ _ _) _) _ _ _)); (fail_if_success (with_reducible show wpAny _ _ (pyIter _) _ _ _)); (fail_if_success (with_reducible show wpAny _ _ (PySem.call (Value.ref _) _) _ _ _)); (first | (k_unfold; (try dsimp only)) | (k_end; wrow_close) | walk1 | (dsimp only; walk1) | (leave1; walk_say "STEP leave1"; try dsimp only) | fail "no step")))
      refine hret _ _ _ _ (by k_asm) (fun p hp => (by k_asm : News _ _ _ _) p (.tail _ hp)) ⟨t9, ?_, rfl⟩
      rw [hvals]
      have e4 : (4 - (vs ++ [lc % 16 * 4]).length % 4) % 4 = 1 := by simp only [List.length_append, List.length_cons, List.length_nil]; omega
      simp only [if_true, if_false, Nat.reduceEqDiff, reduceIte]
      rw [e4]
      congr 2
      simp [b64_back, List.map_append, List.replicate]
    · have hlb2 : lb = 0 := by omega
      subst hlb2
      refine bytes_K (ns := vs.map b64c ++ []) (by k_asm) (by k_asm) (News.isList (by k_asm) (by k_mem)) (by simpa using hia) (b64_bytes (by intro n hn; simp at hn; skip)) (by (try simp only [List.length_append, List.length_cons, List.length_nil]); rw [PySem.sizeLine_eq]; omega) rfl ?_
      intro h9 t9 k9 F9 N9 _
      dsimp only
      (repeat' ((fail_if_success (with_reducible show wpAny _ _ (exec (Stmt.While _ _ _ _) _) _ _ _)); (fail_if_success (with_reducible show wpAny _ _ (pyIter _) _ _ _)); (fail_if_success (with_reducible show wpAny _ _ (PySem.call (Value.ref _) _) _ _ _)); (first | (k_unfold; (try dsimp only)) | (k_end; wrow_close) | walk1 | (dsimp only; walk1) | (leave1; walk_say "STEP leave1"; try dsimp only) | fail "no step")))
      refine hret _ _ _ _ (by k_asm) (fun p hp => (by k_asm : News _ _ _ _) p (.tail _ hp)) ⟨t9, ?_, rfl⟩
      rw [hvals]
      have e4 : (4 - (vs ++ []).length % 4) % 4 = 0 := by simp only [List.length_append, List.length_cons, List.length_nil]; omega
      simp only [if_true, if_false, Nat.reduceEqDiff, reduceIte]
      rw [e4]
      congr 2
      simp [b64_back, List.map_append, List.replicate]
end Mine
end
section
set_option maxRecDepth 100000
namespace Mine
open PySem.Builtin

theorem slot_bytes_translate : Slot "bytes" (Str.ofString "translate") "bytes.translate" :=
  .of (owner := "bytes") (n := "translate") (by rw [typeLookup_type, builtinLookup_eq_fast]; kernel_rfl) (by decide +kernel) (by decide +kernel) (by decide +kernel)
    (by first | exact .inl (by decide +kernel) | exact .inr (by decide +kernel)) (by rw [isSubtype_type]; kernel_rfl)
theorem type_bytes_translate : typeOf (.builtin "bytes.translate") = pure (.type "method_descriptor") := by show builtinType _ = _; rw [builtinType_eq_fast]; kernel_rfl
theorem entry_bytes_translate : entryFor table "bytes.translate" = some Builtin.«bytes.translate» := entryFor_of_tree (by kernel_rfl)
theorem args_bytes_translate (a b : Value) : argsOk "bytes.translate" ⟨[a, b], []⟩ := by
  unfold argsOk; rw [signature?_of (id := "bytes.translate") (n := ['e', 't', 'a', 'l', 's', 'n', 'a', 'r', 't']) (o := ['s', 'e', 't', 'y', 'b']) (by kernel_rfl) FB.owner_bytes]; kernel_rfl
theorem entry_bytes_maketrans : entryFor table "bytes.maketrans" = some Builtin.«bytes.maketrans» := entryFor_of_tree (by kernel_rfl)

def transl (tbl : Array UInt8) (b : Array UInt8) : Array UInt8 := b.map fun c => tbl.getD c.toNat c
section
variable {prog : Program} {w : World} {A : Around} {E : Value → Shared → Prop} {s : Shared}
theorem getm_translate {b : Array UInt8} {t : Tok} {pl : Sem Bool} {Q : Value × List Value → Shared → Prop} (h : Q (.builtin "bytes.translate", [.bytes b t]) s) :
    wpAny (model prog w) A (getMethod (.bytes b t) (Str.ofString "translate") pl) Q E s := by
  with_reducible exact KBd.method_of (.bytes b t) (typeIs_bytes _ _ _) slot_bytes_translate type_bytes_translate KBd.noRef h
theorem like_bytes {id : String} {b : Array UInt8} {t : Tok} : Bytes.bytesLike id (.bytes b t) = pure b := by
  unfold Bytes.bytesLike
  rw [KBy.buffer_eq]; rfl
theorem call_translate {b tbl : Array UInt8} {t u : Tok} {Q : Value → Shared → Prop} (ht : tbl.size = 256) (hb : b.size ≤ 1000) (h : ∀ t' k, Q (.bytes (transl tbl b) t') { s with toks := k }) :
    wpAny (model prog w) A (call (.builtin "bytes.translate") [.bytes b t, .bytes tbl u]) Q E s := by
  refine wpAny_call_entry slot_bytes_translate (self := .bytes b t) rfl entry_bytes_translate ?_ (args_bytes_translate _ _)
  unfold Builtin.«bytes.translate» Bytes.translateM
  dsimp only
  rw [if_neg (by show ¬ (1 + 0 > 2); decide), if_neg (by simp), if_neg (by exact Bool.false_ne_true)]
  rw [like_bytes]
  refine wpAny_bind (wpAny_pure ?_)
  rw [ht, if_neg (by decide)]
  refine wpAny_bind (wpAny_pure ?_)
  show wpAny _ _ (pure #[] >>= _) _ _ _
  refine wpAny_bind (wpAny_pure ?_)
  refine wpAny_bind (m := Bytes.payload (Value.bytes b t)) (wpAny_pure ?_)
  have e : Array.filter (fun x => !(#[] : Array UInt8).contains x) b = b := by simp
  rw [e]
  show wpAny _ _ (if (transl tbl b == b) = true then _ else _) _ _ _
  by_cases hq : (transl tbl b == b) = true
  · rw [if_pos hq]
    have hq' : transl tbl b = b := beq_iff_eq.mp hq
    rw [hq'] at h
    refine wpAny_bind (wpAny_rule ?_)
    exact wpAny_bind (m := Bytes.Kind.bytes.same (Value.bytes b t)) (wpAny_pure (wpAny_pure ⟨_, rfl, h t s.toks⟩))
  · rw [if_neg hq]
    refine wpAny_bind (m := mkBytes (transl tbl b)) (wpAny_mkBytes ?_ ?_)
    · exact wpAny_pure ⟨_, rfl, h _ _⟩
    · unfold transl; rw [Array.size_map]; rw [PySem.sizeLine_eq]; omega
theorem call_checked {id : String} {b : Builtin} {args : List Value} {Q : Value → Shared → Prop} (hp : plainId id = true) (hb : entryFor table id = some b) (hck : checkBuiltinCall id ⟨args, []⟩ = pure ())
    (hc : wpAny (model prog w) A.in1 (b ⟨args, []⟩) (fun fin s' => ∃ v, fin = .done (.ret v) ∧ Q v s') E s) : wpAny (model prog w) A (call (.builtin id) args) Q E s := by
  refine wpAny_call (codeAny_call_builtin hp hb ?_)
  have hfin := wpAny_mono hc (Q' := fun fin s' => match fin with
      | .done f => (match (Except.ok f : Result) with | .ok (.ret v) => Q v s' | .ok _ => False | .error e => E e s')
      | .again c' => c'.quiet = true ∧ codeAny (model prog w) A c' (fun r s' => match r with | .ok (.ret v) => Q v s' | .ok _ => False | .error e => E e s') s')
    (fun fin s' h' => by obtain ⟨v, rfl, hv⟩ := h'; exact hv) fun _ _ h' => h'
  rw [hck]
  exact wpAny_pure hfin
theorem check_maketrans (a b : Value) : checkBuiltinCall "bytes.maketrans" ⟨[a, b], []⟩ = pure () := by kernel_rfl
theorem call_maketrans {t u : Tok} {a0 a1 : UInt8} {Q : Value → Shared → Prop} (h : ∀ t' k, Q (.bytes ((((Array.range 256).map (·.toUInt8)).setIfInBounds 43 a0).setIfInBounds 47 a1) t') { s with toks := k }) :
    wpAny (model prog w) A (call (.builtin "bytes.maketrans") [.bytes #[43, 47] t, .bytes #[a0, a1] u]) Q E s := by
  refine call_checked (by decide +kernel) entry_bytes_maketrans (check_maketrans _ _) ?_
  unfold Builtin.«bytes.maketrans» Bytes.maketransM
  dsimp only
  refine wpAny_bind (wpAny_of_eq (a := ()) rfl ?_)
  refine wpAny_bind (wpAny_of_eq (a := ()) rfl ?_)
  dsimp only [List.headD_cons, List.getD_cons_succ, List.getD_cons_zero]
  rw [like_bytes]
  refine wpAny_bind (wpAny_pure ?_)
  show wpAny _ _ (Bytes.bytesLike _ (.bytes #[a0, a1] u) >>= _) _ _ _
  rw [like_bytes]
  refine wpAny_bind (wpAny_pure ?_)
  rw [if_neg (by show ¬ ((2 != 2) = true); decide)]
  refine wpAny_bind (wpAny_mkBytes ?_ ?_)
  · exact wpAny_pure ⟨_, rfl, h _ _⟩
  · simp [PySem.sizeLine_eq]
end
end Mine
end
section
theorem Mine.freshC3 : True := by
  w_top off
  exact True.intro
set_option maxRecDepth 100000
namespace Mine

def alph (a0 a1 : UInt8) (v : Nat) : UInt8 := if v = 62 then a0 else if v = 63 then a1 else B64.getD v 0
def textOf (vs : List Nat) (a0 a1 : UInt8) : List UInt8 := vs.map (alph a0 a1) ++ List.replicate ((4 - vs.length % 4) % 4) 61
def tblOf (a0 a1 : UInt8) : Array UInt8 := (((Array.range 256).map (·.toUInt8)).setIfInBounds 43 a0).setIfInBounds 47 a1
theorem tbl_get (a0 a1 c : UInt8) : (tblOf a0 a1).getD c.toNat c = if c = 43 then a0 else if c = 47 then a1 else c := by
  have hc := c.toNat_lt
  have e : (tblOf a0 a1).getD c.toNat c = ((tblOf a0 a1)[c.toNat]?).getD c := by simp
  rw [e]
  unfold tblOf
  rw [Array.getElem?_setIfInBounds, Array.getElem?_setIfInBounds]
  by_cases h43 : c = 43
  · subst h43; simp
  · by_cases h47 : c = 47
    · subst h47; simp
    · have n43 : ¬ 43 = c.toNat := fun q => h43 (UInt8.toNat_inj.mp q.symm)
      have n47 : ¬ 47 = c.toNat := fun q => h47 (UInt8.toNat_inj.mp q.symm)
      rw [if_neg n47, if_neg n43, if_neg h43, if_neg h47]
      have hc2 : c.toNat < 256 := hc
      simp [hc2]
theorem b64_alph : ∀ v : Nat, v < 64 → ∀ a0 a1 : UInt8, (if B64.getD v 0 = 43 then a0 else if B64.getD v 0 = 47 then a1 else B64.getD v 0) = alph a0 a1 v := by
  intro v hv a0 a1
  have key : ∀ v : Fin 64, (B64.getD v.val 0 = 43 ↔ v.val = 62) ∧ (B64.getD v.val 0 = 47 ↔ v.val = 63) := by decide
  obtain ⟨h1, h2⟩ := key ⟨v, hv⟩
  unfold alph
  by_cases e1 : v = 62
  · rw [if_pos (h1.mpr e1), if_pos e1]
  · rw [if_neg (fun q => e1 (h1.mp q)), if_neg e1]
    by_cases e2 : v = 63
    · rw [if_pos (h2.mpr e2), if_pos e2]
    · rw [if_neg (fun q => e2 (h2.mp q)), if_neg e2]
theorem transl_text (vs : List Nat) (a0 a1 : UInt8) (hv : ∀ v ∈ vs, v < 64) (k : Nat) : transl (tblOf a0 a1) (vs.map (fun v => B64.getD v 0) ++ List.replicate k 61).toArray = (vs.map (alph a0 a1) ++ List.replicate k 61).toArray := by
  unfold transl
  rw [List.map_toArray]
  congr 1
  rw [List.map_append, List.map_map, List.map_replicate]
  congr 1
  · apply List.map_congr_left
    intro v h
    show (tblOf a0 a1).getD (B64.getD v 0).toNat (B64.getD v 0) = _
    rw [tbl_get]
    exact b64_alph v (hv v h) a0 a1
  · rw [tbl_get]; simp

local macro_rules | `(tactic| walk_at "getMethod bytes") => `(tactic| (k_here; k_dflt (refine' getm_translate ?_; k_whole)))
local macro_rules | `(tactic| walk_at "getMethod type:bytes") => `(tactic| (k_here; refine' method_type ?F ?X ?m (by decide +kernel) ?e ?h ?_; (case F => k_asm); (case X => k_asm); (case m => kernel_rfl); (case e => k_dflt k_is); (case h => k_handed)))

local macro_rules | `(tactic| walk_at "call builtin:bytes.maketrans") => `(tactic| (k_here; k_dflt (refine' call_maketrans ?_; k_whole); intro t' k'))
local macro_rules | `(tactic| walk_at "call builtin:bytes.translate") => `(tactic| (k_here; k_dflt (refine' call_translate ?k1 ?k2 ?_; (case k1 => simp); (case k2 => (simp [vals_len]; omega)); k_whole); intro t' k'))

set_option maxHeartbeats 4000000 in
theorem b64encode_claim (w : World) (cs : List UInt8) (a0 a1 : UInt8) (t u : Tok) (news : List (Addr × Obj)) (hlen : cs.length < 600) :
   Claim w 51 16 80 news [.bytes cs.toArray t, .bytes #[a0, a1] u] (fun r news' => ∃ t', r = .bytes (textOf (vals (cs.map UInt8.toNat)) a0 a1).toArray t' ∧ news' = news) := by
  unfold Claim
  k_fill
  intro mean mg mb dp un gd cn cs' a ccd cl outer A₀ base h₀ L m s Q E B F X N T hk hd hu hret
  refine wpAny_call ?_
  k_dflt (refine' code_def ?k1 ?k2 ?k3 ?k4 ?k5 ?kA ?kF ?kK ?k6 ?k7 ?k8 ?k9 ?kB ?_ ?c2 ?c3 ?c4 ?c5; (case kA => exact rfl); (case kF => exact rfl); (case kK => first | exact rfl | assumption); (case k1 => k_asm); (case k2 => k_asm); (case k3 => k_asm); (case k4 => k_asm); (case k5 => k_asm); (case k6 => k_is); (case k7 => k_is); (case k8 => ktr_room); (case k9 => first | exact BindsTo.of_eq rfl | exact binds_K (by k_in) rfl (by k_is) rfl rfl rfl); (case c5 => decide); (case kB => exact locs rfl); (case c2 => exact rfl); (case c3 => exact rfl); (case c4 => exact rfl); k_whole; intro g' L' h' FG' F' N' B' X' T'; (try dsimp only); (try k_fold))
  (rename Fr _ _ _ _ => F1)
  have F2 : Fr _ _ _ (fun y => List.lookup y [(Str.ofString "altchars", .bytes #[a0, a1] u), (Str.ofString "s", .bytes cs.toArray t)]) := F1
  clear F1
  (repeat' ((fail_if_success (with_reducible show wpAny _ _ (exec (Stmt.While _ _ _ _) _) _ _ _)); (fail_if_success (with_reducible show wpAny _ _ (pyIter _) _ _ _)); (fail_if_success (with_reducible show wpAny _ _ (PySem.call (Value.ref _) _) _ _ _)); (fail_if_success (with_reducible show wpAny _ _ (PySem.call (Value.ref _) _ _) _ _ _)); (first | (k_unfold; (try dsimp only)) | (k_end; wrow_close) | walk1 | (dsimp only; walk1) | (leave1; walk_say "STEP leave1"; try dsimp only) | fail "no step")))
  (refine' ClaimK.use (b2a_claim w cs t news (by omega)) ?k1 ?k2 ?k3 ?k4 ?ks ?k5 ?kK ?kd ?ku ?ret; (case k1 => k_asm); (case k2 => k_asm); (case k3 => k_asm); (case k4 => k_asm); (case k5 => k_asm); (case kK => first | exact rfl | assumption); (case kd => ktr_room); (case ku => ktr_units))
  case ks => exact fun _ h => h
  case ret =>
  rintro r news' h' tk' F9 N9 ⟨t9, rfl, e9⟩
  rw [e9] at N9; clear e9 news'
  dsimp only
  (repeat' ((fail_if_success (with_reducible show wpAny _ _ (exec (Stmt.While _ _ _ _) _) _ _ _)); (fail_if_success (with_reducible show wpAny _ _ (pyIter _) _ _ _)); (fail_if_success (with_reducible show wpAny _ _ (PySem.call (Value.ref _) _) _ _ _)); (fail_if_success (with_reducible show wpAny _ _ (PySem.call (Value.ref _) _ _) _ _ _)); (first | (k_unfold; (try dsimp only)) | (k_end; wrow_close) | walk1 | (dsimp only; walk1) | (leave1; walk_say "STEP leave1"; try dsimp only) | fail "no step")))
  all_goals try (exfalso; rename _ ≠ (2 : Int) => h2; exact h2 rfl)
  have e := transl_text (vals (cs.map UInt8.toNat)) a0 a1 vals_lt ((4 - (vals (cs.map UInt8.toNat)).length % 4) % 4)
  exact hret _ _ _ _ (by k_asm) (by k_asm) ⟨_, congrArg (fun x => Value.bytes x _) e, rfl⟩
end Mine
end
section
set_option maxRecDepth 100000
namespace Mine
section
variable {prog : Program} {w : World} {A : Around} {E : Value → Shared → Prop} {s : Shared} {h₀ : Heap} {L : Addr} {m : Str → Option Value} {env : Env}
/-- a comprehension by an invariant over the turn's number, what is made so far and the ledger -/
theorem comp_inv {elt : PySem.Expr} {x : Str} {scope : Scope} {cl : List (Str × Addr)} {S : List (Addr × Obj) → Prop} {P : Nat → Value → Prop} {Fin : List Value → List (Addr × Obj) → Prop} {n : Nat}
    (J : Nat → List Value → List (Addr × Obj) → Prop)
    (turn : ∀ i ys news v I oI C oC D m₂ h tk (E' : Value → Shared → Prop), i < n → J i ys news → P i v → LCg.NsObj oC m₂ → m₂ x = some v → Fr h₀ L h m → News h₀ L h ((I, oI) :: (C, oC) :: (D, LCg.lst ys) :: news) → LCg.Off3 I C D news → ((@Ne Nat I C) ∧ (@Ne Nat I D) ∧ (@Ne Nat C D)) →
      wpAny (model prog w) A (eval elt (compEnvC scope cl C env)) (LCg.CompEnd h₀ L m { s with heap := h, toks := tk } I oI C oC D (LCg.lst ys) S (fun y news' => J (i + 1) (ys ++ [y]) news')) E' { s with heap := h, toks := tk })
    (fin : ∀ ys news, J n ys news → Fin ys news) : ∀ k i ys news, i + k = n → J i ys news → LCg.CompRest prog w A h₀ L m env elt x scope cl s S P Fin k i ys news := by
  intro k
  induction k with
  | zero => intro i ys news hi hJ; exact fin ys news (by rw [← hi]; exact hJ)
  | succ k ih =>
    intro i ys news hi hJ
    refine LCg.CompRest.succ ?_
    intro v I oI C oC D m₂ h tk E' hP hC hx F N off ne
    refine wpAny_mono (turn i ys news v I oI C oC D m₂ h tk E' (by omega) hJ hP hC hx F N off ne) (fun y s₂ q => ?_) fun _ _ e => e
    obtain ⟨h', tk', news', e, F', N', off', hS', hJ'⟩ := q
    exact ⟨h', tk', news', e, F', N', off', hS', ih (i + 1) (ys ++ [y]) news' (by omega) hJ'⟩
end
theorem off3_ne {I C D : Addr} {l : List (Addr × Obj)} (h : LCg.Off3 I C D l) : (∀ p ∈ l, p.1 ≠ I) ∧ (∀ p ∈ l, p.1 ≠ C) ∧ (∀ p ∈ l, p.1 ≠ D) :=
  ⟨fun p hp => (h.mem p hp).1, fun p hp => (h.mem p hp).2.1, fun p hp => (h.mem p hp).2.2⟩
theorem off1_ne {D : Addr} : ∀ {l : List (Addr × Obj)}, LCg.Off1 D l → ∀ p ∈ l, p.1 ≠ D
  | [], _, _, h => nomatch h
  | _ :: _, x, p, h => by
    rcases List.mem_cons.mp h with rfl | h
    · exact x.1
    · exact off1_ne x.2 p h

section
variable {prog : Program} {w : World} {A : Around} {E : Value → Shared → Prop} {s : Shared} {t u : Tok} {Q : Value → Shared → Prop}
theorem rangeFacts {b : Nat} (hb : b < 2 ^ 60) : Builtin.Range.small 0 b 1 = true ∧ Builtin.Range.rangeSize 0 b 1 = ((b : Nat) : Int) := by
  have hsz : Builtin.Range.rangeSize 0 b 1 = ((b : Nat) : Int) := by
    unfold Builtin.Range.rangeSize
    by_cases h0 : (0 : Int) < b
    · simp only [Int.reduceLT, if_true, gt_iff_lt, if_pos h0, Int.ediv_one]; omega
    · simp only [Int.reduceLT, if_true, gt_iff_lt, if_neg h0]; omega
  refine ⟨?_, hsz⟩
  unfold Builtin.Range.small Builtin.Range.rangeFitsLong
  rw [hsz]
  simp
  omega
theorem log2_pow (b : Int) (k : Nat) (hb : b.natAbs < 1000) (hk : k < 800) : ((b ^ k).natAbs).log2 < 9000 := by
  rw [Int.natAbs_pow]
  by_cases h0 : b.natAbs ^ k = 0
  · rw [h0]; decide
  · rw [Nat.log2_lt h0]
    have h1 : b.natAbs ^ k ≤ (2 ^ 10) ^ k := Nat.pow_le_pow_left (by omega) k
    rw [← Nat.pow_mul] at h1
    exact Nat.lt_of_le_of_lt h1 (Nat.pow_lt_pow_right (by decide) (by omega))
/-- b ** e, a written small base -/
theorem powI {b e : Int} (he : 0 ≤ e) (he2 : e ≤ 700) (hb : b.natAbs < 1000) (h : Q (.int (b ^ e.toNat) s.toks) { s with toks := s.toks + 1 }) : wpAny (model prog w) A (binaryOp .Pow (.int b t) (.int e u)) Q E s :=
  pow_int_small he (by omega) (by omega) h
/-- x // b ** k -/
theorem divPow {x b : Int} {k : Nat} (hb : 0 < b) (hb2 : b < 1000) (hk : k < 800) (h : Q (.int (x / b ^ k) s.toks) { s with toks := s.toks + 1 }) : wpAny (model prog w) A (binaryOp .FloorDiv (.int x t) (.int (b ^ k) u)) Q E s := by
  have hp : (0 : Int) < b ^ k := Int.pow_pos hb
  refine floordiv_int (by omega) ?_ (.inl (PyProof.noPylong_of_log2 (log2_pow b k (by omega) hk)))
  rw [Int.fdiv_eq_ediv_of_nonneg _ (Int.le_of_lt hp)]; exact h
/-- x // c, x % c: a written small divisor -/
theorem divLit {x c : Int} (hc : 0 < c) (hs : c < 1073741824) (h : Q (.int (x / c) s.toks) { s with toks := s.toks + 1 }) : wpAny (model prog w) A (binaryOp .FloorDiv (.int x t) (.int c u)) Q E s := by
  refine floordiv_int (by omega) ?_ (.inl (PyProof.noPylong_small (by omega)))
  rw [Int.fdiv_eq_ediv_of_nonneg _ (by omega)]; exact h
theorem modLit {x c : Int} (hc : 0 < c) (h : Q (.int (x % c) s.toks) { s with toks := s.toks + 1 }) : wpAny (model prog w) A (binaryOp .Mod (.int x t) (.int c u)) Q E s := by
  refine mod_int' (by omega) ?_
  rw [Int.fmod_eq_emod_of_nonneg _ (by omega)]; exact h
/-- a * c, one factor written and small -/
theorem mulR {x c : Int} (hc : c.natAbs < 2 ^ 60) (h : Q (.int (x * c) s.toks) { s with toks := s.toks + 1 }) : wpAny (model prog w) A (binaryOp .Mult (.int x t) (.int c u)) Q E s :=
  mul_int h (IntMulOk.of_right (intBits_le_iff.mpr (by omega)))
theorem mulL {x c : Int} (hc : c.natAbs < 2 ^ 60) (h : Q (.int (c * x) s.toks) { s with toks := s.toks + 1 }) : wpAny (model prog w) A (binaryOp .Mult (.int c t) (.int x u)) Q E s :=
  mul_int h (IntMulOk.of_left (intBits_le_iff.mpr (by omega)))
end
end Mine
end
section
theorem Mine.freshD1 : True := by
  w_top off
  exact True.intro
set_option maxRecDepth 100000
namespace Mine

local macro_rules | `(tactic| walk_at "call builtin:len") => `(tactic| (k_here; (with_reducible show wpAny _ _ (call (Value.builtin "len") [Value.ref _]) _ _ _); k_dflt (refine' lst_len ?k1 ?k2 ?k3 ?_; (case k1 => k_asm); (case k2 => k_mem); (case k3 => omega); k_whole)))

local macro_rules | `(tactic| k_all) => `(tactic| first | assumption | exact of_allLt (by assumption))

local macro_rules | `(tactic| walk_at "exec For") => `(tactic| (k_here; (rename Fr _ _ _ _ => lF'); (with_unfolding_all refine' For_invVF lF' ?k1 ?k2 ?_; (case k1 => exact rfl); (case k2 => exact rfl); k_whole)))

local macro_rules | `(tactic| walk_at "binaryOp Mult int int") => `(tactic| (k_here; k_dflt (first | (refine' mulR ?k1 ?_; (case k1 => first | decide | omega); k_whole) | (refine' mulL ?k1 ?_; (case k1 => first | decide | omega); k_whole))))
local macro_rules | `(tactic| walk_at "binaryOp FloorDiv int int") => `(tactic| (k_here; k_dflt (first | (with_reducible refine' divPow ?k1 ?k2 ?k3 ?_; (case k1 => first | decide | omega); (case k2 => first | decide | omega); (case k3 => first | decide | omega); k_whole) | (refine' divLit ?k1 ?k2 ?_; (case k1 => first | decide | omega); (case k2 => first | decide | omega); k_whole))))
local macro_rules | `(tactic| walk_at "binaryOp Mod int int") => `(tactic| (k_here; k_dflt (refine' modLit ?k1 ?_; (case k1 => first | decide | omega); k_whole)))

theorem getI {ns : List Int} {i : Nat} (h : i < ns.length) : ns[i]? = some (ns.getD i 0) := by
  rw [List.getD_eq_getElem?_getD, List.getElem?_eq_getElem h]; rfl
local macro_rules | `(tactic| walk_at "binaryOp Pow int int") => `(tactic| (k_here; k_dflt (refine' powI ?k1 ?k2 ?k3 ?_; (case k1 => first | decide | omega); (case k2 => first | decide | omega); (case k3 => decide); k_whole)))
structure RSt where
  bits : Int
  o : Obj

set_option maxHeartbeats 4000000 in
theorem row_claim (w : World) (l : Addr) (vs : List Value) (ns : List Int) (n : Nat) (rest : List (Addr × Obj)) (hia : IntsAre vs ns) (h1 : 1 ≤ ns.length) (h8 : ns.length ≤ 8) :
   Claim w 84 16 80 ((l, listOf vs.toArray n) :: rest) [.ref l] (fun r news' => ∃ D vs' n' rs, r = .ref D ∧ IntsAre vs' rs ∧ (∀ x ∈ rs, 0 ≤ x ∧ x < 256) ∧ rs.length ≤ 6 ∧ news' = (D, listOf vs'.toArray n') :: (l, listOf vs.toArray n) :: rest ∧ (∀ p ∈ (l, listOf vs.toArray n) :: rest, p.1 ≠ D)) := by
  have hvl := hia.length
  unfold Claim
  k_fill
  intro mean mg mb dp un gd cn cs a ccd cl outer A₀ base h₀ L m s Q E B F X N T hk hd hu hret
  refine wpAny_call ?_
  k_dflt (refine' code_defC ?k1 ?k2 ?k3 ?k4 ?k5 ?kA ?kF ?kK ?k6 ?k7 ?k8 ?k9 ?kB ?kD ?_ ?c2 ?c3 ?c4; (case kA => exact rfl); (case kF => exact rfl); (case kK => first | exact rfl | assumption); (case k1 => k_asm); (case k2 => k_asm); (case k3 => k_asm); (case k4 => k_asm); (case k5 => k_asm); (case k6 => k_is); (case k7 => k_is); (case k8 => ktr_room); (case k9 => first | exact BindsTo.of_eq rfl | exact binds_K (by k_in) rfl (by k_is) rfl rfl rfl); (case kB => exact rfl); (case kD => decide +kernel); (case c2 => exact rfl); (case c3 => exact rfl); (case c4 => exact rfl); k_whole; intro g' L' h' tk' cells' FG' F' N' Y' B' X' T' l1; (try dsimp only); (try k_fold))
  k_cells Y'
  rename_i oC oB d1 d2
  dsimp only [List.cons_append, List.nil_append] at N'
  replace d1 : oC.data = .cell none := d1
  replace d2 : oB.data = .cell none := d2
  obtain ⟨u0, F2⟩ := frCut [(Str.ofString "drawn", .v (.ref l))] F' (by (repeat' (first | exact True.intro | refine And.intro ⟨_, rfl⟩ ?_ | refine And.intro rfl ?_)))
  clear F'
  have hlL := ltN (l1 _ (.head _)); dsimp only at hlL
  have hr1 : ∀ p ∈ rest, p.1 ≠ L' + 1 := fun p hp => Nat.ne_of_lt (Nat.lt_succ_of_lt (l1 p (.tail _ hp)))
  have hr2 : ∀ p ∈ rest, p.1 ≠ L' + 1 + 1 := fun p hp => Nat.ne_of_lt (Nat.lt_succ_of_lt (Nat.lt_succ_of_lt (l1 p (.tail _ hp))))
  clear l1
  (repeat' ((fail_if_success (with_reducible show wpAny _ _ (pyIter _) _ _ _)); (fail_if_success (with_reducible show wpAny _ _ (PySem.call (Value.ref _) _) _ _ _)); (fail_if_success (with_reducible show wpAny _ _ (PySem.eval (Expr.ListComp _ _ _ _) _) _ _ _)); (first | (k_unfold; (try dsimp only)) | (k_end; wrow_close) | walk1 | (dsimp only; walk1) | (leave1; walk_say "STEP leave1"; try dsimp only) | fail "no step")))
  rename_i D0 h3 lD h2 hh1 oB2 dB h0 oC2 F1 N1 dC
  have eC : (6 * (vs.length : Int)) / 8 = ((6 * ns.length / 8 : Nat) : Int) := by omega
  rw [eC] at dC
  refine for_listK (σ := RSt) (fun x => [(Str.ofString "drawn", .v (.ref l))]) (fun x => (L' + 1 + 1, oC2) :: (L' + 1, x.o) :: (l, listOf vs.toArray n) :: rest)
    (fun i x => ∃ t, x.o.data = .cell (some (.int x.bits t))) ⟨0, oB2⟩ rfl (fun x => .tail _ (.tail _ (.head _))) F1 N1 (fun _ => rfl) ?hm (fun _ h => .tail _ h) ⟨_, dB⟩ ?turn ?done
  case hm => (repeat' (first | exact True.intro | refine And.intro ⟨_, rfl⟩ ?_ | refine And.intro rfl ?_))
  case turn =>
    rintro i v ⟨bits, o⟩ u h tk I oI hi hv hI ⟨tb, dBt⟩ F3 N3
    dsimp only [List.cons_append] at dBt F3 N3
    obtain ⟨tv, hv2⟩ := hia.get i (ns.getD i 0) (getI (by omega))
    have hv3 : v = .int (ns.getD i 0) tv := by rw [hv2] at hv; exact (Option.some.inj hv).symm
    subst hv3
    have hrI1 : ∀ q ∈ rest ++ [(I, oI)], q.1 ≠ L' + 1 := ne_app hr1 (hI (L' + 1, _) (.tail _ (.head _)))
    have hrI2 : ∀ q ∈ rest ++ [(I, oI)], q.1 ≠ L' + 1 + 1 := ne_app hr2 (hI (L' + 1 + 1, _) (.head _))
    (repeat' ((fail_if_success (with_reducible show wpAny _ _ (pyIter _) _ _ _)); (fail_if_success (with_reducible show wpAny _ _ (PySem.call (Value.ref _) _) _ _ _)); (fail_if_success (with_reducible show wpAny _ _ (PySem.eval (Expr.ListComp _ _ _ _) _) _ _ _)); (fail_if_success (with_reducible show KEnd _ _ _ _ _ _ _)); (first | (k_unfold; (try dsimp only)) | (k_end; wrow_close) | walk1 | (dsimp only; walk1) | (leave1; walk_say "STEP leave1"; try dsimp only) | fail "no step")))
    all_goals exact KEnd.intro (⟨_, _⟩ : RSt) (by k_asm) (by k_asm) (by (repeat' (first | exact True.intro | refine And.intro ⟨_, rfl⟩ ?_ | refine And.intro rfl ?_))) (fun _ h => h) ⟨_, by k_asm⟩
  case done =>
    rintro ⟨bits, o⟩ u h tk ⟨tb, dBt⟩ F3 N3
    dsimp only at dBt F3 N3
    (repeat' ((fail_if_success (with_reducible show wpAny _ _ (pyIter _) _ _ _)); (fail_if_success (with_reducible show wpAny _ _ (PySem.call (Value.ref _) _) _ _ _)); (fail_if_success (with_reducible show wpAny _ _ (PySem.eval (Expr.ListComp _ _ _ _) _) _ _ _)); (first | (k_unfold; (try dsimp only)) | (k_end; wrow_close) | walk1 | (dsimp only; walk1) | (leave1; walk_say "STEP leave1"; try dsimp only) | fail "no step")))
    rename_i h9 oB9 F9 N9 d9
    obtain ⟨tB9, dB9⟩ : ∃ t, oB9.data = .cell (some (.int (bits / (2 ^ (6 * (vs.length : Int) - 8 * ((6 * ns.length / 8 : Nat) : Int)).toNat)) t)) := ⟨_, d9⟩
    clear d9 dBt F3 N3
    generalize bits / (2 ^ (6 * (vs.length : Int) - 8 * ((6 * ns.length / 8 : Nat) : Int)).toNat) = bb at dB9
    k_dflt (refine LCg.ListComp_U (F₀ := by k_asm) (by with_unfolding_all rfl) (by decide) (by rfl) (by decide) (by rfl) ?_)
    (repeat' ((fail_if_success (with_reducible show LCg.CompSrc _ _ _ _ _ _ _ _ _ _ _ _ _ _)); (first | (k_unfold; (try dsimp only)) | (k_end; wrow_close) | walk1 | (dsimp only; walk1) | (leave1; walk_say "STEP leave1"; try dsimp only) | fail "no step")))
    rename_i hR FR NR hK
    obtain ⟨hsm, hsz⟩ := rangeFacts (b := 6 * ns.length / 8) (Nat.lt_of_le_of_lt (m := 6) (by omega) (by decide))
    refine LCg.CompSrc.range (n := 6 * ns.length / 8) rfl FR NR hR hsm hsz (by rw [PySem.sizeLine_eq]; omega) ?_
    intro gg
    refine comp_inv (n := 6 * ns.length / 8) (fun i ys news => news = (L' + 1 + 1, oC2) :: (L' + 1, oB9) :: (l, listOf vs.toArray n) :: rest ∧ ∃ rs, IntsAre ys rs ∧ rs.length = i ∧ ∀ x ∈ rs, 0 ≤ x ∧ x < 256) ?turn ?fin _ 0 [] _ (by omega) ⟨rfl, [], .nil, rfl, by simp⟩
    case turn =>
      rintro i ys news v I oI C oC D m₂ h tk E' hi ⟨rfl, rs, hrs, hrl, hrb⟩ ⟨tv, rfl⟩ hC hx F N off ne
      obtain ⟨of1, of2, of3⟩ := off3_ne off
      (repeat' ((fail_if_success (with_reducible show LCg.CompEnd _ _ _ _ _ _ _ _ _ _ _ _ _ _)); (first | (k_unfold; (try dsimp only)) | (k_end; wrow_close) | walk1 | (dsimp only; walk1) | (leave1; walk_say "STEP leave1"; try dsimp only) | fail "no step")))
      exact LCg.CompEnd.intro (by k_asm) (by k_asm) _ (fun _ h => h) off trivial ⟨rfl, rs ++ [_], ints_snoc hrs, by simp [hrl], fun x hx => by
        rcases List.mem_append.mp hx with h9 | h9
        · exact hrb x h9
        · rw [List.mem_singleton.mp h9]; omega⟩
    case fin =>
      rintro ys news ⟨rfl, rs, hrs, hrl, hrb⟩
      unfold LCg.FinE
      intro D h tk F N off
      have hoff := off1_ne off
      (repeat' ((fail_if_success (with_reducible show LCg.CompEnd _ _ _ _ _ _ _ _ _ _ _ _ _ _)); (first | (k_unfold; (try dsimp only)) | (k_end; wrow_close) | walk1 | (dsimp only; walk1) | (leave1; walk_say "STEP leave1"; try dsimp only) | fail "no step")))
      exact hret _ _ _ _ (by k_asm) (fun p hp => (by k_asm : News _ _ _ _) p (by
        rcases List.mem_cons.mp hp with h9 | h9
        · exact h9 ▸ .head _
        · exact .tail _ (.tail _ (.tail _ h9)))) ⟨D, ys, ys.length, rs, rfl, hrs, hrb, by omega, rfl, fun p hp => hoff p (.tail _ (.tail _ hp))⟩
end Mine
end
section
theorem Mine.freshD2 : True := by
  w_top off
  exact True.intro
local macro_rules | `(tactic| walk_at "pad 0") => `(tactic| skip)
set_option maxRecDepth 100000
namespace Mine

local macro_rules | `(tactic| walk_at "call builtin:len") => `(tactic| (k_here; (with_reducible show wpAny _ _ (call (Value.builtin "len") [Value.ref _]) _ _ _); k_dflt (refine' lst_len ?k1 ?k2 ?k3 ?_; (case k1 => k_asm); (case k2 => k_mem); (case k3 => omega); k_whole)))
local macro_rules | `(tactic| k_all) => `(tactic| first | assumption | exact of_allLt (by assumption))
local macro_rules | `(tactic| walk_at "exec For") => `(tactic| (k_here; (rename Fr _ _ _ _ => lF'); (with_unfolding_all refine' For_invVF lF' ?k1 ?k2 ?_; (case k1 => exact rfl); (case k2 => exact rfl); k_whole)))
local macro_rules | `(tactic| walk_at "binaryOp Mult int int") => `(tactic| (k_here; k_dflt (first | (refine' mulR ?k1 ?_; (case k1 => first | decide | omega); k_whole) | (refine' mulL ?k1 ?_; (case k1 => first | decide | omega); k_whole))))
local macro_rules | `(tactic| walk_at "binaryOp FloorDiv int int") => `(tactic| (k_here; k_dflt (first | (with_reducible refine' divPow ?k1 ?k2 ?k3 ?_; (case k1 => first | decide | omega); (case k2 => first | decide | omega); (case k3 => first | decide | omega); k_whole) | (refine' divLit ?k1 ?k2 ?_; (case k1 => first | decide | omega); (case k2 => first | decide | omega); k_whole))))
local macro_rules | `(tactic| walk_at "binaryOp Mod int int") => `(tactic| (k_here; k_dflt (refine' modLit ?k1 ?_; (case k1 => first | decide | omega); k_whole)))
local macro_rules | `(tactic| walk_at "binaryOp Pow int int") => `(tactic| (k_here; k_dflt (refine' powI ?k1 ?k2 ?k3 ?_; (case k1 => first | decide | omega); (case k2 => first | decide | omega); (case k3 => decide); k_whole)))

abbrev toI (l : List Nat) : List Int := l.map fun v => ((v : Nat) : Int)
theorem toI_get {cs : List Nat} {i : Nat} (h : i < cs.length) : (toI cs)[i]? = some ((cs.getD i 0 : Nat) : Int) := by
  simp [toI, h]
theorem take_snocN {cs : List Nat} {i : Nat} (h : i < cs.length) : cs.take (i + 1) = cs.take i ++ [cs.getD i 0] := by
  rw [List.take_add_one]; simp [h]
theorem val_cast (N a k : Nat) : ((N : Int) * 64 / 2 ^ (((a : Int) - (k : Int))).toNat % 64) = ((N * 64 / 2 ^ (a - k) % 64 : Nat) : Int) := by
  have e : ((a : Int) - (k : Int)).toNat = a - k := by omega
  rw [e]
  simp only [Int.natCast_emod, Int.natCast_ediv, Int.natCast_mul, Int.natCast_pow]
  rfl

theorem vals_snoc {cs : List Nat} {i : Nat} (hi : i < (8 * cs.length + 5) / 6) : (vals cs).take (i + 1) = (vals cs).take i ++ [numb cs * 64 / 2 ^ (8 * cs.length - 6 * i) % 64] := by
  have hl := vals_len cs
  rw [take_snocN (by omega)]
  congr 2
  unfold vals
  rw [List.getD_eq_getElem?_getD, List.getElem?_map, List.getElem?_range hi]; rfl
theorem ints_to {vs : List Value} {x y : Int} {u : Tok} {ns ns' : List Int} (et : ns' = ns ++ [y]) (e : x = y) (h : IntsAre vs ns) : IntsAre (vs ++ [.int x u]) ns' := by
  rw [et, ← e]; exact ints_snoc h

set_option maxHeartbeats 4000000 in
theorem values_claim (w : World) (l : Addr) (vs : List Value) (cs : List Nat) (n : Nat) (rest : List (Addr × Obj)) (hia : IntsAre vs (toI cs)) (h6 : cs.length ≤ 6) :
   Claim w 89 16 80 ((l, listOf vs.toArray n) :: rest) [.ref l] (fun r news' => ∃ D vs' n', r = .ref D ∧ IntsAre vs' (toI (vals cs)) ∧ news' = (D, listOf vs'.toArray n') :: (l, listOf vs.toArray n) :: rest ∧ (∀ p ∈ (l, listOf vs.toArray n) :: rest, p.1 ≠ D)) := by
  have hvl := hia.length
  rw [List.length_map] at hvl
  unfold Claim
  k_fill
  intro mean mg mb dp un gd cn cs' a ccd cl outer A₀ base h₀ L m s Q E B F X N T hk hd hu hret
  refine wpAny_call ?_
  k_dflt (refine' code_defC ?k1 ?k2 ?k3 ?k4 ?k5 ?kA ?kF ?kK ?k6 ?k7 ?k8 ?k9 ?kB ?kD ?_ ?c2 ?c3 ?c4; (case kA => exact rfl); (case kF => exact rfl); (case kK => first | exact rfl | assumption); (case k1 => k_asm); (case k2 => k_asm); (case k3 => k_asm); (case k4 => k_asm); (case k5 => k_asm); (case k6 => k_is); (case k7 => k_is); (case k8 => ktr_room); (case k9 => first | exact BindsTo.of_eq rfl | exact binds_K (by k_in) rfl (by k_is) rfl rfl rfl); (case kB => exact rfl); (case kD => decide +kernel); (case c2 => exact rfl); (case c3 => exact rfl); (case c4 => exact rfl); k_whole; intro g' L' h' tk' cells' FG' F' N' Y' B' X' T' l1; (try dsimp only); (try k_fold))
  k_cells Y'
  rename_i oC oB d1 d2
  dsimp only [List.cons_append, List.nil_append] at N'
  replace d1 : oC.data = .cell none := d1
  replace d2 : oB.data = .cell none := d2
  obtain ⟨u0, F2⟩ := frCut [(Str.ofString "row", .v (.ref l))] F' (by (repeat' (first | exact True.intro | refine And.intro ⟨_, rfl⟩ ?_ | refine And.intro rfl ?_)))
  clear F'
  have hlL := ltN (l1 _ (.head _)); dsimp only at hlL
  have hr1 : ∀ p ∈ rest, p.1 ≠ L' + 1 := fun p hp => Nat.ne_of_lt (Nat.lt_succ_of_lt (l1 p (.tail _ hp)))
  have hr2 : ∀ p ∈ rest, p.1 ≠ L' + 1 + 1 := fun p hp => Nat.ne_of_lt (Nat.lt_succ_of_lt (Nat.lt_succ_of_lt (l1 p (.tail _ hp))))
  clear l1
  (repeat' ((fail_if_success (with_reducible show wpAny _ _ (pyIter _) _ _ _)); (fail_if_success (with_reducible show wpAny _ _ (PySem.call (Value.ref _) _) _ _ _)); (fail_if_success (with_reducible show wpAny _ _ (PySem.eval (Expr.ListComp _ _ _ _) _) _ _ _)); (first | (k_unfold; (try dsimp only)) | (k_end; wrow_close) | walk1 | (dsimp only; walk1) | (leave1; walk_say "STEP leave1"; try dsimp only) | fail "no step")))
  rename_i D0 h3 lD h2 hh1 oB2 dB h0 oC2 F1 N1 dC
  have eC : (8 * (vs.length : Int)) = ((8 * cs.length : Nat) : Int) := by omega
  rw [eC] at dC
  refine for_listK (σ := RSt) (fun x => [(Str.ofString "row", .v (.ref l))]) (fun x => (L' + 1 + 1, oC2) :: (L' + 1, x.o) :: (l, listOf vs.toArray n) :: rest)
    (fun i x => x.bits = ((numb (cs.take i) : Nat) : Int) ∧ ∃ t, x.o.data = .cell (some (.int x.bits t))) ⟨0, oB2⟩ rfl (fun x => .tail _ (.tail _ (.head _))) F1 N1 (fun _ => rfl) ?hm (fun _ h => .tail _ h) ⟨rfl, _, dB⟩ ?turn ?done
  case hm => (repeat' (first | exact True.intro | refine And.intro ⟨_, rfl⟩ ?_ | refine And.intro rfl ?_))
  case turn =>
    rintro i v ⟨bits, o⟩ u h tk I oI hi hv hI ⟨hbits, tb, dBt⟩ F3 N3
    dsimp only [List.cons_append] at hbits dBt F3 N3
    obtain ⟨tv, hv2⟩ := hia.get i _ (toI_get (by omega))
    have hv3 : v = .int ((cs.getD i 0 : Nat) : Int) tv := by rw [hv2] at hv; exact (Option.some.inj hv).symm
    subst hv3
    have hrI1 : ∀ q ∈ rest ++ [(I, oI)], q.1 ≠ L' + 1 := ne_app hr1 (hI (L' + 1, _) (.tail _ (.head _)))
    have hrI2 : ∀ q ∈ rest ++ [(I, oI)], q.1 ≠ L' + 1 + 1 := ne_app hr2 (hI (L' + 1 + 1, _) (.head _))
    (repeat' ((fail_if_success (with_reducible show wpAny _ _ (pyIter _) _ _ _)); (fail_if_success (with_reducible show wpAny _ _ (PySem.call (Value.ref _) _) _ _ _)); (fail_if_success (with_reducible show wpAny _ _ (PySem.eval (Expr.ListComp _ _ _ _) _) _ _ _)); (fail_if_success (with_reducible show KEnd _ _ _ _ _ _ _)); (first | (k_unfold; (try dsimp only)) | (k_end; wrow_close) | walk1 | (dsimp only; walk1) | (leave1; walk_say "STEP leave1"; try dsimp only) | fail "no step")))
    exact KEnd.intro (⟨bits * 256 + ((cs.getD i 0 : Nat) : Int), _⟩ : RSt) (by k_asm) (by k_asm) (by (repeat' (first | exact True.intro | refine And.intro ⟨_, rfl⟩ ?_ | refine And.intro rfl ?_))) (fun _ h => h) ⟨by
      dsimp only
      rw [hbits, take_snocN (by omega), numb_snoc]; omega, _, by k_asm⟩
  case done =>
    rintro ⟨bits, o⟩ u h tk ⟨hbits, tb, dBt⟩ F3 N3
    dsimp only at hbits dBt F3 N3
    rw [hvl, List.take_length] at hbits
    subst hbits
    have hbl : (8 * cs.length + 5) / 6 ≤ 8 := by omega
    (repeat' ((fail_if_success (with_reducible show wpAny _ _ (pyIter _) _ _ _)); (fail_if_success (with_reducible show wpAny _ _ (PySem.call (Value.ref _) _) _ _ _)); (fail_if_success (with_reducible show wpAny _ _ (PySem.eval (Expr.ListComp _ _ _ _) _) _ _ _)); (first | (k_unfold; (try dsimp only)) | (k_end; wrow_close) | walk1 | (dsimp only; walk1) | (leave1; walk_say "STEP leave1"; try dsimp only) | fail "no step")))
    k_dflt (refine LCg.ListComp_U (F₀ := by k_asm) (by with_unfolding_all rfl) (by decide) (by rfl) (by decide) (by rfl) ?_)
    (repeat' ((fail_if_success (with_reducible show LCg.CompSrc _ _ _ _ _ _ _ _ _ _ _ _ _ _)); (first | (k_unfold; (try dsimp only)) | (k_end; wrow_close) | walk1 | (dsimp only; walk1) | (leave1; walk_say "STEP leave1"; try dsimp only) | fail "no step")))
    rename_i hR FR NR hK
    have eR : (((8 * cs.length : Nat) : Int) + 5) / 6 = (((8 * cs.length + 5) / 6 : Nat) : Int) := by omega
    rw [eR] at hR
    obtain ⟨hsm, hsz⟩ := rangeFacts (b := (8 * cs.length + 5) / 6) (Nat.lt_of_le_of_lt (m := 8) (by omega) (by decide))
    refine LCg.CompSrc.range (n := (8 * cs.length + 5) / 6) rfl FR NR hR hsm hsz (by rw [PySem.sizeLine_eq]; omega) ?_
    intro gg
    refine comp_inv (n := (8 * cs.length + 5) / 6) (fun i ys news => news = (L' + 1 + 1, oC2) :: (L' + 1, o) :: (l, listOf vs.toArray n) :: rest ∧ IntsAre ys (toI ((vals cs).take i))) ?turn ?fin _ 0 [] _ (by omega) ⟨rfl, .nil⟩
    case turn =>
      rintro i ys news v I oI C oC D m₂ h tk E' hi ⟨rfl, hrs⟩ ⟨tv, rfl⟩ hC hx F N off ne
      obtain ⟨of1, of2, of3⟩ := off3_ne off
      have hvl2 := vals_len cs
      have et : toI ((vals cs).take (i + 1)) = toI ((vals cs).take i) ++ [((numb cs * 64 / 2 ^ (8 * cs.length - 6 * i) % 64 : Nat) : Int)] := by
        rw [vals_snoc hi, toI, List.map_append]; rfl
      have ev : (numb cs : Int) * 64 / 2 ^ (((8 * cs.length : Nat) : Int) - 6 * (0 + (i : Int))).toNat % 64 = ((numb cs * 64 / 2 ^ (8 * cs.length - 6 * i) % 64 : Nat) : Int) := by
        rw [show (6 * (0 + (i : Int))) = ((6 * i : Nat) : Int) by omega]; exact val_cast (numb cs) (8 * cs.length) (6 * i)
      (repeat' ((fail_if_success (with_reducible show LCg.CompEnd _ _ _ _ _ _ _ _ _ _ _ _ _ _)); (first | (k_unfold; (try dsimp only)) | (k_end; wrow_close) | walk1 | (dsimp only; walk1) | (leave1; walk_say "STEP leave1"; try dsimp only) | fail "no step")))
      exact LCg.CompEnd.intro (by k_asm) (by k_asm) _ (fun _ h => h) off trivial ⟨rfl, ints_to et ev hrs⟩
    case fin =>
      rintro ys news ⟨rfl, hrs⟩
      unfold LCg.FinE
      intro D h tk F N off
      have hoff := off1_ne off
      rw [← vals_len, List.take_length] at hrs
      (repeat' ((fail_if_success (with_reducible show LCg.CompEnd _ _ _ _ _ _ _ _ _ _ _ _ _ _)); (first | (k_unfold; (try dsimp only)) | (k_end; wrow_close) | walk1 | (dsimp only; walk1) | (leave1; walk_say "STEP leave1"; try dsimp only) | fail "no step")))
      exact hret _ _ _ _ (by k_asm) (fun p hp => (by k_asm : News _ _ _ _) p (by
        rcases List.mem_cons.mp hp with h9 | h9
        · exact h9 ▸ .head _
        · exact .tail _ (.tail _ (.tail _ h9)))) ⟨D, ys, ys.length, rfl, hrs, rfl, fun p hp => hoff p (.tail _ (.tail _ hp))⟩
end Mine
end
section
theorem Mine.freshD3 : True := by
  w_top off
  exact True.intro
set_option maxRecDepth 100000
namespace Mine

def A62 : List UInt8 := [65, 66, 67, 68, 69, 70, 71, 72, 73, 74, 75, 76, 77, 78, 79, 80, 81, 82, 83, 84, 85, 86, 87, 88, 89, 90, 97, 98, 99, 100, 101, 102, 103, 104, 105, 106, 107, 108, 109, 110, 111, 112, 113, 114, 115, 116, 117, 118, 119, 120, 121, 122, 48, 49, 50, 51, 52, 53, 54, 55, 56, 57]
def AL (a0 a1 : UInt8) : List UInt8 := A62 ++ [a0, a1]
theorem AL_get (a0 a1 : UInt8) (v : Nat) (hv : v < 64) : (AL a0 a1).getD v 0 = alph a0 a1 v := by
  have key : ∀ v : Fin 62, A62[v.val]? = some (B64.getD v.val 0) := by decide
  unfold AL alph
  rw [List.getD_eq_getElem?_getD]
  by_cases h62 : v < 62
  · rw [List.getElem?_append_left (by show v < 62; exact h62), key ⟨v, h62⟩, if_neg (by omega), if_neg (by omega)]; rfl
  · have : v = 62 ∨ v = 63 := by omega
    rcases this with rfl | rfl <;> rfl

section
variable {prog : Program} {w : World} {A : Around} {E : Value → Shared → Prop} {s : Shared} {t u : Tok} {Q : Value → Shared → Prop}
theorem add_al {a0 a1 : UInt8} (h : ∀ t' k, Q (.bytes (AL a0 a1).toArray t') { s with toks := k }) : wpAny (model prog w) A (binaryOp .Add (.bytes A62.toArray t) (.bytes #[a0, a1] u)) Q E s :=
  bytes_add_K (b := A62) (c := [a0, a1]) (d := AL a0 a1) (by show 62 + 2 ≤ _; decide) rfl h
theorem al_item {a0 a1 : UInt8} {v : Nat} {value slice : PySem.Expr} (hv : v < 64) (h : Q (.int (((alph a0 a1 v).toNat : Nat) : Int) s.toks) { s with toks := s.toks + 1 })
    (hs : subscripted slice false (.bytes (AL a0 a1).toArray t) (.int (v : Int) u) = operate [.bytes (AL a0 a1).toArray t, .int (v : Int) u] (getItem (.bytes (AL a0 a1).toArray t) (.int (v : Int) u)) := by with_unfolding_all rfl)
    (ht : ∀ r, letTemporaryGo value (.bytes (AL a0 a1).toArray t) r = pure () := by intro _; with_unfolding_all rfl) : wpAny (model prog w) A (subscriptTail value slice (.bytes (AL a0 a1).toArray t) (.int (v : Int) u)) Q E s := by
  have hl : (AL a0 a1).length = 64 := rfl
  exact bytes_item_K (by rw [hl]; decide) (by omega) (by rw [hl]; omega) (by rw [Int.toNat_natCast, AL_get a0 a1 v hv]) h hs ht
end

local macro_rules | `(tactic| walk_at "call builtin:len") => `(tactic| (k_here; (with_reducible show wpAny _ _ (call (Value.builtin "len") [Value.ref _]) _ _ _); k_dflt (refine' lst_len ?k1 ?k2 ?k3 ?_; (case k1 => k_asm); (case k2 => k_mem); (case k3 => omega); k_whole)))
local macro_rules | `(tactic| k_all) => `(tactic| first | assumption | exact of_allLt (by assumption))
local macro_rules | `(tactic| walk_at "binaryOp Mod int int") => `(tactic| (k_here; k_dflt (refine' modLit ?k1 ?_; (case k1 => first | decide | omega); k_whole)))
local macro_rules | `(tactic| walk_at "subscriptTail") => `(tactic| (k_here; (with_reducible show wpAny _ _ (subscriptTail _ _ (Value.bytes _ _) (Value.int _ _)) _ _ _); k_dflt (refine' al_item ?k1 ?_ ?k2 ?k3; (case k1 => omega); (case k2 => with_unfolding_all rfl); (case k3 => (intro _; with_unfolding_all rfl)); k_whole)))

theorem alph_bytes (a0 a1 : UInt8) (vv : List Nat) : ∀ n ∈ vv.map (fun v => (((alph a0 a1 v).toNat : Nat) : Int)), 0 ≤ n ∧ n < 256 := by
  intro n hn
  obtain ⟨v, _, rfl⟩ := List.mem_map.mp hn
  have := (alph a0 a1 v).toNat_lt
  omega
theorem pad_len (k : Nat) : ((List.replicate ((-(k : Int)) % 4).toNat [(61 : UInt8)]).flatten).length = ((-(k : Int)) % 4).toNat := by
  generalize ((-(k : Int)) % 4).toNat = j
  induction j with
  | zero => rfl
  | succ j ih => rw [List.replicate_succ, List.flatten_cons, List.length_append, ih]; simp; omega
theorem pad_text (vv : List Nat) (a0 a1 : UInt8) {k : Nat} (hk : k = vv.length) : vv.map (alph a0 a1) ++ (List.replicate ((-(k : Int)) % 4).toNat [(61 : UInt8)]).flatten = textOf vv a0 a1 := by
  unfold textOf
  congr 1
  have e : ((-(k : Int)) % 4).toNat = (4 - vv.length % 4) % 4 := by omega
  rw [e]
  generalize (4 - vv.length % 4) % 4 = j
  induction j with
  | zero => rfl
  | succ j ih => rw [List.replicate_succ, List.replicate_succ, List.flatten_cons, ih]; rfl
theorem alph_back (a0 a1 : UInt8) (vv : List Nat) : (vv.map (fun v => (((alph a0 a1 v).toNat : Nat) : Int))).map (fun n => n.toNat.toUInt8) = vv.map (alph a0 a1) := by
  rw [List.map_map]
  apply List.map_congr_left
  intro v _
  simp

set_option maxHeartbeats 4000000 in
theorem text_claim (w : World) (l : Addr) (vs : List Value) (vv : List Nat) (a0 a1 : UInt8) (u : Tok) (n : Nat) (rest : List (Addr × Obj)) (hia : IntsAre vs (toI vv)) (hvl : vv.length < 600) (h64 : ∀ v ∈ vv, v < 64) :
   Claim w 94 16 80 ((l, listOf vs.toArray n) :: rest) [.ref l, .bytes #[a0, a1] u] (fun r news' => ∃ t', r = .bytes (textOf vv a0 a1).toArray t' ∧ news' = (l, listOf vs.toArray n) :: rest) := by
  have hvl2 := hia.length
  rw [List.length_map] at hvl2
  unfold Claim
  k_fill
  intro mean mg mb dp un gd cn cs' a ccd cl outer A₀ base h₀ L m s Q E B F X N T hk hd hu hret
  refine wpAny_call ?_
  k_dflt (refine' code_defC ?k1 ?k2 ?k3 ?k4 ?k5 ?kA ?kF ?kK ?k6 ?k7 ?k8 ?k9 ?kB ?kD ?_ ?c2 ?c3 ?c4; (case kA => exact rfl); (case kF => exact rfl); (case kK => first | exact rfl | assumption); (case k1 => k_asm); (case k2 => k_asm); (case k3 => k_asm); (case k4 => k_asm); (case k5 => k_asm); (case k6 => k_is); (case k7 => k_is); (case k8 => ktr_room); (case k9 => first | exact BindsTo.of_eq rfl | exact binds_K (by k_in) rfl (by k_is) rfl rfl rfl); (case kB => exact rfl); (case kD => decide +kernel); (case c2 => exact rfl); (case c3 => exact rfl); (case c4 => exact rfl); k_whole; intro g' L' h' tk' cells' FG' F' N' Y' B' X' T' l1; (try dsimp only); (try k_fold))
  k_cells Y'
  rename_i oA d1
  dsimp only [List.cons_append, List.nil_append] at N'
  replace d1 : oA.data = .cell none := d1
  obtain ⟨u0, F2⟩ := frCut [(Str.ofString "values", .v (.ref l)), (Str.ofString "marks", .v (.bytes #[a0, a1] u))] F' (by (repeat' (first | exact True.intro | refine And.intro ⟨_, rfl⟩ ?_ | refine And.intro rfl ?_)))
  clear F'
  have hlL := ltN (l1 _ (.head _)); dsimp only at hlL
  have hr1 : ∀ p ∈ rest, p.1 ≠ L' + 1 := fun p hp => Nat.ne_of_lt (Nat.lt_succ_of_lt (l1 p (.tail _ hp)))
  clear l1
  (repeat' ((fail_if_success (with_reducible show wpAny _ _ (pyIter _) _ _ _)); (fail_if_success (with_reducible show wpAny _ _ (PySem.call (Value.ref _) _) _ _ _)); (fail_if_success (with_reducible show wpAny _ _ (PySem.eval (Expr.ListComp _ _ _ _) _) _ _ _)); (fail_if_success (with_reducible show wpAny _ _ (binaryOp Operator.Add (Value.bytes _ _) (Value.bytes _ _)) _ _ _)); (first | (k_unfold; (try dsimp only)) | (k_end; wrow_close) | walk1 | (dsimp only; walk1) | (leave1; walk_say "STEP leave1"; try dsimp only) | fail "no step")))
  refine add_al ?_
  intro tA kA
  dsimp only
  (repeat' ((fail_if_success (with_reducible show wpAny _ _ (pyIter _) _ _ _)); (fail_if_success (with_reducible show wpAny _ _ (PySem.call (Value.ref _) _) _ _ _)); (fail_if_success (with_reducible show wpAny _ _ (PySem.eval (Expr.ListComp _ _ _ _) _) _ _ _)); (fail_if_success (with_reducible show wpAny _ _ (binaryOp Operator.Add (Value.bytes _ _) (Value.bytes _ _)) _ _ _)); (first | (k_unfold; (try dsimp only)) | (k_end; wrow_close) | walk1 | (dsimp only; walk1) | (leave1; walk_say "STEP leave1"; try dsimp only) | fail "no step")))
  rename_i h9 oA9 F9 N9 d9
  k_dflt (refine LCg.ListComp_U (F₀ := by k_asm) (by with_unfolding_all rfl) (by decide) (by rfl) (by decide) (by rfl) ?_)
  (repeat' ((fail_if_success (with_reducible show LCg.CompSrc _ _ _ _ _ _ _ _ _ _ _ _ _ _)); (first | (k_unfold; (try dsimp only)) | (k_end; wrow_close) | walk1 | (dsimp only; walk1) | (leave1; walk_say "STEP leave1"; try dsimp only) | fail "no step")))
  refine LCg.CompSrc.ledger (its := vs.toArray) (k := n) rfl (by k_asm) (by k_asm) (.tail _ (.head _)) (by rw [List.size_toArray, PySem.sizeLine_eq]; omega) ?_
  intro gg
  have hsz : vs.toArray.size = vv.length := by rw [List.size_toArray, hvl2]
  rw [hsz]
  refine comp_inv (n := vv.length) (fun i ys news => news = (L' + 1, oA9) :: (l, listOf vs.toArray n) :: rest ∧ IntsAre ys ((vv.take i).map fun v => (((alph a0 a1 v).toNat : Nat) : Int))) ?turn ?fin _ 0 [] _ (by omega) ⟨rfl, .nil⟩
  case turn =>
    rintro i ys news v I oI C oC D m₂ h tk E' hi ⟨rfl, hrs⟩ hP hC hx F N off ne
    obtain ⟨of1, of2, of3⟩ := off3_ne off
    obtain ⟨tv, hv2⟩ := hia.get i _ (toI_get (by omega))
    have hv3 : v = .int ((vv.getD i 0 : Nat) : Int) tv := by rw [List.getElem?_toArray, hv2] at hP; exact (Option.some.inj hP).symm
    subst hv3
    have hv64 : vv.getD i 0 < 64 := h64 _ (by rw [List.getD_eq_getElem?_getD, List.getElem?_eq_getElem hi]; exact List.getElem_mem hi)
    have et : (vv.take (i + 1)).map (fun v => (((alph a0 a1 v).toNat : Nat) : Int)) = (vv.take i).map (fun v => (((alph a0 a1 v).toNat : Nat) : Int)) ++ [(((alph a0 a1 (vv.getD i 0)).toNat : Nat) : Int)] := by
      rw [take_snocN hi, List.map_append]; rfl
    (repeat' ((fail_if_success (with_reducible show LCg.CompEnd _ _ _ _ _ _ _ _ _ _ _ _ _ _)); (first | (k_unfold; (try dsimp only)) | (k_end; wrow_close) | walk1 | (dsimp only; walk1) | (leave1; walk_say "STEP leave1"; try dsimp only) | fail "no step")))
    exact LCg.CompEnd.intro (by k_asm) (by k_asm) _ (fun _ h => h) off (.inr ⟨_, .tail _ (.head _), rfl, n, rfl⟩) ⟨rfl, ints_to et rfl hrs⟩
  case fin =>
    rintro ys news ⟨rfl, hrs⟩
    unfold LCg.FinE
    intro D h tk F N off
    have hoff := off1_ne off
    rw [List.take_length] at hrs
    have hyl := hrs.length
    rw [List.length_map] at hyl
    dsimp only
    (repeat' ((fail_if_success (with_reducible show LCg.CompEnd _ _ _ _ _ _ _ _ _ _ _ _ _ _)); (first | (k_unfold; (try dsimp only)) | (k_end; wrow_close) | walk1 | (dsimp only; walk1) | (leave1; walk_say "STEP leave1"; try dsimp only) | fail "no step")))
    refine bytes_K (by k_asm) (by k_asm) (News.isList (n := ys.length) (by k_asm) (.head _)) hrs (alph_bytes a0 a1 vv) (by rw [PySem.sizeLine_eq]; omega) rfl ?_
    intro h9 t9 k9 F9 N9 _
    dsimp only
    rw [alph_back]
    (repeat' ((fail_if_success (with_reducible show LCg.CompEnd _ _ _ _ _ _ _ _ _ _ _ _ _ _)); (fail_if_success (with_reducible show wpAny _ _ (binaryOp Operator.Mult (Value.bytes _ _) (Value.int _ _)) _ _ _)); (fail_if_success (with_reducible show wpAny _ _ (binaryOp Operator.Add (Value.bytes _ _) (Value.bytes _ _)) _ _ _)); (first | (k_unfold; (try dsimp only)) | (k_end; wrow_close) | walk1 | (dsimp only; walk1) | (leave1; walk_say "STEP leave1"; try dsimp only) | fail "no step")))
    refine bytes_mul_any (b := [61]) (by decide) (by omega) (by omega) (by decide) ?_
    intro tM kM
    dsimp only
    refine bytes_add_K (d := textOf vv a0 a1) (by simp only [List.size_toArray, List.length_map]; rw [pad_len]; omega) (pad_text vv a0 a1 hvl2) ?_
    intro tE kE
    (repeat' ((fail_if_success (with_reducible show LCg.CompEnd _ _ _ _ _ _ _ _ _ _ _ _ _ _)); (fail_if_success (with_reducible show wpAny _ _ (binaryOp Operator.Mult (Value.bytes _ _) (Value.int _ _)) _ _ _)); (fail_if_success (with_reducible show wpAny _ _ (binaryOp Operator.Add (Value.bytes _ _) (Value.bytes _ _)) _ _ _)); (first | (k_unfold; (try dsimp only)) | (k_end; wrow_close) | walk1 | (dsimp only; walk1) | (leave1; walk_say "STEP leave1"; try dsimp only) | fail "no step")))
    exact hret _ _ _ _ (by k_asm) (fun p hp => (by k_asm : News _ _ _ _) p (.tail _ (.tail _ hp))) ⟨_, rfl, rfl⟩
end Mine
end
section
open PySem PySem.W PyProof.Rows PyProof.Rows.LCg
set_option maxRecDepth 100000
namespace Mine

/-- the end of a turn of a comprehension whose name is a cell -/
def CEndC (h₀ : Heap) (L : Addr) (m : Str → Option Value) (s₁ : Shared) (I : Addr) (oI : Obj) (C : Addr) (oC : Obj) (M : Addr) (oM : Obj) (D : Addr) (oD : Obj) (S : List (Addr × Obj) → Prop) (rest : Value → List (Addr × Obj) → Prop) (y : Value) (s₂ : Shared) : Prop :=
  ∃ h' tk news', s₂ = { s₁ with heap := h', toks := tk } ∧ Fr h₀ L h' m ∧ News h₀ L h' ((I, oI) :: (C, oC) :: (M, oM) :: (D, oD) :: news') ∧ (∀ p ∈ news', p.1 ≠ I ∧ p.1 ≠ C ∧ p.1 ≠ M ∧ p.1 ≠ D) ∧ S news' ∧ rest y news'

section
variable {prog : Program} {w : World} {A : Around} {E : Value → Shared → Prop} {s : Shared} {h₀ : Heap} {L : Addr} {m : Str → Option Value} {env : Env}

theorem newEnv_cell {Md : Model} {scope : Scope} {globals : Addr} {cl : List (Str × Addr)} {qual : Str} {x y z : Str} {Q : Env → Shared → Prop} (hn : scope.names = [(z, .local), (x, .cell), (y, .free)])
    (h : Q { scope, locals := s.heap.objs.size, globals, cells := (x, s.heap.objs.size + 1) :: cl, qual, func := none, code := env.code, frame := env.frame, builtins := env.builtins }
      { s with heap := (s.heap.push { cls := .type "dict", data := .dict #[] }).push { cls := .type "cell", data := .cell none } }) :
    wpAny Md A (newFunctionEnv scope globals cl [] qual none .none (some env)) Q E s := by
  unfold newFunctionEnv
  simp only [Option.isSome_some, if_true]
  refine wpAny_bind (wpAny_alloc ?_)
  rw [hn]
  simp only [List.forIn_cons, List.forIn_nil]
  refine wpAny_bind ?_
  refine wpAny_bind (wpAny_pure ?_)
  refine wpAny_bind (wpAny_bind (wpAny_alloc (wpAny_pure ?_)))
  refine wpAny_bind (wpAny_pure ?_)
  refine wpAny_pure ?_
  refine wpAny_bind (wpAny_pure ?_)
  refine wpAny_pure ?_
  rw [Heap.size_push]
  exact h

theorem block_C {elt iter : PySem.Expr} {x y z : Str} {px : Pos} {scope : Scope} {cl : List (Str × Addr)} {pos : Pos} {s₂ : Shared} {I : Addr} {fp : List Addr} {n : Nat} {P : Nat → Value → Prop} {St : Nat → Heap → Prop} {S : List (Addr × Obj) → Prop} {news : List (Addr × Obj)}
    {RR : Value → Addr → Result → Shared → Prop} (J : Nat → List Value → List (Addr × Obj) → Prop)
    (W : Walks prog w A I fp [I] n P St) (hsz : n ≤ sizeLine) (hIo : ∀ i h, St i h → ∃ o, h.get? I = some o)
    (hSt : ∀ i h h' o nw, St i h → h.get? I = some o → h'.get? I = some o → (∀ b o, h₀.get? b = some o → h'.get? b = some o) → News h₀ L h' nw → S nw → St i h')
    (hn : scope.names = [(z, .local), (x, .cell), (y, .free)]) (hkind : scope.kind = .function) (hx : (relabel scope env).names.lookup x = some .cell) (hst : St 0 s₂.heap) (hfp : ∀ b ∈ fp, b < s₂.heap.objs.size)
    (F : Fr h₀ L s₂.heap m) (N : News h₀ L s₂.heap news) (hIL : L ≠ I) (hI₀ : h₀.get? I = none) (off : ∀ p ∈ news, p.1 ≠ I) (hS : S news) (hJ : J 0 [] news)
    (turn : ∀ i ys news v oI C oC M oM D h tk (E' : Value → Shared → Prop), i < n → J i ys news → P i v → oM.data = .cell (some v) → Fr h₀ L h m → News h₀ L h ((I, oI) :: (C, oC) :: (M, oM) :: (D, lst ys) :: news) →
      (∀ p ∈ news, p.1 ≠ I ∧ p.1 ≠ C ∧ p.1 ≠ M ∧ p.1 ≠ D) → ((@Ne Nat I C) ∧ (@Ne Nat I M) ∧ (@Ne Nat I D) ∧ (@Ne Nat C M) ∧ (@Ne Nat C D) ∧ (@Ne Nat M D)) →
      wpAny (model prog w) A (eval elt (compEnvC scope ((x, M) :: cl) C env)) (CEndC h₀ L m { s₂ with heap := h, toks := tk } I oI C oC M oM D (lst ys) S (fun y news' => J (i + 1) (ys ++ [y]) news')) E' { s₂ with heap := h, toks := tk })
    (hRR : ∀ D C h tk m' ys news', Fr h₀ L h m → News h₀ L h ((D, lst ys) :: news') → (∀ p ∈ news', p.1 ≠ D) → h.Ns C m' → h₀.get? C = none → h₀.get? D = none → C ≠ L → D ≠ L → C ≠ D → (∀ p ∈ news', p.1 ≠ C) → J n ys news' → RR (.ref D) C (.ok .next) { s₂ with heap := h, toks := tk }) :
    wpAny (model prog w) A (newList []) (fun acc s₃ => wpAny (model prog w) A (newFunctionEnv scope env.globals cl [] env.qual none .none (some env)) (fun cenv s₄ =>
      codeAny (model prog w) A (.compStart (.ListComp elt [⟨.Name x px, iter, [], 0⟩] scope pos) 0 (.ref I) acc { cenv with scope := relabel scope env }) (RR acc cenv.locals) s₄) E s₃) E s₂ := by
  refine wpAny_newObj_type (newEnv_cell hn ?_)
  dsimp only
  generalize hH2 : s₂.heap.push { cls := .type "list", dict := none, data := .seq ([] : List Value).toArray } = H2
  have hC : H2.objs.size = s₂.heap.objs.size + 1 := by rw [← hH2, Heap.size_push]
  have hDC : s₂.heap.objs.size ≠ H2.objs.size := by rw [hC]; exact Nat.ne_of_lt (Nat.lt_succ_self _)
  have hDM : s₂.heap.objs.size ≠ H2.objs.size + 1 := by rw [hC]; exact Nat.ne_of_lt (Nat.lt_succ_of_lt (Nat.lt_succ_self _))
  have hCM : H2.objs.size ≠ H2.objs.size + 1 := Nat.ne_of_lt (Nat.lt_succ_self _)
  have below : ∀ b, b < s₂.heap.objs.size → b ≠ H2.objs.size ∧ b ≠ H2.objs.size + 1 ∧ b ≠ s₂.heap.objs.size := fun b hb =>
    ⟨by rw [hC]; exact Nat.ne_of_lt (Nat.lt_succ_of_lt hb), by rw [hC]; exact Nat.ne_of_lt (Nat.lt_succ_of_lt (Nat.lt_succ_of_lt hb)), Nat.ne_of_lt hb⟩
  have hDf : s₂.heap.objs.size ∉ fp := fun hm => Nat.lt_irrefl _ (hfp _ hm)
  have hMf : H2.objs.size + 1 ∉ fp := fun hm => (below _ (hfp _ hm)).2.1 rfl
  have hIf : I ∈ fp := W.sub I (List.mem_singleton.mpr rfl)
  have hIlt : I < s₂.heap.objs.size := hfp I hIf
  generalize hH3 : (H2.push { cls := .type "dict", data := .dict #[] }).push { cls := .type "cell", data := .cell none } = h₁
  have old : ∀ b o, s₂.heap.get? b = some o → h₁.get? b = some o := fun b o e => by
    rw [← hH3]; exact Heap.get?_push_of_some _ (Heap.get?_push_of_some _ (hH2 ▸ Heap.get?_push_of_some _ e))
  have hacc : h₁.get? s₂.heap.objs.size = some (lst []) := by
    rw [← hH3]; exact Heap.get?_push_of_some _ (Heap.get?_push_of_some _ (hH2 ▸ Heap.get?_push_size _ rfl))
  have hns₁ : h₁.Ns H2.objs.size (fun _ => none) := by
    rw [← hH3]
    exact (Heap.Ns.new H2 (.type "dict")).keeps fun b o e => Heap.get?_push_of_some _ e
  have hcel₁ : h₁.get? (H2.objs.size + 1) = some { cls := .type "cell", data := .cell none } := by
    rw [← hH3]
    have e := Heap.get?_push_size (H2.push { cls := .type "dict", data := .dict #[] }) (o := { cls := .type "cell", data := .cell none }) rfl
    rw [Heap.size_push] at e; exact e
  have hst₁ : St 0 h₁ := W.frame _ _ _ hst fun b _ o e => old b o e
  have fresh : ∀ a, s₂.heap.objs.size ≤ a → s₂.heap.get? a = none := fun a ha => by
    cases e : s₂.heap.get? a with
    | none => rfl
    | some o' => exact absurd (Heap.lt_size e) (Nat.not_lt.mpr ha)
  have fresh₀ : ∀ a, s₂.heap.objs.size ≤ a → h₀.get? a = none := fun a ha => by
    cases e : h₀.get? a with
    | none => rfl
    | some o' => have := F.keep a o' e; rw [fresh a ha] at this; cases this
  have hD₀ : h₀.get? s₂.heap.objs.size = none := fresh₀ _ (Nat.le_refl _)
  have hC₀ : h₀.get? H2.objs.size = none := fresh₀ _ (by rw [hC]; exact Nat.le_succ _)
  have hM₀ : h₀.get? (H2.objs.size + 1) = none := fresh₀ _ (by rw [hC]; exact Nat.le_succ_of_le (Nat.le_succ _))
  have hLlt : L < s₂.heap.objs.size := F.ns.lt
  have hDL : s₂.heap.objs.size ≠ L := Ne.symm (below L hLlt).2.2
  have hCL : H2.objs.size ≠ L := Ne.symm (below L hLlt).1
  have hML : H2.objs.size + 1 ≠ L := Ne.symm (below L hLlt).2.1
  have hCI : I ≠ H2.objs.size := (below I hIlt).1
  have hMI : I ≠ H2.objs.size + 1 := (below I hIlt).2.1
  have hDI : I ≠ s₂.heap.objs.size := (below I hIlt).2.2
  have off₀ : ∀ p ∈ news, p.1 ≠ I ∧ p.1 ≠ H2.objs.size ∧ p.1 ≠ H2.objs.size + 1 ∧ p.1 ≠ s₂.heap.objs.size := fun p hp => ⟨off p hp, below _ (Heap.lt_size (N p hp).1)⟩
  have loop : ∀ s₃ : Shared, s₃ = { s₂ with heap := h₁ } →
      codeAny (model prog w) A (.compLoop (.ListComp elt [⟨.Name x px, iter, [], 0⟩] scope pos) 0 (.ref I) (.ref s₂.heap.objs.size) (compEnvC scope ((x, H2.objs.size + 1) :: cl) H2.objs.size env))
        (RR (.ref s₂.heap.objs.size) H2.objs.size) s₃ := by
    rintro s₃ rfl
    refine codeAny_compLoop_tests
      (fun k s' => ∃ h' tk i ys m' news' oM v₀, s' = { s₂ with heap := h', toks := tk } ∧ i ≤ n ∧ k = n + 1 - i ∧ ys.length = i ∧ St i h' ∧ Fr h₀ L h' m ∧ h'.Ns H2.objs.size m' ∧ h'.get? (H2.objs.size + 1) = some oM ∧ oM.data = .cell v₀ ∧
        News h₀ L h' ((s₂.heap.objs.size, lst ys) :: news') ∧ (∀ p ∈ news', p.1 ≠ I ∧ p.1 ≠ H2.objs.size ∧ p.1 ≠ H2.objs.size + 1 ∧ p.1 ≠ s₂.heap.objs.size) ∧ S news' ∧ J i ys news') ?_ (n + 1)
      ⟨h₁, _, 0, [], _, news, _, none, rfl, Nat.zero_le _, rfl, rfl, hst₁, F.keeps old, hns₁, hcel₁, rfl, fun p hp => ?_, off₀, hS, hJ⟩
    · rintro k s' ⟨h', tk, i, ys, m', news', oM, v₀, rfl, hi, rfl, hyl, hst', F', hn', hM', hMd, N', off', hS', J'⟩
      by_cases hlt : i < n
      · refine W.item i _ _ _ hlt hst' fun v h₂ tk₂ hPv hst₂ hk₂ => ?_
        have nI : ∀ b, b ≠ I → b ∉ [I] := fun b hb hm => hb (List.mem_singleton.mp hm)
        refine wpAny_assign_Name (wpAny_storeName_cell (env := compEnvC scope ((x, H2.objs.size + 1) :: cl) H2.objs.size env) hkind hx (by show List.lookup x ((x, H2.objs.size + 1) :: cl) = _; rw [List.lookup_cons, beq_self_eq_true]) ⟨oM, hk₂ _ _ (nI _ (Ne.symm hMI)) hM', hMd⟩ fun h₃ hc₃ hs₃ => ?_)
        refine wpAny_tests_nil ?_
        simp only [if_true]
        obtain ⟨oM3, hM3, hMd3⟩ := hc₃
        have hst₃ : St (i + 1) h₃ := W.frame _ _ _ hst₂ fun b hb o e => hs₃.extBut b o (fun q => hMf (by have q' : b = H2.objs.size + 1 := q; rw [← q']; exact hb)) e
        obtain ⟨oI, heI⟩ := hIo _ _ hst₃
        have F₃ : Fr h₀ L h₃ m := (fr_but F' hk₂ hIL hI₀).change hs₃ hML hM₀
        have hn₃ : h₃.Ns H2.objs.size m' := (hn'.at' fun o e => hk₂ _ o (nI _ (Ne.symm hCI)) e).sameBut hs₃ hCM
        obtain ⟨oC, heC, hoC⟩ := ns_obj hn₃
        have N₂ : News h₀ L h₂ ((s₂.heap.objs.size, lst ys) :: news') := news_but N' hk₂ fun p hp => by
          rcases List.mem_cons.mp hp with rfl | hp
          · exact Ne.symm hDI
          · exact (off' p hp).1
        have N₃ : News h₀ L h₃ ((I, oI) :: (H2.objs.size, oC) :: (H2.objs.size + 1, oM3) :: (s₂.heap.objs.size, lst ys) :: news') := fun p hp => by
          rcases List.mem_cons.mp hp with rfl | hp
          · exact ⟨heI, Ne.symm hIL, hI₀⟩
          · rcases List.mem_cons.mp hp with rfl | hp
            · exact ⟨heC, hCL, hC₀⟩
            · rcases List.mem_cons.mp hp with rfl | hp
              · exact ⟨hM3, hML, hM₀⟩
              · have zz := N₂ p hp
                refine ⟨hs₃.extBut _ _ ?_ zz.1, zz.2⟩
                rcases List.mem_cons.mp hp with rfl | hp
                · exact hDM
                · exact (off' p hp).2.2.1
        refine wpAny_mono (turn i ys news' v oI H2.objs.size oC (H2.objs.size + 1) oM3 s₂.heap.objs.size h₃ _ _ hlt J' hPv hMd3 F₃ N₃ off' ⟨hCI, hMI, hDI, hCM, Ne.symm hDC, Ne.symm hDM⟩) (fun yv s₄ h₄ => ?_) fun _ _ e => e
        obtain ⟨h₄, tk₄, news₄, rfl, F₄, N₄, off₄, hS₄, J₄⟩ := h₄
        have zI := (N₄ (I, oI) List.mem_cons_self).1
        have zC := (N₄ (H2.objs.size, oC) (List.mem_cons_of_mem _ List.mem_cons_self)).1
        have zM := (N₄ (H2.objs.size + 1, oM3) (List.mem_cons_of_mem _ (List.mem_cons_of_mem _ List.mem_cons_self))).1
        have zD := (N₄ (s₂.heap.objs.size, lst ys) (List.mem_cons_of_mem _ (List.mem_cons_of_mem _ (List.mem_cons_of_mem _ List.mem_cons_self)))).1
        have N₄' : News h₀ L h₄ news₄ := fun p hp => N₄ p (List.mem_cons_of_mem _ (List.mem_cons_of_mem _ (List.mem_cons_of_mem _ (List.mem_cons_of_mem _ hp))))
        have hst₄ : St (i + 1) h₄ := hSt _ _ _ _ _ hst₃ heI zI F₄.keep N₄' hS₄
        refine append_at (hsz := by show ys.toArray.size ≤ sizeLine; rw [List.size_toArray, hyl]; exact Nat.le_trans hi hsz) zD fun h₅ hs₅ hD₅ => ?_
        refine ⟨n + 1 - (i + 1), by omega, h₅, tk₄, i + 1, ys ++ [yv], _, news₄, oM3, some v, rfl, hlt, rfl, by rw [List.length_append, List.length_singleton, hyl], W.frame _ _ _ hst₄ fun b hb o e => hs₅.extBut b o (fun q => hDf (q ▸ hb)) e, F₄.change hs₅ hDL hD₀,
          (hoC.ns zC).sameBut hs₅ (Ne.symm hDC), hs₅.extBut _ _ (Ne.symm hDM) zM, hMd3, fun p hp => ?_, off₄, hS₄, J₄⟩
        rcases List.mem_cons.mp hp with rfl | hp
        · exact ⟨hD₅.trans (congrArg some (lst_snoc ys yv)), hDL, hD₀⟩
        · exact ⟨hs₅.extBut _ _ (off₄ p hp).2.2.2 (N₄' p hp).1, (N₄' p hp).2⟩
      · obtain rfl : i = n := Nat.le_antisymm hi (Nat.not_lt.mp hlt)
        refine W.done _ _ _ hst' fun h₂ tk₂ hk₂ => ?_
        exact hRR _ _ h₂ tk₂ _ ys news' (fr_but F' hk₂ hIL hI₀) (news_but N' hk₂ fun p hp => by
          rcases List.mem_cons.mp hp with rfl | hp
          · exact Ne.symm hDI
          · exact (off' p hp).1) (fun p hp => (off' p hp).2.2.2) (hn'.at' fun o e => hk₂ _ o (by simpa using Ne.symm hCI) e) hC₀ hD₀ hCL hDL (Ne.symm hDC) (fun p hp => (off' p hp).2.1) J'
    · rcases List.mem_cons.mp hp with rfl | hp
      · exact ⟨hacc, hDL, hD₀⟩
      · exact ⟨old _ _ (N p hp).1, (N p hp).2⟩
  exact codeAny_compStart_list (loop _ rfl) (W.self 0 _ _ _ hst₁ (loop _ rfl))

/-- [elt for x in xs] where x is a cell (an inner comprehension takes it), over a list of the ledger -/
theorem listComp_C {elt iter : PySem.Expr} {x y z : Str} {px : Pos} {scope : Scope} {cl : List (Str × Addr)} {pos : Pos} {Q : Value → Shared → Prop} {ax : Addr} {vs : List Value} {k : Nat} {news : List (Addr × Obj)} (J : Nat → List Value → List (Addr × Obj) → Prop)
    (hclos : closureFor scope env = pure cl) (hn : scope.names = [(z, .local), (x, .cell), (y, .free)]) (hkind : scope.kind = .function) (hx : (relabel scope env).names.lookup x = some .cell)
    (hnames : ∀ y ∈ scope.names, y.2 = .local → scope.names.lookup y.1 = some .local)
    (h : wpAny (model prog w) A (eval iter env) (fun xv s₁ => ∃ h₁ tk₁, s₁ = { s with heap := h₁, toks := tk₁ } ∧ xv = .ref ax ∧ Fr h₀ L h₁ m ∧ News h₀ L h₁ news) E s)
    (hh : A.handled = none) (hm : (ax, listOf vs.toArray k) ∈ news) (hz : vs.length ≤ sizeLine) (hJ : J 0 [] news)
    (turn : ∀ i ys news v I oI C oC M oM D h tk (E' : Value → Shared → Prop), i < vs.length → J i ys news → vs[i]? = some v → oM.data = .cell (some v) → Fr h₀ L h m → News h₀ L h ((I, oI) :: (C, oC) :: (M, oM) :: (D, lst ys) :: news) →
      (∀ p ∈ news, p.1 ≠ I ∧ p.1 ≠ C ∧ p.1 ≠ M ∧ p.1 ≠ D) → ((@Ne Nat I C) ∧ (@Ne Nat I M) ∧ (@Ne Nat I D) ∧ (@Ne Nat C M) ∧ (@Ne Nat C D) ∧ (@Ne Nat M D)) →
      wpAny (model prog w) A (eval elt (compEnvC scope ((x, M) :: cl) C env)) (CEndC h₀ L m { s with heap := h, toks := tk } I oI C oC M oM D (lst ys) (fun nw => (ax, listOf vs.toArray k) ∈ nw) (fun y news' => J (i + 1) (ys ++ [y]) news')) E' { s with heap := h, toks := tk })
    (fin : ∀ D h tk ys news', Fr h₀ L h m → News h₀ L h ((D, lst ys) :: news') → (∀ p ∈ news', p.1 ≠ D) → J vs.length ys news' → Q (.ref D) { s with heap := h, toks := tk })
    (hs : ∀ x, foldedSetIterable iter env x = pure x := by intro _; rfl) :
    wpAny (model prog w) A (eval (.ListComp elt [⟨.Name x px, iter, [], 0⟩] scope pos) env) Q E s := by
  rw [eval_ListComp]
  refine wpAny_comprehension_free (use := none) rfl hs hclos hkind hnames (wpAny_mono h (fun xv s₁ h₁ => ?_) fun _ _ e => e)
  obtain ⟨g₁, tk₁, rfl, rfl, F, N⟩ := h₁
  have hl : g₁.IsList ax vs.toArray := ⟨_, (N _ hm).1, rfl, k, rfl⟩
  have hlt : ax < g₁.objs.size := Heap.lt_size (N _ hm).1
  refine wpAny_pyIter_list (s := { s with heap := g₁, toks := tk₁ }) hl ?_
  have up : ∀ b o, g₁.get? b = some o → (g₁.push { cls := .type "list_iterator", data := .fields #[.ref ax, .int 0 0] }).get? b = some o := fun b o e => Heap.get?_push_of_some _ e
  have W := Walks.list (prog := prog) (w := w) hh g₁.objs.size ax (Nat.ne_of_lt hlt) vs.toArray
  have hvz : vs.toArray.size = vs.length := by simp
  rw [hvz] at W
  refine block_C (S := fun nw => (ax, listOf vs.toArray k) ∈ nw) J W hz (fun i h st => by obtain ⟨o, e, _⟩ := st.1; exact ⟨o, e⟩)
    (fun i h h' o nw st e e' kp Nw S => ⟨by obtain ⟨o', q, r⟩ := st.1; rw [e] at q; cases q; exact ⟨o, e', r⟩, ⟨_, (Nw _ S).1, rfl, k, rfl⟩⟩)
    hn hkind hx ⟨⟨_, Heap.get?_push_size _ rfl, rfl, rfl⟩, hl.push _⟩ (fun b hb => ?_) (F.keeps up) (N.grown up) (Nat.ne_of_lt F.ns.lt) (next_is_new F) (fun p hp => Nat.ne_of_lt (Heap.lt_size (N p hp).1)) hm hJ ?_ ?_
  · show b < (g₁.push _).objs.size
    rw [Heap.size_push]
    rcases List.mem_cons.mp hb with rfl | hb
    · exact Nat.lt_succ_self _
    · rw [List.mem_singleton.mp hb]; exact Nat.lt_succ_of_lt hlt
  · intro i ys news' v oI C oC M oM D h' tk' E' hi hJ' hP hM F' N' o' ne
    exact turn i ys news' v _ oI C oC M oM D h' tk' E' hi hJ' (by simpa using hP) hM F' N' o' ne
  · intro D C h' tk' m' ys news' F' N' o1 hn' hC₀ hD₀ hCL hDL hCD offC hJ'
    refine ⟨m', hn', fun h'' hs'' => fin D h'' tk' ys news' (F'.change hs'' hCL hC₀) (fun p hp => ?_) o1 hJ'⟩
    refine ⟨hs''.extBut _ _ ?_ (N' p hp).1, (N' p hp).2⟩
    rcases List.mem_cons.mp hp with rfl | hp
    · exact Ne.symm hCD
    · exact offC p hp
end
end Mine
end
section
set_option maxRecDepth 100000
namespace Mine

def lexlt : List Int → List Int → Bool
  | x :: xs, y :: ys => if x = y then lexlt xs ys else decide (x < y)
  | _, _ => false

theorem lt_loop (l b : Addr) (vs us : List Value) (xs ys : List Int) (n n2 : Nat) (hx : IntsAre vs xs) (hy : IntsAre us ys) (hsz : xs.length = ys.length) (k : Nat) :
    ∀ i : Nat, xs.length - i = k → Meets (Builtin.«list.__eq__.loop» ⟨[.ref l, .ref b, rawInt i, rawInt 0], []⟩)
      (fun A R s => s.heap.get? l = some (listOf vs.toArray n) ∧ s.heap.get? b = some (listOf us.toArray n2) ∧ R (.ok (.ret (.bool (lexlt (xs.drop i) (ys.drop i))))) s) := by
  have hvl := hx.length
  have hul := hy.length
  induction k with
  | zero =>
    intro i hk prog w A R s h
    obtain ⟨hp, g, d, tk, os⟩ := s; obtain ⟨hl, hb, h⟩ := h
    wp_walk using wpAny_loadPart' hl, wpAny_loadPart' hb
    have hi1 : vs.toArray[((i : Nat) : Int).toNat]? = none := by simp; omega
    have hi2 : us.toArray[((i : Nat) : Int).toNat]? = none := by simp; omega
    rw [hi1, hi2]
    wp_walk using wpAny_loadPart' hl, wpAny_loadPart' hb
    show R (.ok (.ret (.bool (decide (vs.toArray.size < us.toArray.size))))) _
    rw [List.drop_eq_nil_of_le (by omega)] at h
    have e : decide (vs.toArray.size < us.toArray.size) = false := by simp; omega
    rw [e]; exact h
  | succ k ih =>
    intro i hk prog w A R s h
    obtain ⟨hp, g, d, tk, os⟩ := s; obtain ⟨hl, hb, h⟩ := h
    wp_walk using wpAny_loadPart' hl, wpAny_loadPart' hb
    have hlt : i < xs.length := by omega
    have hlt2 : i < ys.length := by omega
    obtain ⟨t1, e1⟩ := hx.get i xs[i] (by simp [hlt])
    obtain ⟨t2, e2⟩ := hy.get i ys[i] (by simp [hlt2])
    have hi1 : vs.toArray[((i : Nat) : Int).toNat]? = some (.int xs[i] t1) := by simpa using e1
    have hi2 : us.toArray[((i : Nat) : Int).toNat]? = some (.int ys[i] t2) := by simpa using e2
    have hd1 : xs.drop i = xs[i] :: xs.drop (i + 1) := List.drop_eq_getElem_cons hlt
    have hd2 : ys.drop i = ys[i] :: ys.drop (i + 1) := List.drop_eq_getElem_cons hlt2
    have hc : ((i : Int) + 1) = ((i + 1 : Nat) : Int) := by push_cast; rfl
    rw [hd1, hd2] at h
    rw [hi1, hi2]
    refine wpAny_bind (wpAny_eqBool_int ?_)
    by_cases he : xs[i] = ys[i]
    · rw [show (xs[i] == ys[i]) = true from beq_iff_eq.mpr he]
      have hl2 : lexlt (xs[i] :: xs.drop (i + 1)) (ys[i] :: ys.drop (i + 1)) = lexlt (xs.drop (i + 1)) (ys.drop (i + 1)) := by simp [lexlt, he]
      rw [hl2] at h
      wp_walk
      rw [hc]
      exact ⟨plainId_quiet PySem.MeetsSeq3.plain_eq_loop _, codeAny_builtin PySem.MeetsSeq3.entry_eq_loop (by
        rw [Around.under_plainId PySem.MeetsSeq3.plain_eq_loop _]
        exact ih (i + 1) (by omega) prog w A R _ ⟨hl, hb, h⟩)⟩
    · rw [show (xs[i] == ys[i]) = false from by simpa using he]
      have hl2 : lexlt (xs[i] :: xs.drop (i + 1)) (ys[i] :: ys.drop (i + 1)) = decide (xs[i] < ys[i]) := by simp [lexlt, he]
      rw [hl2] at h
      wp_walk using wpAny_loadPart' hl, wpAny_loadPart' hb
      rw [hi1, hi2]
      refine wpAny_bind (m := richCompare .Lt (.int xs[i] t1) (.int ys[i] t2)) (show wpAny _ _ (compareOp .Lt _ _) _ _ _ from PyProof.Rows.lt_int ?_)
      exact wpAny_pure h
theorem meets_list_lt (l b : Addr) (vs us : List Value) (xs ys : List Int) (n n2 : Nat) (hx : IntsAre vs xs) (hy : IntsAre us ys) (hsz : xs.length = ys.length) :
    Meets (Builtin.«list.__lt__» ⟨[.ref l, .ref b], []⟩) (fun A R s => s.heap.get? l = some (listOf vs.toArray n) ∧ s.heap.get? b = some (listOf us.toArray n2) ∧ R (.ok (.ret (.bool (lexlt xs ys)))) s) := by
  intro prog w A R s h
  obtain ⟨hp, g, d, tk, os⟩ := s; obtain ⟨hl, hb, h⟩ := h
  have f3 := AutoSeq1.sub_list_list
  wp_walk using wpAny_loadPart' hl, wpAny_loadPart' hb
  exact ⟨plainId_quiet PySem.MeetsSeq3.plain_eq_loop _, codeAny_builtin PySem.MeetsSeq3.entry_eq_loop (by
    rw [Around.under_plainId PySem.MeetsSeq3.plain_eq_loop _]
    exact lt_loop l b vs us xs ys n n2 hx hy hsz _ 0 rfl prog w A R _ ⟨hl, hb, h⟩)⟩

def slt (f1 f2 : List Int) (k1 k2 : Int) : Bool := if f1 = f2 then decide (k1 < k2) else lexlt f1 f2
abbrev pairO (f : Addr) (k : Int) (u : Tok) : Obj := { cls := .type "tuple", data := .seq #[.ref f, .int k u] }
section
variable {prog : Program} {w : World} {A : Around} {E : Value → Shared → Prop} {s : Shared} {l b : Addr} {vs us : List Value} {xs ys : List Int} {n n2 : Nat}
theorem oneLt_list {Q : Bool → Shared → Prop} (hu : A.units + 4 < cLine) (hl : s.heap.get? l = some (listOf vs.toArray n)) (hb : s.heap.get? b = some (listOf us.toArray n2)) (hx : IntsAre vs xs) (hy : IntsAre us ys) (hsz : xs.length = ys.length)
    (h : Q (lexlt xs ys) s) : wpAny (model prog w) A (oneLt' true (.ref l) (.ref b)) Q E s := by
  rw [oneLt'_eq]
  simp only [if_true]
  have ta : s.TypeIs (.ref l) "list" := ⟨_, hl, rfl⟩
  refine wpAny_bind (wpAny_cRoomFor (by omega) (wpAny_bind (wpAny_callSpecialIfBound?_slot ta F.slot_list_lt (call_meets F.slot_list_lt ta F.entry_list_lt (F.args_list_lt_2 _ _) (meets_list_lt l b vs us xs ys n n2 hx hy hsz) ⟨hl, hb, ?_⟩))))
  exact wpAny_bind (wpAny_truthy_bool (wpAny_pure h))
theorem eqB_ints {Q : Bool → Shared → Prop} (hu : A.units + 64 < cLine) (hl : s.heap.get? l = some (listOf vs.toArray n)) (hb : s.heap.get? b = some (listOf us.toArray n2)) (hx : IntsAre vs xs) (hy : IntsAre us ys)
    (h : Q (decide (xs = ys)) s) : wpAny (model prog w) A (eqBool (.ref l) (.ref b)) Q E s := by
  refine PySem.SeqAt.eqBoolOverData prog w A E s (.ref l) (.ref b) (.list (xs.map PyData.int)) (.list (ys.map PyData.int)) _ _ Q (reads_newData ⟨_, hl, rfl, n, rfl⟩ (ke_carried hx)) (reads_newData ⟨_, hb, rfl, n2, rfl⟩ (ke_carried hy)) ?_ ?_ ?_ ?_
  · simp [PyData.canLay0, ke_canLayAll0]
  · simp [PyData.canLay0, ke_canLayAll0]
  · simp [PyData.depth, ke_depthAll]; omega
  · have e : PyData.eqv (.list (xs.map PyData.int)) (.list (ys.map PyData.int)) = decide (xs = ys) := by
      simp only [PyData.eqv]; exact ked_eqvAll xs ys
    rw [e]; exact h
theorem sort_lt {a c : Addr} {k1 k2 : Int} {u1 u2 : Tok} {Q : Bool → Shared → Prop} (hu : A.units + 64 < cLine) (ha : s.heap.get? a = some (pairO l k1 u1)) (hc : s.heap.get? c = some (pairO b k2 u2))
    (hl : s.heap.get? l = some (listOf vs.toArray n)) (hb : s.heap.get? b = some (listOf us.toArray n2)) (hx : IntsAre vs xs) (hy : IntsAre us ys) (hsz : xs.length = ys.length)
    (h : Q (slt xs ys k1 k2) s) : wpAny (model prog w) A (keyLt' (tuples' true) (.ref a) (.ref c)) Q E s := by
  refine kat_lt ha rfl hc rfl ?_
  show KatLex prog w A true (decide (2 < 2)) Q [(.ref l, .ref b), (.int k1 u1, .int k2 u2)] 0 s
  refine kat_cons (eqB_ints hu hl hb hx hy ?_)
  by_cases e : xs = ys
  · rw [decide_eq_true e]
    refine kat_yes (kat_cons (wpAny_eqBool_int ?_))
    by_cases e2 : k1 = k2
    · rw [show (k1 == k2) = true from beq_iff_eq.mpr e2]
      refine kat_yes (kat_nil ?_)
      have : slt xs ys k1 k2 = false := by simp [slt, e, e2]
      rw [this] at h; exact h
    · rw [show (k1 == k2) = false from by simpa using e2]
      refine kat_no (kat_one _ _ ?_)
      refine PyProof.Rows.lt_int ?_
      have : slt xs ys k1 k2 = decide (k1 < k2) := by simp [slt, e]
      rw [this] at h; exact h
  · rw [decide_eq_false e]
    refine kat_no (oneLt_list (by omega) hl hb hx hy hsz ?_)
    have : slt xs ys k1 k2 = lexlt xs ys := by simp [slt, e]
    rw [this] at h; exact h
end
end Mine
end
section
set_option maxRecDepth 100000
namespace Mine

theorem lexlt_irr : ∀ (xs : List Int), lexlt xs xs = false
  | [] => rfl
  | x :: xs => by simp [lexlt, lexlt_irr xs]
theorem lexlt_tot : ∀ (xs ys : List Int), xs.length = ys.length → xs ≠ ys → lexlt xs ys = false → lexlt ys xs = true
  | [], [], _, h, _ => absurd rfl h
  | [], _ :: _, h, _, _ => nomatch h
  | _ :: _, [], h, _, _ => nomatch h
  | x :: xs, y :: ys, hl, hn, hf => by
    by_cases e : x = y
    · subst e
      simp only [lexlt, if_true] at hf ⊢
      exact lexlt_tot xs ys (by simpa using hl) (fun q => hn (by rw [q])) hf
    · have e2 : ¬ y = x := fun q => e q.symm
      simp only [lexlt, if_neg e, if_neg e2, decide_eq_false_iff_not, decide_eq_true_eq] at hf ⊢
      omega
theorem lexlt_trans : ∀ (xs ys zs : List Int), lexlt xs ys = true → lexlt ys zs = true → lexlt xs zs = true
  | [], _, _, h, _ => by simp [lexlt] at h
  | _ :: _, [], _, h, _ => by simp [lexlt] at h
  | _ :: _, _ :: _, [], _, h => by simp [lexlt] at h
  | x :: xs, y :: ys, z :: zs, h1, h2 => by
    by_cases e1 : x = y
    · subst e1
      by_cases e2 : x = z
      · subst e2
        simp only [lexlt, if_true] at h1 h2 ⊢
        exact lexlt_trans xs ys zs h1 h2
      · simp only [lexlt, if_neg e2] at h2 ⊢; exact h2
    · by_cases e2 : y = z
      · subst e2
        simp only [lexlt, if_neg e1] at h1 ⊢; exact h1
      · simp only [lexlt, if_neg e1, if_neg e2, decide_eq_true_eq] at h1 h2
        have e3 : ¬ x = z := by omega
        simp only [lexlt, if_neg e3, decide_eq_true_eq]; omega
theorem lexlt_asym (xs ys : List Int) (h : lexlt xs ys = true) : lexlt ys xs = false := by
  cases e : lexlt ys xs with
  | false => rfl
  | true => have := lexlt_trans _ _ _ h e; rw [lexlt_irr] at this; cases this
theorem slt_tot {a b : List Int} {i j : Int} (hl : a.length = b.length) (hij : i ≠ j) (h : slt a b i j = false) : slt b a j i = true := by
  unfold slt at h ⊢
  by_cases e : a = b
  · rw [if_pos e] at h; rw [if_pos e.symm]
    simp only [decide_eq_false_iff_not, decide_eq_true_eq] at h ⊢; omega
  · rw [if_neg e] at h; rw [if_neg (Ne.symm e)]
    exact lexlt_tot _ _ hl e h
theorem slt_trans {a b c : List Int} {i j k : Int} (h1 : slt a b i j = true) (h2 : slt b c j k = true) : slt a c i k = true := by
  unfold slt at *
  by_cases e : a = b
  · rw [if_pos e] at h1
    subst e
    by_cases e2 : a = c
    · rw [if_pos e2] at h2 ⊢
      simp only [decide_eq_true_eq] at h1 h2 ⊢; omega
    · rw [if_neg e2] at h2 ⊢; exact h2
  · rw [if_neg e] at h1
    by_cases e2 : b = c
    · subst e2; rw [if_neg e]; exact h1
    · rw [if_neg e2] at h2
      have e3 : a ≠ c := by
        rintro rfl
        have := lexlt_asym _ _ h1
        rw [h2] at this; cases this
      rw [if_neg e3]; exact lexlt_trans _ _ _ h1 h2
theorem slt_asym {a b : List Int} {i j : Int} (h : slt a b i j = true) : slt b a j i = false := by
  cases e : slt b a j i with
  | false => rfl
  | true =>
    have := slt_trans h e
    simp [slt] at this
theorem slt_ok {f : Nat → List Int} {n : Nat} (hl : ∀ i j, i < n → j < n → (f i).length = (f j).length) : LtT (fun i j => slt (f i) (f j) i j) n where
  tot i j hi hj hij h := slt_tot (hl i j hi hj) (by omega) h
  trans i j k _ _ _ h1 h2 := slt_trans h1 h2
  asym i j _ _ h := slt_asym h

theorem kat_of {h : Heap} : ∀ (ps fas : List Addr), ps.length = fas.length → (∀ j, j < ps.length → ∃ k u, h.get? (ps.getD j 0) = some (pairO (fas.getD j 0) k u)) → KatTups h (ps.map Value.ref) (fas.map Value.ref)
  | [], [], _, _ => .nil
  | [], _ :: _, h, _ => nomatch h
  | _ :: _, [], h, _ => nomatch h
  | p :: ps, f :: fas, hl, hh => by
    obtain ⟨k, u, e⟩ := hh 0 (by simp)
    exact .cons (n := 0) e rfl rfl rfl (kat_of ps fas (by simpa using hl) fun j hj => by
      have := hh (j + 1) (by simpa using hj)
      simpa using this)
theorem getD_ref {ps : List Addr} {i : Nat} (h : i < ps.length) : (ps.map Value.ref).getD i Value.none = .ref (ps.getD i 0) := by
  rw [List.getD_eq_getElem?_getD, List.getD_eq_getElem?_getD, List.getElem?_map, List.getElem?_eq_getElem h]; rfl

section
variable {prog : Program} {w : World} {A : Around} {E : Value → Shared → Prop} {s : Shared} {h₀ : Heap} {L : Addr} {m : Str → Option Value} {news : List (Addr × Obj)}
theorem sorted_faces {l : Addr} {k n : Nat} {ps fas : List Addr} {f : Nat → List Int} {Q : Value → Shared → Prop} (F : Fr h₀ L s.heap m) (N : News h₀ L s.heap news) (hl : (l, listOf (ps.map Value.ref).toArray k) ∈ news)
    (hps : ∀ j, j < n → ∃ u, (ps.getD j 0, pairO (fas.getD j 0) (j : Int) u) ∈ news) (hfs : ∀ j, j < n → ∃ xs c, (fas.getD j 0, listOf xs.toArray c) ∈ news ∧ IntsAre xs (f j))
    (l1 : ps.length = n) (l2 : fas.length = n) (h2 : 2 ≤ n) (h64 : n < 64) (hfl : ∀ i j, i < n → j < n → (f i).length = (f j).length) (hu : A.units + 100 < cLine)
    (h : ∀ D h' (p : Array Nat) c, PermR p n → Upto (fun i j => slt (f i) (f j) i j) p n → Fr h₀ L h' m → News h₀ L h' ((D, listOf (p.toList.map fun i => Value.ref (ps.getD i 0)).toArray c) :: news) → (∀ q ∈ news, q.1 < D) → Q (.ref D) { s with heap := h' }) :
    wpAny (model prog w) A (call (.builtin "sorted") [.ref l]) Q E s := by
  have hpl : (ps.map Value.ref).length = n := by rw [List.length_map, l1]
  refine kat_sorted (vs := ps.map Value.ref) F N (News.isList N hl) (by omega) (by omega) ?_
  intro D e1 h' F' N' hlt
  have N2 : News h₀ L h' news := fun p hp => N' p (.tail _ hp)
  refine kat_kind (fs := fas.map Value.ref) (T := .type "list") (kat_of ps fas (by omega) fun j hj => ?_) (by rw [List.length_map]; omega) ?_ (by decide) ?_
  · obtain ⟨u, e⟩ := hps j (by omega)
    exact ⟨_, u, (N2 _ e).1⟩
  · intro v hv
    obtain ⟨a, ha, rfl⟩ := List.mem_map.mp hv
    obtain ⟨j, hj, e⟩ := List.getElem_of_mem ha
    obtain ⟨xs, c, e2, _⟩ := hfs j (by omega)
    have e3 : fas.getD j 0 = a := by rw [List.getD_eq_getElem?_getD, List.getElem?_eq_getElem hj, e]; rfl
    rw [e3] at e2
    exact (Looks.ld (N2 _ e2).1).andThen .now
  · show (kas_sort (ps.map Value.ref).length).kasWp (kas_ask prog w A.in1.in1 (tuples' true) (ps.map Value.ref)) _ _
    rw [hpl]
    refine okwp_kas (lt := fun i j => slt (f i) (f j) i j) (n := n) (fun s' => s' = { s with heap := h' }) ?_ _ _ rfl (ok_sort (slt_ok hfl) h2 fun p hp hup => ?_)
    · rintro i j C s' rfl hi hj hC
      unfold kas_ask
      rw [getD_ref (by omega), getD_ref (by omega)]
      obtain ⟨u1, e1⟩ := hps i hi
      obtain ⟨u2, e2⟩ := hps j hj
      obtain ⟨xs, c1, e3, e4⟩ := hfs i hi
      obtain ⟨ys, c2, e5, e6⟩ := hfs j hj
      exact sort_lt (by show A.units + 1 + 1 + 64 < cLine; omega) (N2 _ e1).1 (N2 _ e2).1 (N2 _ e3).1 (N2 _ e5).1 e4 e6 (hfl i j hi hj) (hC _ rfl)
    · rintro s' rfl
      have hps : p.toList.map (fun i => (ps.map Value.ref).getD i Value.none) = p.toList.map fun i => Value.ref (ps.getD i 0) := by
        apply List.map_congr_left
        intro i hi
        have := List.mem_range.mp (hp.mem_iff.mp hi)
        exact getD_ref (by omega)
      refine KasFin.intro F' N' (UpdF.head fun q hq => Nat.ne_of_lt (hlt q hq)) fun h9 c F9 N9 => ?_
      rw [hps] at N9
      exact h D h9 p c hp hup F9 N9 hlt
end
end Mine
end
section
theorem Mine.freshF1 : True := by
  w_top off
  exact True.intro
set_option maxRecDepth 100000
namespace Mine

def metStep (acc : List Int) (v : Int) : List Int := if 61 < v ∧ acc.any (· == v) = false then acc ++ [v] else acc
def metL (vv : List Int) : List Int := vv.foldl metStep []
theorem metL_take {vv : List Int} {i : Nat} (h : i < vv.length) : metL (vv.take (i + 1)) = metStep (metL (vv.take i)) (vv.getD i 0) := by
  rw [List.take_add_one, List.getElem?_eq_getElem h, Option.toList_some]
  unfold metL
  rw [List.foldl_append, List.getD_eq_getElem?_getD, List.getElem?_eq_getElem h]
  rfl
theorem met_yes {vv : List Int} {i : Nat} {ns : List Int} (h : i < vv.length) (e : ns = metL (vv.take i)) (h1 : 61 < vv.getD i 0) (h2 : ns.any (· == vv.getD i 0) = false) : ns ++ [vv.getD i 0] = metL (vv.take (i + 1)) := by
  rw [metL_take h, ← e, metStep, if_pos ⟨h1, h2⟩]
theorem met_no {vv : List Int} {i : Nat} {ns : List Int} (h : i < vv.length) (e : ns = metL (vv.take i)) (h1 : ¬ (61 < vv.getD i 0 ∧ ns.any (· == vv.getD i 0) = false)) : ns = metL (vv.take (i + 1)) := by
  rw [metL_take h, ← e, metStep, if_neg h1]
theorem met_len (vv : List Int) : (metL vv).length ≤ vv.length := by
  have key : ∀ (vv acc : List Int), (vv.foldl metStep acc).length ≤ acc.length + vv.length := by
    intro vv
    induction vv with
    | nil => intro acc; simp
    | cons v vv ih =>
      intro acc
      have h1 := ih (metStep acc v)
      have h2 : (metStep acc v).length ≤ acc.length + 1 := by unfold metStep; split <;> simp
      simp only [List.foldl_cons, List.length_cons]; omega
  have := key vv []
  simpa [metL] using this
theorem met_mem (vv : List Int) (h64 : ∀ v ∈ vv, v < 64) : ∀ v ∈ metL vv, v = 62 ∨ v = 63 := by
  have key : ∀ (vv acc : List Int), (∀ v ∈ vv, v < 64) → (∀ v ∈ acc, v = 62 ∨ v = 63) → ∀ v ∈ vv.foldl metStep acc, v = 62 ∨ v = 63 := by
    intro vv
    induction vv with
    | nil => intro acc _ h; exact h
    | cons v vv ih =>
      intro acc h1 h2
      refine ih (metStep acc v) (fun x hx => h1 x (.tail _ hx)) ?_
      unfold metStep
      split
      · rename_i c
        intro x hx
        rcases List.mem_append.mp hx with hx | hx
        · exact h2 x hx
        · rw [List.mem_singleton.mp hx]
          have := h1 v (.head _)
          omega
      · exact h2
  exact key vv [] h64 (by simp)

local macro_rules | `(tactic| walk_at "call builtin:len") => `(tactic| (k_here; (with_reducible show wpAny _ _ (call (Value.builtin "len") [Value.ref _]) _ _ _); k_dflt (refine' lst_len ?k1 ?k2 ?k3 ?_; (case k1 => k_asm); (case k2 => k_mem); (case k3 => omega); k_whole)))
local macro_rules | `(tactic| k_all) => `(tactic| first | assumption | exact of_allLt (by assumption))
local macro_rules | `(tactic| walk_at "exec For") => `(tactic| (k_here; (rename Fr _ _ _ _ => lF'); (with_unfolding_all refine' For_invVF lF' ?k1 ?k2 ?_; (case k1 => exact rfl); (case k2 => exact rfl); k_whole)))

local macro_rules | `(tactic| walk_at "call builtin:list.append") => `(tactic| (k_here; (with_reducible show wpAny _ _ (call (Value.builtin _) [Value.ref _, _]) _ _ _); k_dflt (refine' lst_append ?k1 ?k2 ?k3 ?z ?_; (case k1 => k_asm); (case k2 => k_asm); (case k3 => k_upd); (case z => ((try simp only [List.length_append, List.length_cons, List.length_nil]); omega)); k_whole); intro h' F' N'; (try dsimp only at N')))
abbrev pv (a b : UInt8) (v : Int) : Int := if v = 62 then (a.toNat : Int) else (b.toNat : Int)
section
variable {prog : Program} {w : World} {A : Around} {E : Value → Shared → Prop} {s : Shared} {t u : Tok} {Q : Value → Shared → Prop}
theorem pair_item {a b : UInt8} {v : Int} {value slice : PySem.Expr} (hv : v = 62 ∨ v = 63) (h : Q (.int (pv a b v) s.toks) { s with toks := s.toks + 1 })
    (hs : subscripted slice false (.bytes #[a, b] t) (.int (v - 62) u) = operate [.bytes #[a, b] t, .int (v - 62) u] (getItem (.bytes #[a, b] t) (.int (v - 62) u)) := by with_unfolding_all rfl)
    (ht : ∀ r, letTemporaryGo value (.bytes #[a, b] t) r = pure () := by intro _; with_unfolding_all rfl) : wpAny (model prog w) A (subscriptTail value slice (.bytes #[a, b] t) (.int (v - 62) u)) Q E s := by
  rcases hv with rfl | rfl
  · exact bytes_item_K (x := [a, b]) (by show 2 ≤ _; decide) (by decide) (by show _ < ((2 : Nat) : Int); decide) rfl h hs ht
  · exact bytes_item_K (x := [a, b]) (by show 2 ≤ _; decide) (by decide) (by show _ < ((2 : Nat) : Int); decide) rfl h hs ht
end
local macro_rules | `(tactic| walk_at "subscriptTail") => `(tactic| (k_here; (with_reducible show wpAny _ _ (subscriptTail _ _ (Value.bytes _ _) (Value.int _ _)) _ _ _); k_dflt (refine' pair_item ?k1 ?_ ?k2 ?k3; (case k1 => assumption); (case k2 => with_unfolding_all rfl); (case k3 => (intro _; with_unfolding_all rfl)); k_whole)))

def face (ms : List Int) (ab : UInt8 × UInt8) : List Int := ms.map (pv ab.1 ab.2)
/-- the lists of faces made so far -/
def Faces (ms : List Int) (ab : List (UInt8 × UInt8)) (i : Nat) (fas : List Addr) (ext : List (Addr × Obj)) : Prop :=
  fas.length = i ∧ ∀ j, j < i → ∃ xs n, (fas.getD j 0, listOf xs.toArray n) ∈ ext ∧ IntsAre xs (face ms (ab.getD j (0, 0)))
theorem getD_snoc_lt {as : List Addr} {D : Addr} {j : Nat} (h : j < as.length) : (as ++ [D]).getD j 0 = as.getD j 0 := by
  rw [List.getD_eq_getElem?_getD, List.getD_eq_getElem?_getD, List.getElem?_append_left h]
theorem getD_snoc_eq {as : List Addr} {D : Addr} : (as ++ [D]).getD as.length 0 = D := by
  rw [List.getD_eq_getElem?_getD, List.getElem?_concat_length]; rfl
theorem Faces.snoc {ms : List Int} {ab : List (UInt8 × UInt8)} {i : Nat} {fas : List Addr} {xs : List Value} {ext : List (Addr × Obj)} {D : Addr} {n : Nat} (h : Faces ms ab i fas ext) (hx : IntsAre xs (face ms (ab.getD i (0, 0)))) :
    Faces ms ab (i + 1) (fas ++ [D]) (ext ++ [(D, listOf xs.toArray n)]) := by
  refine ⟨by rw [List.length_append, h.1]; rfl, fun j hj => ?_⟩
  by_cases c : j < i
  · obtain ⟨xs', n', e2, e3⟩ := h.2 j c
    exact ⟨xs', n', by rw [getD_snoc_lt (by rw [h.1]; exact c)]; exact List.mem_append.mpr (.inl e2), e3⟩
  · have : j = i := by omega
    subst this
    exact ⟨xs, n, by rw [← h.1, getD_snoc_eq]; exact List.mem_append.mpr (.inr (List.mem_singleton.mpr rfl)), by rw [← h.1] at hx ⊢; exact hx⟩
/-- the pairs made so far -/
def Pairs (fas : List Addr) (i : Nat) (ps : List Addr) (ext : List (Addr × Obj)) : Prop :=
  ps.length = i ∧ ∀ j, j < i → ∃ u, (ps.getD j 0, pairO (fas.getD j 0) (j : Int) u) ∈ ext
theorem Pairs.snoc {fas : List Addr} {i : Nat} {ps : List Addr} {ext : List (Addr × Obj)} {D : Addr} {u : Tok} (h : Pairs fas i ps ext) : Pairs fas (i + 1) (ps ++ [D]) (ext ++ [(D, pairO (fas.getD i 0) (i : Int) u)]) := by
  refine ⟨by rw [List.length_append, h.1]; rfl, fun j hj => ?_⟩
  by_cases c : j < i
  · obtain ⟨u', e⟩ := h.2 j c
    exact ⟨u', by rw [getD_snoc_lt (by rw [h.1]; exact c)]; exact List.mem_append.mpr (.inl e)⟩
  · have : j = i := by omega
    subst this
    exact ⟨u, by rw [show (ps ++ [D]).getD j 0 = D by rw [← h.1]; exact getD_snoc_eq]; exact List.mem_append.mpr (.inr (List.mem_singleton.mpr rfl))⟩
theorem face_snoc {met : List Int} {j : Nat} (ab : UInt8 × UInt8) (hj : j < met.length) : face (met.take (j + 1)) ab = face (met.take j) ab ++ [pv ab.1 ab.2 (met.getD j 0)] := by
  have e : met.getD j 0 = met[j] := by rw [List.getD_eq_getElem?_getD, List.getElem?_eq_getElem hj]; rfl
  unfold face
  rw [e, List.take_add_one, List.getElem?_eq_getElem hj, List.map_append]; rfl
theorem mem_end {α : Type} {p x : α} {ext rest : List α} (as : List α) (h : p ∈ as ++ (rest ++ (ext ++ [x]))) : p ∈ x :: (as ++ (rest ++ ext)) := by
  simp only [List.mem_append, List.mem_singleton, List.mem_cons] at h ⊢
  rcases h with h | h | h | h
  · exact .inr (.inl h)
  · exact .inr (.inr (.inl h))
  · exact .inr (.inr (.inr h))
  · exact .inl (by simpa using h)
local macro_rules | `(tactic| walk_at "subscriptTail") => `(tactic| (k_here; (with_reducible show wpAny _ _ (subscriptTail _ _ (Value.ref _) (Value.int _ _)) _ _ _); k_dflt (refine' hp_sub ?k1 ?k2 ?k4 ?k5 ?k6 ?_ ?k7; (case k1 => k_asm); (case k2 => k_mem); (case k4 => omega); (case k5 => omega); (case k6 => omega); (case k7 => with_unfolding_all rfl); k_whole)))
section
variable {prog : Program} {w : World} {A : Around} {s : Shared} {h₀ : Heap} {L : Addr} {m : Str → Option Value} {env : Env}
theorem comp_invP {elt : PySem.Expr} {x x₂ : Str} {scope : Scope} {cl : List (Str × Addr)} {S : List (Addr × Obj) → Prop} {P : Nat → Value → Prop} {Fin : List Value → List (Addr × Obj) → Prop} {n : Nat}
    (J : Nat → List Value → List (Addr × Obj) → Prop)
    (turn : ∀ i ys news v, i < n → J i ys news → P i v → ∃ (t : Addr) (ot : Obj) (v₁ v₂ : Value) (nt : Nat), v = .ref t ∧ (t, ot) ∈ news ∧ ot.cls = .type "tuple" ∧ ot.data = .seq #[v₁, v₂] nt ∧
      ∀ I oI C oC D m₂ h tk (E' : Value → Shared → Prop), LCg.NsObj oC m₂ → m₂ x = some v₁ → m₂ x₂ = some v₂ → Fr h₀ L h m → News h₀ L h ((I, oI) :: (C, oC) :: (D, LCg.lst ys) :: news) → LCg.Off3 I C D news → ((@Ne Nat I C) ∧ (@Ne Nat I D) ∧ (@Ne Nat C D)) →
      wpAny (model prog w) A (eval elt (compEnvC scope cl C env)) (LCg.CompEnd h₀ L m { s with heap := h, toks := tk } I oI C oC D (LCg.lst ys) S (fun y news' => J (i + 1) (ys ++ [y]) news')) E' { s with heap := h, toks := tk })
    (fin : ∀ ys news, J n ys news → Fin ys news) : ∀ k i ys news, i + k = n → J i ys news → LCp.CompRestP prog w A h₀ L m env elt x x₂ scope cl s S P Fin k i ys news := by
  intro k
  induction k with
  | zero =>
    intro i ys news hk hJ
    have : i = n := by omega
    subst this
    exact fin ys news hJ
  | succ k ih =>
    intro i ys news hk hJ v hP
    obtain ⟨t, ot, v₁, v₂, nt, e1, e2, e3, e4, hh⟩ := turn i ys news v (by omega) hJ hP
    refine ⟨t, ot, v₁, v₂, nt, e1, e2, e3, e4, fun I oI C oC D m₂ h tk E' hC hx hx2 F N off ne => ?_⟩
    refine wpAny_mono (hh I oI C oC D m₂ h tk E' hC hx hx2 F N off ne) (fun y s₂ q => ?_) fun _ _ e => e
    obtain ⟨h', tk', news', rfl, F', N', off', hS, hJ'⟩ := q
    exact ⟨h', tk', news', rfl, F', N', off', hS, ih (i + 1) _ _ (by omega) hJ'⟩
end
structure MSt where
  ms : List Value
  ns : List Int
  n : Nat

set_option maxHeartbeats 4000000 in
theorem order_claim (w : World) (l c : Addr) (vs cv : List Value) (vv : List Int) (n nc : Nat) (rest : List (Addr × Obj)) (hia : IntsAre vs vv) (hvl : vv.length < 600) (h64 : ∀ v ∈ vv, v < 64) (hlc : l ≠ c) (ab : List (UInt8 × UInt8)) (hab : ∀ i, i < ab.length → ∃ t, cv[i]? = some (.bytes #[(ab.getD i (0, 0)).1, (ab.getD i (0, 0)).2] t)) (hcl : cv.length = ab.length) (hca : ab.length < 64) (hab2 : 2 ≤ ab.length) :
   Claim w 99 16 200 ((l, listOf vs.toArray n) :: (c, listOf cv.toArray nc) :: rest) [.ref l, .ref c] (fun r news' => ∃ D vs' n' p, r = .ref D ∧ IntsAre vs' (p.toList.map fun (k : Nat) => (k : Int)) ∧ PermR p ab.length ∧ Upto (fun i j => slt (face (metL vv) (ab.getD i (0, 0))) (face (metL vv) (ab.getD j (0, 0))) i j) p ab.length ∧ news' = (D, listOf vs'.toArray n') :: (l, listOf vs.toArray n) :: (c, listOf cv.toArray nc) :: rest ∧ ∀ q ∈ (l, listOf vs.toArray n) :: (c, listOf cv.toArray nc) :: rest, q.1 ≠ D) := by
  have hvl2 := hia.length
  unfold Claim
  k_fill
  intro mean mg mb dp un gd cn cs' a ccd cl outer A₀ base h₀ L m s Q E B F X N T hk hd hu hret
  refine wpAny_call ?_
  k_dflt (refine' code_defC ?k1 ?k2 ?k3 ?k4 ?k5 ?kA ?kF ?kK ?k6 ?k7 ?k8 ?k9 ?kB ?kD ?_ ?c2 ?c3 ?c4; (case kA => exact rfl); (case kF => exact rfl); (case kK => first | exact rfl | assumption); (case k1 => k_asm); (case k2 => k_asm); (case k3 => k_asm); (case k4 => k_asm); (case k5 => k_asm); (case k6 => k_is); (case k7 => k_is); (case k8 => ktr_room); (case k9 => first | exact BindsTo.of_eq rfl | exact binds_K (by k_in) rfl (by k_is) rfl rfl rfl); (case kB => exact rfl); (case kD => decide +kernel); (case c2 => exact rfl); (case c3 => exact rfl); (case c4 => exact rfl); k_whole; intro g' L' h' tk' cells' FG' F' N' Y' B' X' T' l1; (try dsimp only); (try k_fold))
  k_cells Y'
  rename_i oA oB d1 d2
  dsimp only [List.cons_append, List.nil_append] at N'
  replace d1 : oA.data = .cell none := d1
  replace d2 : oB.data = .cell none := d2
  obtain ⟨u0, F2⟩ := frCut [(Str.ofString "values", .v (.ref l)), (Str.ofString "choices", .v (.ref c))] F' (by (repeat' (first | exact True.intro | refine And.intro ⟨_, rfl⟩ ?_ | refine And.intro rfl ?_)))
  clear F'
  have hlL := ltN (l1 _ (.head _)); dsimp only at hlL
  have hcL := ltN (l1 _ (.tail _ (.head _))); dsimp only at hcL
  have hr1 : ∀ p ∈ rest, p.1 ≠ L' + 1 := fun p hp => Nat.ne_of_lt (Nat.lt_succ_of_lt (l1 p (.tail _ (.tail _ hp))))
  have hr2 : ∀ p ∈ rest, p.1 ≠ L' + 1 + 1 := fun p hp => Nat.ne_of_lt (Nat.lt_succ_of_lt (Nat.lt_succ_of_lt (l1 p (.tail _ (.tail _ hp)))))
  clear l1
  (repeat' ((fail_if_success (with_reducible show wpAny _ _ (pyIter _) _ _ _)); (fail_if_success (with_reducible show wpAny _ _ (PySem.call (Value.ref _) _) _ _ _)); (fail_if_success (with_reducible show wpAny _ _ (PySem.eval (Expr.ListComp _ _ _ _) _) _ _ _)); (first | (k_unfold; (try dsimp only)) | (k_end; wrow_close) | walk1 | (dsimp only; walk1) | (leave1; walk_say "STEP leave1"; try dsimp only) | fail "no step")))
  rename_i D0 h3 lD h2 oM F1 N1 dM
  obtain ⟨q1, q2, q3, q4, q5⟩ := lD
  have q1 := ltN q1
  have q2 := ltN q2
  have q3 := ltN q3
  have q4 := ltN q4
  have hr3 : ∀ p ∈ rest, p.1 ≠ D0 := of_allLt q5
  refine for_listK (σ := MSt) (fun x => [(Str.ofString "values", .v (.ref l)), (Str.ofString "choices", .v (.ref c))]) (fun x => (D0, listOf x.ms.toArray x.n) :: (L' + 1 + 1, oA) :: (L' + 1, oM) :: (l, listOf vs.toArray n) :: (c, listOf cv.toArray nc) :: rest)
    (fun i x => IntsAre x.ms x.ns ∧ x.ns = metL (vv.take i)) ⟨[], [], 0⟩ rfl (fun x => .tail _ (.tail _ (.tail _ (.head _)))) F1 N1 (fun _ => rfl) ?hm (fun _ h => h) ⟨.nil, rfl⟩ ?turn ?done
  case hm => (repeat' (first | exact True.intro | refine And.intro ⟨_, rfl⟩ ?_ | refine And.intro rfl ?_))
  case turn =>
    rintro i v ⟨ms, ns, nn⟩ u h tk I oI hi hv hI ⟨hms, hns⟩ F3 N3
    dsimp only [List.cons_append] at hms hns F3 N3
    rename IntsAre vs vv => hia
    obtain ⟨tv, hv2⟩ := hia.get i (vv.getD i 0) (getI (by omega))
    have hv3 : v = .int (vv.getD i 0) tv := by rw [hv2] at hv; exact (Option.some.inj hv).symm
    subst hv3
    have hrI1 : ∀ q ∈ rest ++ [(I, oI)], q.1 ≠ L' + 1 := ne_app hr1 (hI (L' + 1, _) (.tail _ (.tail _ (.head _))))
    have hrI2 : ∀ q ∈ rest ++ [(I, oI)], q.1 ≠ L' + 1 + 1 := ne_app hr2 (hI (L' + 1 + 1, _) (.tail _ (.head _)))
    have hrI3 : ∀ q ∈ rest ++ [(I, oI)], q.1 ≠ D0 := ne_app hr3 (hI (D0, _) (.head _))
    have hml : ms.length ≤ i := by
      have h1 := hms.length
      have h2 := met_len (vv.take i)
      rw [← hns] at h2
      rw [List.length_take] at h2
      omega
    (repeat' ((fail_if_success (with_reducible show wpAny _ _ (pyIter _) _ _ _)); (fail_if_success (with_reducible show wpAny _ _ (PySem.call (Value.ref _) _) _ _ _)); (fail_if_success (with_reducible show wpAny _ _ (PySem.eval (Expr.ListComp _ _ _ _) _) _ _ _)); (fail_if_success (with_reducible show KEnd _ _ _ _ _ _ _)); (first | (k_unfold; (try dsimp only)) | (k_end; wrow_close) | walk1 | (dsimp only; walk1) | (leave1; walk_say "STEP leave1"; try dsimp only) | fail "no step")))
    all_goals exact KEnd.intro (⟨_, _, _⟩ : MSt) (by k_asm) (by k_asm) (by (repeat' (first | exact True.intro | refine And.intro ⟨_, rfl⟩ ?_ | refine And.intro rfl ?_))) (fun _ h => h) (by
      first
      | exact ⟨ints_snoc (by assumption), met_yes (by omega) (by assumption) (by assumption) (by assumption)⟩
      | exact ⟨hms, met_no (by omega) hns (fun h => absurd h.1 (by assumption))⟩
      | exact ⟨hms, met_no (by omega) hns (fun h => absurd h.2 (by assumption))⟩
      | exact ⟨hms, met_no (by omega) hns (fun h => Bool.noConfusion (h.2.symm.trans (by assumption)))⟩)
  case done =>
    rintro ⟨ms, ns, nn⟩ u h tk ⟨hms, hns⟩ F3 N3
    dsimp only at hms hns F3 N3
    rw [hvl2, List.take_length] at hns
    subst hns
    have hmm : ∀ v ∈ metL vv, v = 62 ∨ v = 63 := met_mem vv h64
    have hml : (metL vv).length < 600 := Nat.lt_of_le_of_lt (met_len vv) hvl
    have hmsl := hms.length
    generalize metL vv = met at *
    (repeat' ((fail_if_success (with_reducible show wpAny _ _ (pyIter _) _ _ _)); (fail_if_success (with_reducible show wpAny _ _ (PySem.call (Value.ref _) _) _ _ _)); (fail_if_success (with_reducible show wpAny _ _ (PySem.eval (Expr.ListComp _ _ _ _) _) _ _ _)); (first | (k_unfold; (try dsimp only)) | (k_end; wrow_close) | walk1 | (dsimp only; walk1) | (leave1; walk_say "STEP leave1"; try dsimp only) | fail "no step")))
    k_dflt (refine listComp_C (h₀ := g') (L := L') (m := frm0 u [(Str.ofString "values", .v (.ref l)), (Str.ofString "choices", .v (.ref c))]) (vs := cv) (k := nc) (ax := c) (news := (D0, listOf ms.toArray nn) :: (L' + 1 + 1, oA) :: (L' + 1, oM) :: (l, listOf vs.toArray n) :: (c, listOf cv.toArray nc) :: rest) (fun i ys news => ∃ fas ext, ys = fas.map Value.ref ∧ news = (D0, listOf ms.toArray nn) :: (L' + 1 + 1, oA) :: (L' + 1, oM) :: (l, listOf vs.toArray n) :: (c, listOf cv.toArray nc) :: (rest ++ ext) ∧ (∀ p ∈ ext, p.1 ≠ L' + 1 + 1) ∧ Faces met ab i fas ext) (by with_unfolding_all rfl) (by rfl) (by rfl) (by rfl) (by decide) ?hiter (by rfl) (.tail _ (.tail _ (.tail _ (.tail _ (.head _))))) (by rw [PySem.sizeLine_eq]; omega) ⟨[], [], rfl, by rw [List.append_nil], by simp, rfl, by simp⟩ ?turn ?fin)
    case hiter =>
      (repeat' ((fail_if_success (with_reducible show Exists _)); (first | (k_unfold; (try dsimp only)) | (k_end; wrow_close) | walk1 | (dsimp only; walk1) | (leave1; walk_say "STEP leave1"; try dsimp only) | fail "no step")))
      exact ⟨_, _, rfl, rfl, F3, N3⟩
    case turn =>
      rintro i ys news v I oI C oC M oM2 D h9 tk9 E' hi ⟨fas, ext, rfl, rfl, hext, hfa⟩ hv hM F9 N9 off ne
      obtain ⟨tb, hv2⟩ := hab i (by omega)
      have hv3 := Option.some.inj (hv.symm.trans hv2)
      subst hv3
      clear F3 N3 F1 N1
      k_dflt (refine LCg.ListComp_U (F₀ := F9) (by with_unfolding_all rfl) (by decide) (by rfl) (by decide) (by rfl) ?_)
      (repeat' ((fail_if_success (with_reducible show LCg.CompSrc _ _ _ _ _ _ _ _ _ _ _ _ _ _)); (first | (k_unfold; (try dsimp only)) | (k_end; wrow_close) | walk1 | (dsimp only; walk1) | (leave1; walk_say "STEP leave1"; try dsimp only) | fail "no step")))
      refine LCg.CompSrc.ledger (its := ms.toArray) (k := nn) rfl (by k_asm) (by k_asm) (.tail _ (.tail _ (.tail _ (.tail _ (.head _))))) (by rw [List.size_toArray, PySem.sizeLine_eq]; omega) ?_
      intro gg
      have hsz : ms.toArray.size = met.length := by rw [List.size_toArray, hmsl]
      rw [hsz]
      refine comp_inv (n := met.length) (fun j zs news => news = (I, oI) :: (C, oC) :: (M, oM2) :: (D, LCg.lst (fas.map Value.ref)) :: (D0, listOf ms.toArray nn) :: (L' + 1 + 1, oA) :: (L' + 1, oM) :: (l, listOf vs.toArray n) :: (c, listOf cv.toArray nc) :: (rest ++ ext) ∧ IntsAre zs (face (met.take j) (ab.getD i (0, 0)))) ?turn2 ?fin2 _ 0 [] _ (by omega) ⟨rfl, .nil⟩
      case turn2 =>
        rintro j zs news v I' oI' C' oC' D' m₂ h8 tk8 E8 hj ⟨rfl, hrs⟩ hP hC hx F8 N8 off8 ne8
        obtain ⟨of1, of2, of3⟩ := off3_ne off8
        obtain ⟨tv, hw2⟩ := hms.get j (met.getD j 0) (getI hj)
        have hw3 : v = .int (met.getD j 0) tv := by rw [List.getElem?_toArray, hw2] at hP; exact (Option.some.inj hP).symm
        subst hw3
        have h62 : met.getD j 0 = 62 ∨ met.getD j 0 = 63 := hmm _ (by rw [List.getD_eq_getElem?_getD, List.getElem?_eq_getElem hj]; exact List.getElem_mem hj)
        have et := face_snoc (ab.getD i (0, 0)) hj
        (repeat' ((fail_if_success (with_reducible show LCg.CompEnd _ _ _ _ _ _ _ _ _ _ _ _ _ _)); (first | (k_unfold; (try dsimp only)) | (k_end; wrow_close) | walk1 | (dsimp only; walk1) | (leave1; walk_say "STEP leave1"; try dsimp only) | fail "no step")))
        exact LCg.CompEnd.intro (by k_asm) (by k_asm) _ (fun _ h => h) off8 (.inr ⟨_, .tail _ (.tail _ (.tail _ (.tail _ (.head _)))), rfl, nn, rfl⟩) ⟨rfl, ints_to et rfl hrs⟩
      case fin2 =>
        rintro zs news ⟨rfl, hrs⟩
        rw [List.take_length] at hrs
        unfold LCg.FinE
        intro D2 h2 tk2 F2 N2 off2
        have hoff := off1_ne off2
        refine ⟨_, _, (D0, listOf ms.toArray nn) :: (L' + 1 + 1, oA) :: (L' + 1, oM) :: (l, listOf vs.toArray n) :: (c, listOf cv.toArray nc) :: (rest ++ (ext ++ [(D2, LCg.lst zs)])), rfl, F2, ?_, ?_, ?_, fas ++ [D2], ext ++ [(D2, LCg.lst zs)], by rw [List.map_append]; rfl, rfl, ?_, hfa.snoc hrs⟩
        · exact fun p hp => N2 p (mem_end [(I, oI), (C, oC), (M, oM2), (D, LCg.lst (fas.map Value.ref)), (D0, listOf ms.toArray nn), (L' + 1 + 1, oA), (L' + 1, oM), (l, listOf vs.toArray n), (c, listOf cv.toArray nc)] hp)
        · intro p hp
          rcases List.mem_cons.mp (mem_end [(D0, listOf ms.toArray nn), (L' + 1 + 1, oA), (L' + 1, oM), (l, listOf vs.toArray n), (c, listOf cv.toArray nc)] hp) with rfl | hp
          · exact ⟨(hoff _ (.head _)).symm, (hoff _ (.tail _ (.head _))).symm, (hoff _ (.tail _ (.tail _ (.head _)))).symm, (hoff _ (.tail _ (.tail _ (.tail _ (.head _))))).symm⟩
          · exact off p hp
        · exact .tail _ (.tail _ (.tail _ (.tail _ (.head _))))
        · intro p hp
          rcases List.mem_append.mp hp with hp | hp
          · exact hext p hp
          · rw [List.mem_singleton.mp hp]; exact (hoff (L' + 1 + 1, oA) (.tail _ (.tail _ (.tail _ (.tail _ (.tail _ (.head _))))))).symm
    case fin =>
      rintro D h tk ys news F9 N9 off ⟨fas, ext, rfl, rfl, hext, hfa⟩
      clear F3 N3 F1 N1
      have hfl : fas.length = ab.length := hfa.1.trans hcl
      have hfl2 : (fas.map Value.ref).length = ab.length := by rw [List.length_map]; exact hfl
      have hre : ∀ p ∈ rest ++ ext, p.1 ≠ L' + 1 + 1 := fun p hp => by
        rcases List.mem_append.mp hp with hp | hp
        · exact hr2 p hp
        · exact hext p hp
      have hD2 : @Ne Nat (L' + 1 + 1) D := off (L' + 1 + 1, oA) (.tail _ (.head _))
      dsimp only
      (repeat' ((fail_if_success (with_reducible show wpAny _ _ (pyIter _) _ _ _)); (fail_if_success (with_reducible show wpAny _ _ (PySem.call (Value.ref _) _) _ _ _)); (fail_if_success (with_reducible show wpAny _ _ (PySem.eval (Expr.ListComp _ _ _ _) _) _ _ _)); (first | (k_unfold; (try dsimp only)) | (k_end; wrow_close) | walk1 | (dsimp only; walk1) | (leave1; walk_say "STEP leave1"; try dsimp only) | fail "no step")))
      rename_i h6 oF F6 N6 dF
      k_dflt (refine LCp.ListComp_P (F₀ := by k_asm) (by with_unfolding_all rfl) (by decide) (by rfl) (by decide) (by rfl) (by rfl) (by decide) ?_)
      (repeat' ((fail_if_success (with_reducible show wpAny _ _ (PySem.eval (Expr.ListComp _ _ _ _) _) _ _ _)); (first | (k_unfold; (try dsimp only)) | (k_end; wrow_close) | walk1 | (dsimp only; walk1) | (leave1; walk_say "STEP leave1"; try dsimp only) | fail "no step")))
      k_dflt (refine LCg.ListComp_U (F₀ := by k_asm) (by with_unfolding_all rfl) (by decide) (by rfl) (by decide) (by rfl) ?_)
      (repeat' ((fail_if_success (with_reducible show LCg.CompSrc _ _ _ _ _ _ _ _ _ _ _ _ _ _)); (first | (k_unfold; (try dsimp only)) | (k_end; wrow_close) | walk1 | (dsimp only; walk1) | (leave1; walk_say "STEP leave1"; try dsimp only) | fail "no step")))
      rename_i hR FR NR hK
      rw [hfl2] at hR
      obtain ⟨hsm, hsz⟩ := rangeFacts (b := ab.length) (Nat.lt_trans hca (by decide))
      refine LCg.CompSrc.range (n := ab.length) rfl FR NR hR hsm hsz (by rw [PySem.sizeLine_eq]; omega) ?_
      intro gg
      refine comp_inv (n := ab.length) (fun i ys news => ∃ ps ext2, ys = ps.map Value.ref ∧ news = (D, LCg.lst (fas.map Value.ref)) :: (D0, listOf ms.toArray nn) :: (L' + 1 + 1, oF) :: (L' + 1, oM) :: (l, listOf vs.toArray n) :: (c, listOf cv.toArray nc) :: ((rest ++ ext) ++ ext2) ∧ Pairs fas i ps ext2) ?turn3 ?fin3 _ 0 [] _ (by omega) ⟨[], [], rfl, by rw [List.append_nil], rfl, by simp⟩
      case turn3 =>
        rintro i ys news v I oI C oC D' m₂ h8 tk8 E8 hi ⟨ps, ext2, rfl, rfl, hps⟩ ⟨tv, hv⟩ hC hx F8 N8 off8 ne8
        rw [Int.zero_add] at hv
        subst hv
        obtain ⟨of1, of2, of3⟩ := off3_ne off8
        (repeat' ((fail_if_success (with_reducible show LCg.CompEnd _ _ _ _ _ _ _ _ _ _ _ _ _ _)); (first | (k_unfold; (try dsimp only)) | (k_end; wrow_close) | walk1 | (dsimp only; walk1) | (leave1; walk_say "STEP leave1"; try dsimp only) | fail "no step")))
        rename_i Dt h7 F7 N7 l7
        obtain ⟨s1, s2, s3, s4⟩ := l7
        exact LCg.CompEnd.intro F7 N7 ((D, LCg.lst (fas.map Value.ref)) :: (D0, listOf ms.toArray nn) :: (L' + 1 + 1, oF) :: (L' + 1, oM) :: (l, listOf vs.toArray n) :: (c, listOf cv.toArray nc) :: ((rest ++ ext) ++ (ext2 ++ [(Dt, pairO (fas.getD i 0) (i : Int) tv)])))
          (fun p hp => mem_end [(I, oI), (C, oC), (D', LCg.lst (ps.map Value.ref)), (D, LCg.lst (fas.map Value.ref)), (D0, listOf ms.toArray nn), (L' + 1 + 1, oF), (L' + 1, oM), (l, listOf vs.toArray n), (c, listOf cv.toArray nc)] hp)
          (LCg.Off3.of fun p hp => by
            rcases List.mem_cons.mp (mem_end [(D, LCg.lst (fas.map Value.ref)), (D0, listOf ms.toArray nn), (L' + 1 + 1, oF), (L' + 1, oM), (l, listOf vs.toArray n), (c, listOf cv.toArray nc)] hp) with rfl | hp
            · exact ⟨Nat.ne_of_gt s1, Nat.ne_of_gt s2, Nat.ne_of_gt s3⟩
            · exact ⟨of1 p hp, of2 p hp, of3 p hp⟩) trivial ⟨ps ++ [Dt], ext2 ++ [(Dt, pairO (fas.getD i 0) (i : Int) tv)], by rw [List.map_append]; rfl, rfl, hps.snoc⟩
      case fin3 =>
        rintro ys news ⟨ps, ext2, rfl, rfl, hps⟩
        unfold LCg.FinE
        intro D2 h2 tk2 F2 N2 off2
        have hoff := off1_ne off2
        clear FR NR
        (repeat' ((fail_if_success (with_reducible show wpAny _ _ (PySem.call (Value.builtin _) _ _) _ _ _)); (first | (k_unfold; (try dsimp only)) | (k_end; wrow_close) | walk1 | (dsimp only; walk1) | (leave1; walk_say "STEP leave1"; try dsimp only) | fail "no step")))
        refine sorted_faces (n := ab.length) (f := fun j => face met (ab.getD j (0, 0))) (ps := ps) (fas := fas) (k := (ps.map Value.ref).length) F2 N2 (.head _)
          (fun j hj => by obtain ⟨u, e⟩ := hps.2 j hj; exact ⟨u, .tail _ (.tail _ (.tail _ (.tail _ (.tail _ (.tail _ (.tail _ (List.mem_append.mpr (.inr e))))))))⟩)
          (fun j hj => by obtain ⟨xs, c9, e, e2⟩ := hfa.2 j (hcl.symm ▸ hj); exact ⟨xs, c9, .tail _ (.tail _ (.tail _ (.tail _ (.tail _ (.tail _ (.tail _ (List.mem_append.mpr (.inl (List.mem_append.mpr (.inr e)))))))))), e2⟩)
          hps.1 hfl hab2 hca (fun i j _ _ => by unfold face; rw [List.length_map, List.length_map]) (by ktr_units) ?_
        intro Ds h7 p cc hp hup F7 N7 hlt
        have hpsz := hp.size
        refine LCp.SrcLP.ledger (k := cc) rfl F7 N7 (.head _) (by rw [List.size_toArray, List.length_map, Array.length_toList, PySem.sizeLine_eq]; omega) ?_
        intro g2
        rw [List.size_toArray, List.length_map, Array.length_toList, hpsz]
        refine comp_invP (n := ab.length) (fun i ys news => news = (Ds, listOf (p.toList.map fun i => Value.ref (ps.getD i 0)).toArray cc) :: (D2, LCg.lst (ps.map Value.ref)) :: (D, LCg.lst (fas.map Value.ref)) :: (D0, listOf ms.toArray nn) :: (L' + 1 + 1, oF) :: (L' + 1, oM) :: (l, listOf vs.toArray n) :: (c, listOf cv.toArray nc) :: ((rest ++ ext) ++ ext2) ∧ IntsAre ys ((p.toList.take i).map fun (k : Nat) => (k : Int))) ?turn4 ?fin4 _ 0 [] _ (by omega) ⟨rfl, .nil⟩
        case turn4 =>
          rintro i ys news v hi ⟨rfl, hys⟩ hP
          have hbi : g p i < ab.length := hp.bnd hi
          obtain ⟨u9, e9⟩ := hps.2 (g p i) hbi
          have hv9 : v = .ref (ps.getD (g p i) 0) := by
            rw [List.getElem?_toArray, List.getElem?_map, Array.getElem?_toList, g_some (by omega)] at hP
            exact (Option.some.inj hP).symm
          subst hv9
          refine ⟨_, _, _, _, _, rfl, .tail _ (.tail _ (.tail _ (.tail _ (.tail _ (.tail _ (.tail _ (.tail _ (List.mem_append.mpr (.inr e9))))))))), rfl, rfl, ?_⟩
          intro I oI C oC D' m₂ h8 tk8 E8 hC hx hx2 F8 N8 off8 ne8
          have et : (p.toList.take (i + 1)).map (fun (k : Nat) => (k : Int)) = (p.toList.take i).map (fun (k : Nat) => (k : Int)) ++ [((g p i : Nat) : Int)] := by
            rw [List.take_add_one, Array.getElem?_toList, g_some (by omega), List.map_append]; rfl
          (repeat' ((fail_if_success (with_reducible show LCg.CompEnd _ _ _ _ _ _ _ _ _ _ _ _ _ _)); (first | (k_unfold; (try dsimp only)) | (k_end; wrow_close) | walk1 | (dsimp only; walk1) | (leave1; walk_say "STEP leave1"; try dsimp only) | fail "no step")))
          exact LCg.CompEnd.intro (by k_asm) (by k_asm) _ (fun _ h => h) off8 (.inr ⟨_, .head _, rfl, cc, rfl⟩) ⟨rfl, ints_to et rfl hys⟩
        case fin4 =>
          rintro ys news ⟨rfl, hys⟩
          intro D9 h9 tk9 F9 N9 off9
          have hoff9 := off1_ne off9
          rw [List.take_of_length_le (by rw [Array.length_toList]; omega)] at hys
          (repeat' ((fail_if_success (with_reducible show LCg.CompEnd _ _ _ _ _ _ _ _ _ _ _ _ _ _)); (first | (k_unfold; (try dsimp only)) | (k_end; wrow_close) | walk1 | (dsimp only; walk1) | (leave1; walk_say "STEP leave1"; try dsimp only) | fail "no step")))
          exact hret _ _ _ _ (by k_asm) (fun q hq => (by k_asm : News _ _ _ _) q (by
            rcases List.mem_cons.mp hq with h9 | h9
            · exact h9 ▸ .head _
            rcases List.mem_cons.mp h9 with h9 | h9
            · exact h9 ▸ .tail _ (.tail _ (.tail _ (.tail _ (.tail _ (.tail _ (.tail _ (.head _)))))))
            rcases List.mem_cons.mp h9 with h9 | h9
            · exact h9 ▸ .tail _ (.tail _ (.tail _ (.tail _ (.tail _ (.tail _ (.tail _ (.tail _ (.head _))))))))
            · exact .tail _ (.tail _ (.tail _ (.tail _ (.tail _ (.tail _ (.tail _ (.tail _ (.tail _ (List.mem_append.mpr (.inl (List.mem_append.mpr (.inl h9)))))))))))))) ⟨D9, ys, ys.length, p, rfl, hys, hp, hup, rfl, fun q hq => hoff9 q (by
            rcases List.mem_cons.mp hq with h9 | h9
            · exact h9 ▸ .tail _ (.tail _ (.tail _ (.tail _ (.tail _ (.tail _ (.head _))))))
            rcases List.mem_cons.mp h9 with h9 | h9
            · exact h9 ▸ .tail _ (.tail _ (.tail _ (.tail _ (.tail _ (.tail _ (.tail _ (.head _)))))))
            · exact .tail _ (.tail _ (.tail _ (.tail _ (.tail _ (.tail _ (.tail _ (.tail _ (List.mem_append.mpr (.inl (List.mem_append.mpr (.inl h9))))))))))))⟩
end Mine
end
section
theorem Mine.freshG1 : True := by
  w_top off
  exact True.intro
set_option maxRecDepth 100000
namespace Mine
section
variable {prog : Program} {w : World} {A : Around} {E : Value → Shared → Prop} {s : Shared} {h₀ : Heap} {L : Addr} {news : List (Addr × Obj)} {l : Addr} {n : Nat}
theorem hp_popNone {Q : Value → Shared → Prop} (N : News h₀ L s.heap news) (hm : (l, listOf #[] n) ∈ news) (hA : A.handled = none) (h : ∀ h' tk e, Heap.NewExc s.heap h' e "IndexError" → E (.ref e) { s with heap := h', toks := tk }) :
    wpAny (model prog w) A (call (.builtin "list.pop") [.ref l]) Q E s :=
  call_meets PySem.F.slot_list_pop ⟨_, (N _ hm).1, rfl⟩ PySem.F.entry_list_pop (PySem.F.args_list_pop_1 _) (AutoSeq1.list_pop_list_0 l #[] n rfl) ⟨(N _ hm).1, hA, h⟩
end

local macro_rules | `(tactic| walk_at "call builtin:list.pop") => `(tactic| (k_here; k_dflt (refine' hp_popNone ?k1 ?k2 ?k3 ?_; (case k1 => k_asm); (case k2 => k_mem); (case k3 => rfl); k_whole); intro h' tk' e' x'))

set_option maxHeartbeats 4000000 in
/-- heappop of an empty list raises -/
theorem heappop_none (w : World) (l : Addr) (n : Nat) (rest : List (Addr × Obj)) :
  ∀ (mean : ExcName → Option Value) (mg mb : Str → Option Value) (dp un : Nat) (gd : Option (List Code)) (cn : Str) (cs : Scope) (a : Addr) (ccd : Value) (cl : List (Str × Addr)) (outer : List Env) (A₀ : Around) (base h₀ : Heap) (L : Addr) (m : Str → Option Value) (s : Shared) (Q E : Value → Shared → Prop),
    Below A₀ base outer h₀ → Fr h₀ L s.heap m → (hd.heap_39 w.params).In h₀ → News h₀ L s.heap ((l, listOf #[] n) :: rest) → Top hd.view_39 (looseW hd.view_39 [Str.ofString "b2a_base64", Str.ofString "b64encode"]) mean mg mb h₀ → cs.kind = .function →
    dp + 12 < recursionLimit → un + 60 < cLine →
    (∀ G h' tk' e, Fr h₀ L G m → RaisedSN base G (envX cn cs L a ccd cl :: outer) e (.type "IndexError") ((l, listOf #[] n) :: rest) h' → G.UpToSlots h' → E (.ref e) { s with heap := h', toks := tk' }) →
    wpAny (model PySem.Challenge.rw_mq0105_01.row.prog w) (ktrTop dp un gd cn cs L a ccd cl outer) (call (.ref 58) [.ref l]) Q E s := by
  k_fill
  intro mean mg mb dp un gd cn cs a ccd cl outer A₀ base h₀ L m s Q E B F X N T hk hd hu hE
  refine wpAny_call ?_
  k_dflt (refine' code_def ?k1 ?k2 ?k3 ?k4 ?k5 ?kA ?kF ?kK ?k6 ?k7 ?k8 ?k9 ?kB ?_ ?c2 ?c3 ?c4 ?c5; (case kA => exact rfl); (case kF => exact rfl); (case kK => first | exact rfl | assumption); (case k1 => k_asm); (case k2 => k_asm); (case k3 => k_asm); (case k4 => k_asm); (case k5 => k_asm); (case k6 => k_is); (case k7 => k_is); (case k8 => ktr_room); (case k9 => first | exact BindsTo.of_eq rfl | exact binds_K (by k_in) rfl (by k_is) rfl rfl rfl); (case c5 => decide); (case kB => exact locs rfl); (case c2 => exact rfl); (case c3 => exact rfl); (case c4 => exact rfl); k_whole; intro g' L' h' FG' F' N' B' X' T'; (try dsimp only); (try k_fold))
  (repeat' ((fail_if_success (with_reducible show wpAny _ _ (leaving _ _) _ _ _)); (first | (k_unfold; (try dsimp only)) | (k_end; wrow_close) | walk1 | (dsimp only; walk1) | (leave1; walk_say "STEP leave1"; try dsimp only) | fail "no step")))
  rename_i h9 tk9 e9 x9
  refine leave_newS B' x9 F' N' ?_
  intro h8 R8 _ U8
  exact hE _ _ _ _ FG' R8 U8

-- a call of a def with cells, the end left as it is
section
variable {prog : Program} {w : World} {A₀ A : Around} {s : Shared} {base h₀ : Heap} {outer : List Env} {L : Addr} {m : Str → Option Value} {env : Env} {news : List (Addr × Obj)} {K : Frag} {p : Program} {loose : List Str} {mean : ExcName → Option Value} {mg mb : Str → Option Value}
  {R : Result → Shared → Prop} {name qual : Str} {params : Arguments} {body : List Stmt} {scope : Scope} {dV kV doc pm cdv ct oc : Value} {an od : Option Addr} {osl : Array (Option Value)} {f : Addr} {args : Args} {binds : List (Str × Value)}
theorem code_defR
    (B : Below A₀ base outer h₀) (F : Fr h₀ L s.heap m) (X₀ : K.In h₀) (N : News h₀ L s.heap news) (T : Top p loose mean mg mb h₀) (hA : A.frames = some (env :: outer)) (hf : env.frame = some L) (hke : env.scope.kind = .function)
    (ho : K.lookup f = some ⟨oc, od, .func (fnOf name qual params body scope dV kV doc pm an cdv ct), osl⟩) (hcd : codeIn K cdv qual = true) (hroom : A.depth < recursionLimit)
    (hbind : BindsTo s (fnOf name qual params body scope dV kV doc pm an cdv ct) args binds) (hkind : (binds.all fun y => scope.names.lookup y.1 == some .local || scope.names.lookup y.1 == some .cell) = true)
    (hnd : ((cellsFrom 0 scope.names []).map (·.1)).Nodup)
    (h : ∀ g L' h₁ tk cells, Fr h₀ L g m → Fr g L' h₁ (bindL (envOfC qual scope L' f cdv).kindOf binds fun _ => none) → News g L' h₁ (cells ++ news) →
      CellsAre (bindC (envOfC qual scope L' f cdv).kindOf binds fun _ => none) (cellsFrom (L' + 1) scope.names []) cells → Below A base (env :: outer) g → K.In g → Top p loose mean mg mb g → (∀ p ∈ news, p.1 < L') →
      wpAny (model prog w) (A.deeper (envOfC qual scope L' f cdv)) (execs body (envOfC qual scope L' f cdv))
        (fun fl s' => R (.ok (.ret (match fl with | .ret v => v | _ => .none))) s')
        (fun e s' => wpAny (model prog w) (A.deeper (envOfC qual scope L' f cdv)) (leaving (envOfC qual scope L' f cdv) e) (fun _ s'' => R (.error e) s'') (fun e' s'' => R (.error e') s'') s')
        { s with heap := h₁, toks := tk })
    (hco : scope.isCoroutine = false) (hgen : scope.isGenerator = false) (hk : scope.kind = .function) : codeAny (model prog w) A (.call (.ref f) args) R s := by
  obtain ⟨FG, BG, st, _⟩ := groundX (R := R) B F N hA hf hke
  have hlim := T.nolimit
  have hcd' := codeRec_of (X₀.keeps F.keep) hcd
  refine codeAny_call_function hroom ((X₀.keeps F.keep) _ _ ho) rfl hco hgen rfl hcd' (hbind _ _ _ _ ?_)
  refine wpAny_newFunctionEnv_cells hk (kindsX hkind _) fun env' he s' x => ?_
  subst he
  refine ⟨(hlim.keeps F.keep).keeps x.toInCall.keep, codeAny_func ?_⟩
  obtain ⟨h₁, tk, rfl, _⟩ := x.done
  have hk₁ := x.toInCall.keep
  obtain ⟨cells, NC, Y⟩ := Cl.news (h₀ := s.heap) (Nat.le_refl _) fun n c hm => ⟨x.cell n c (lookup_of_mem_nodup (cellsFrom_names scope.names 0 (s.heap.objs.size + 1) [] [] rfl ▸ hnd) hm), x.above n c hm⟩
  refine wpAny_mono (h _ s.heap.objs.size h₁ tk cells FG ⟨x.toInCall.ns, fun b o e => hk₁ b o (of_hideAll _ e), Nat.le_of_eq (hideAll_size _ _)⟩ (fun p hp => ?_) Y BG (X₀.keeps st) (T.keeps st) (fun p hp => Heap.lt_size (N p hp).1)) (fun fl s' hl => hl) fun _ _ y => y
  rcases List.mem_append.mp hp with hp | hp
  · refine ⟨(NC p hp).1, (NC p hp).2.1, ?_⟩
    cases q : (hideAll s.heap (news.map (·.1))).get? p.1 with
    | none => rfl
    | some o => have := of_hideAll _ q; rw [(NC p hp).2.2] at this; cases this
  · exact ⟨hk₁ _ _ (N p hp).1, Nat.ne_of_lt (Heap.lt_size (N p hp).1), hideAll_none _ (List.mem_map_of_mem hp)⟩
end

theorem ktx_mem {name : Str} {scope : Scope} {L a b : Addr} {cd : Value} {cl : List (Str × Addr)} {outer : List Env} (hm : b ∈ (envX name scope L a cd cl :: outer).filterMap (·.frame)) : b = L ∨ b ∈ outer.filterMap (·.frame) := by
  obtain ⟨env, he, hf⟩ := List.mem_filterMap.mp hm
  rcases List.mem_cons.mp he with rfl | he
  · exact .inl (Option.some.inj hf).symm
  · exact .inr (List.mem_filterMap.mpr ⟨env, he, hf⟩)
section
variable {A₀ : Around} {base g G B h₅ : Heap} {outer : List Env} {L a : Addr} {m : Str → Option Value} {name : Str} {scope : Scope} {cd : Value} {cl : List (Str × Addr)}
theorem ktx_ground (K : Below A₀ base outer g) (F : Fr g L G m) (hBG : ∀ b o, G.get? b = some o → b ∉ (envX name scope L a cd cl :: outer).filterMap (·.frame) → B.get? b = some o) (hBh : B.StaysIn h₅) (hsm : G.UpToSlots h₅) :
    ∃ g', KtsTurn (outer.filterMap (·.frame)) g g' ∧ Fr g' L h₅ m ∧ Below A₀ base outer g' := by
  obtain ⟨T, S⟩ := kts_turn_at (h := h₅) (fs := outer.filterMap (·.frame)) (g := g)
    (fun b hb => by
      obtain ⟨_, o, ho, _⟩ := K.frames.mem hb
      exact ⟨o, ho⟩)
    (fun b o e nm => hBh b o (hBG b o (F.keep b o e) (fun hm => by
      rcases ktx_mem hm with z | z
      · rw [z, kts_self F] at e
        cases e
      · exact nm z)))
    (fun b o e hm => by
      obtain ⟨_, o', ho', hd⟩ := K.frames.mem hm
      rw [e] at ho'
      cases ho'
      exact hsm b o (F.keep b o e) hd)
  refine ⟨_, T, ⟨hsm.ns F.ns, S, by rw [T.size]; exact F.above⟩, ⟨K.stack, fun b o e => T.other b o (K.stays b o e) (fun hm => by
    rw [(K.frames.mem hm).1] at e
    cases e), K.frames.of_keeps fun b o e _ => ?_⟩⟩
  obtain ⟨sl, hs⟩ := T.up e
  exact ⟨_, hs, rfl⟩
end
section
variable {prog : Program} {w : World} {A₀ : Around} {E : Value → Shared → Prop} {s' : Shared} {base g G : Heap} {outer : List Env} {L a e : Addr} {m : Str → Option Value} {name : Str} {scope : Scope} {cd : Value} {cl : List (Str × Addr)}
  {b₀ : Stmt} {suite : List Stmt} {pos np : Pos} {rest : List ExceptHandler} {Q : Flow → Shared → Prop} {news : List (Addr × Obj)} {KF : Frag}
  {p : Program} {loose : List Str} {mean : ExcName → Option Value} {mg mb : Str → Option Value} {x : Str} {X T' : String}
theorem caught_X (R : RaisedSN base G (envX name scope L a cd cl :: outer) e (.type X) news s'.heap) (F : Fr g L G m) (K : Below A₀ base outer g) (hsm : G.UpToSlots s'.heap) (XB : KF.In base) (TB : Top p loose mean mg mb base)
    (ex : nsIn KF mainGlobals x = some none) (hv : bootBuiltins x = some (.type T')) (hn' : x ≠ "__name__")
    (hexc : isSubtype (.type T') (.type "BaseException") = pure true) (hnt : isSubtype (.type ((Manifest.find? T').elim "type" fun y => y.metatype)) (.type "tuple") = pure false) (hsub : isSubtype (.type X) (.type T') = pure true)
    (k : ∀ h' g', KtsTurn (outer.filterMap (·.frame)) g g' → Fr g' L h' m → News g' L h' news →
      wpAny (model prog w) ((A₀.deeper (envX name scope L a cd cl)).mark (some (.ref e))) (execs (b₀ :: suite) (envX name scope L a cd cl)) Q E { s' with heap := h' })
    (hk : scope.kind = .function := by rfl) (hx : (envX name scope L a cd cl).kindOf x = some .globalImplicit := by rfl) (hd : (x == ("__debug__" : Str)) = false := by decide)
    (hE : PassesOwnAt (model prog w) ((A₀.deeper (envX name scope L a cd cl)).mark (some (.ref e))) (A₀.deeper (envX name scope L a cd cl)) (envX name scope L a cd cl) E := by passes_own) :
    wpAny (model prog w) (A₀.deeper (envX name scope L a cd cl)) (noteFrame (.ref e) (envX name scope L a cd cl))
      (fun _ s₂ => wpAny (model prog w) (A₀.deeper (envX name scope L a cd cl)) (setFlight (.ref e) none) (fun _ s₃ =>
        wpAny (model prog w) (A₀.deeper (envX name scope L a cd cl)) (handleBy (.ref e) (envX name scope L a cd cl) (.ExceptHandler (some (.Name x np)) none (b₀ :: suite) pos :: rest)) Q E s₃) E s₂) E s' := by
  obtain ⟨B, a0, hB, hBG, hl, hfl⟩ := R
  have hL : B.get? L = none := by
    obtain ⟨_, ⟨L', _, hf, hn', _⟩, _⟩ := hfl.2.2.1
    obtain rfl : L = L' := Option.some.inj hf
    exact hn'
  refine wpAny_looks_onW (Around.frames_deeper K.stack) rfl hfl fun h₄ hheld₄ hsm₄ => ?_
  refine wpAny_landsW hheld₄ fun h₅ hheld hsm₅' => ?_
  have hsm₅ := hsm₄.trans hsm₅'
  obtain ⟨g₅, T₅, F₅, K₅⟩ := ktx_ground K F hBG hheld.1 (hsm.trans hsm₅)
  have X₅ : KF.In g₅ := XB.keeps K₅.stays
  have P₅ : TopRead p loose mg mb g₅ := topRead_of (TB.keeps K₅.stays)
  obtain ⟨ob, hob, hobc⟩ := hheld.there
  refine wpAny_handleBy_builtin (X := X) (T := T') (b := true) hexc hnt hsub (nameX_B F₅ X₅ P₅ ex hv hn' ⟨rfl, ⟨ob, hob, hobc⟩, ?_⟩ hk hx hd)
  refine lands_againW hheld fun h₆ hfl₆ hsm₆ => ?_
  obtain ⟨g₆, T₆, F₆, K₆⟩ := ktx_ground K F hBG hfl₆.1 ((hsm.trans hsm₅).trans hsm₆)
  have Nl : News g₆ L h₆ news := fun q hq => ⟨hfl₆.1 _ _ (hl q hq).1, (fun z => by have := (hl q hq).1; rw [z, hL] at this; cases this), T₆.none_ _ (kts_none F.keep (hl q hq).2.1)⟩
  exact wpAny_passesOwnAt hE (k h₆ g₆ T₆ F₆ Nl)
end
/-- back in the caller, whose ground is whole -/
theorem back_fr {h₀ g g' h : Heap} {L L' : Addr} {m m' : Str → Option Value} (FG : Fr h₀ L g m) (T : KtsTurn [L] g g') (F : Fr g' L' h m') : Fr h₀ L h m := by
  have up : ∀ b o, h₀.get? b = some o → h.get? b = some o := fun b o e => F.keep b o (T.other b o (FG.keep b o e) (fun q => by
    rw [List.mem_singleton.mp q, kts_self FG] at e; cases e))
  obtain ⟨oL, es, ep, hL, hLd, hLk, hLf⟩ := FG.ns
  obtain ⟨sl, hs⟩ := T.frame L oL hL (List.mem_singleton.mpr rfl)
  exact ⟨⟨_, es, ep, F.keep _ _ hs, hLd, hLk, hLf⟩, up, FG.above⟩
theorem back_news {h₀ g g' h : Heap} {L L' : Addr} {m : Str → Option Value} {news : List (Addr × Obj)} (FG : Fr h₀ L g m) (T : KtsTurn [L] g g') (N : News g' L' h news) : News h₀ L h news := fun p hp => by
  refine ⟨(N p hp).1, fun q => ?_, ?_⟩
  · obtain ⟨oL, es, ep, hL, _⟩ := FG.ns
    obtain ⟨sl, hs⟩ := T.frame L oL hL (List.mem_singleton.mpr rfl)
    have := (N p hp).2.2
    rw [q, hs] at this; cases this
  · cases q : h₀.get? p.1 with
    | none => rfl
    | some o =>
      obtain ⟨sl, hs⟩ := T.up (FG.keep _ _ q)
      have := (N p hp).2.2
      rw [hs] at this; cases this
end Mine
end
section
theorem Mine.freshG2 : True := by
  w_top off
  exact True.intro
set_option maxRecDepth 100000
namespace Mine

section
variable {prog : Program} {w : World} {A : Around} {E : Value → Shared → Prop} {s : Shared} {h₀ : Heap} {L : Addr} {news rest : List (Addr × Obj)}
theorem hp_append {m : Str → Option Value} {news' : List (Addr × Obj)} {D a : Addr} {n : Nat} {es : List Addr} {Q : Value → Shared → Prop} (F : Fr h₀ L s.heap m) (N : News h₀ L s.heap news) (U : Upd D (listOf (es.map Value.ref).toArray n) (listOf ((es ++ [a]).map Value.ref).toArray (n + 1)) news news') (hz : es.length < 1000000)
    (h : ∀ h', Fr h₀ L h' m → News h₀ L h' news' → Q .none { s with heap := h' }) : wpAny (model prog w) A (call (.builtin "list.append") [.ref D, .ref a]) Q E s := by
  refine lst_append F N (vs := es.map Value.ref) (x := .ref a) (n := n) ?_ (by rw [List.length_map]; exact hz) h
  rw [List.map_append] at U
  exact U
theorem ne_nil {a b : Addr} {n k : Nat} {Q : Value → Shared → Prop} (N : News h₀ L s.heap news) (h1 : (a, listOf #[] n) ∈ news) (h2 : (b, listOf #[] k) ∈ news) (hu : A.units + 64 < cLine) (h : Q (.bool false) s) : wpAny (model prog w) A (compareOp .NotEq (.ref a) (.ref b)) Q E s :=
  ne_intsK (vs := []) (us := []) (ns := []) (ms := []) (News.isList N h1) .nil (News.isList N h2) .nil hu h
theorem lt_entF {ent : Addr → Ent} {a b : Addr} {Q : Value → Shared → Prop} (N : News h₀ L s.heap news) (hsub : ∀ q ∈ rest, q ∈ news) (ha : ∃ t u, (a, tupO (ent a) t u) ∈ rest) (hb : ∃ t u, (b, tupO (ent b) t u) ∈ rest) (hu : A.units + 8 < cLine) (hf : elt (ent a) (ent b) = false)
    (h : Q (.bool false) s) : wpAny (model prog w) A (compareOp .Lt (.ref a) (.ref b)) Q E s := lt_ent N hsub ha hb hu (by rw [hf]; exact h)
end
section
variable {prog : Program} {w : World} {A : Around} {s : Shared} {h₀ : Heap} {L : Addr} {m : Str → Option Value} {env : Env}
theorem comp_invT {ct elt : PySem.Expr} {x : Str} {scope : Scope} {cl : List (Str × Addr)} {S : List (Addr × Obj) → Prop} {P : Nat → Value → Prop} {Fin : List Value → List (Addr × Obj) → Prop} {n : Nat}
    (J : Nat → List Value → List (Addr × Obj) → Prop)
    (turn : ∀ i ys news v I oI C oC D m₂ h tk (E' : Value → Shared → Prop), i < n → J i ys news → P i v → LCg.NsObj oC m₂ → m₂ x = some v → Fr h₀ L h m → News h₀ L h ((I, oI) :: (C, oC) :: (D, LCg.lst ys) :: news) → LCg.Off3 I C D news → ((@Ne Nat I C) ∧ (@Ne Nat I D) ∧ (@Ne Nat C D)) →
      wpAny (model prog w) A (isTrue ct (compEnvC scope cl C env) (eval ct (compEnvC scope cl C env))) (fun ok s' => if ok = true then
        wpAny (model prog w) A (eval elt (compEnvC scope cl C env)) (LCg.CompEnd h₀ L m { s with heap := h, toks := tk } I oI C oC D (LCg.lst ys) S (fun y news' => J (i + 1) (ys ++ [y]) news')) E' s'
        else LCg.CompEnd h₀ L m { s with heap := h, toks := tk } I oI C oC D (LCg.lst ys) S (fun _ news' => J (i + 1) ys news') Value.none s') E' { s with heap := h, toks := tk })
    (fin : ∀ ys news, J n ys news → Fin ys news) : ∀ k i ys news, i + k = n → J i ys news → LCt.CompRestT prog w A h₀ L m env ct elt x scope cl s S P Fin k i ys news := by
  intro k
  induction k with
  | zero => intro i ys news hi hJ; exact fin ys news (by rw [← hi]; exact hJ)
  | succ k ih =>
    intro i ys news hi hJ
    refine LCt.CompRestT.succ ?_
    intro v I oI C oC D m₂ h tk E' hP hC hx F N off ne
    refine wpAny_mono (turn i ys news v I oI C oC D m₂ h tk E' (by omega) hJ hP hC hx F N off ne) (fun ok s' q => ?_) fun _ _ e => e
    cases ok with
    | true =>
      simp only [if_true] at q ⊢
      refine wpAny_mono q (fun y s₂ q => ?_) fun _ _ e => e
      obtain ⟨h', tk', news', e, F', N', off', hS', hJ'⟩ := q
      exact ⟨h', tk', news', e, F', N', off', hS', ih (i + 1) (ys ++ [y]) news' (by omega) hJ'⟩
    | false =>
      simp only [Bool.false_eq_true, if_false] at q ⊢
      obtain ⟨h', tk', news', e, F', N', off', hS', hJ'⟩ := q
      exact ⟨h', tk', news', e, F', N', off', hS', ih (i + 1) ys news' (by omega) hJ'⟩
end

theorem range1Facts : ∀ k : Fin 64, 1 ≤ k.val → Builtin.Range.small 1 (k.val : Int) 1 = true ∧ Builtin.Range.rangeSize 1 (k.val : Int) 1 = ((k.val - 1 : Nat) : Int) := by decide
/-- each later one is not less than an earlier one -/
def SortedE (ent : Addr → Ent) : List Addr → Prop
  | [] => True
  | x :: xs => (∀ y ∈ xs, elt (ent y) (ent x) = false) ∧ SortedE ent xs
theorem SortedE.snoc {ent : Addr → Ent} {x : Addr} : ∀ {xs : List Addr}, SortedE ent xs → (∀ y ∈ xs, elt (ent x) (ent y) = false) → SortedE ent (xs ++ [x])
  | [], _, _ => ⟨fun _ h => (nomatch h), trivial⟩
  | y :: ys, ⟨h1, h2⟩, h => ⟨fun z hz => by
      rcases List.mem_append.mp hz with hz | hz
      · exact h1 z hz
      · rw [List.mem_singleton.mp hz]; exact h y (.head _), h2.snoc fun z hz => h z (.tail _ hz)⟩
/-- the root of a heap is not more than any other -/
theorem heap_root {lt : Nat → Nat → Bool} (o : LtOk lt) {as : List Nat} (h : HeapFrom lt as 0) : ∀ k, k < as.length → lt (as.getD k 0) (as.getD 0 0) = false := by
  intro k
  induction k using Nat.strongRecOn with
  | ind k ih =>
    intro hk
    by_cases c : k = 0
    · subst c; exact o.irr _
    · exact o.ntrans _ _ _ (h k (by omega) hk (Nat.zero_le _)) (ih ((k - 1) / 2) (by omega) (by omega))
theorem heap_root_mem {lt : Nat → Nat → Bool} (o : LtOk lt) {as : List Nat} (h : HeapFrom lt as 0) {a : Nat} (ha : a ∈ as) : lt a (as.getD 0 0) = false := by
  obtain ⟨k, hk, e⟩ := List.getElem_of_mem ha
  have := heap_root o h k hk
  rw [List.getD_eq_getElem?_getD, List.getElem?_eq_getElem hk, e] at this
  exact this

structure ESt where
  hs : List Addr
  es : List Addr
  n : Nat
  ne : Nat
structure EInv (ent : Addr → Ent) (as : List Addr) (i : Nat) (x : ESt) : Prop where
  len : x.es.length = i
  perm : (x.es ++ x.hs).Perm as
  heap : HeapFrom (fun a b => elt (ent a) (ent b)) x.hs 0
  sorted : SortedE ent x.es
  below : ∀ e ∈ x.es, ∀ a ∈ x.hs, elt (ent a) (ent e) = false
theorem EInv.step {ent : Addr → Ent} {as : List Addr} {i : Nat} {hs es hs' : List Addr} {n ne n' ne' : Nat} (o : LtOk fun a b => elt (ent a) (ent b)) (h : EInv ent as i ⟨hs, es, n, ne⟩) (hne : 0 < hs.length) (hp : (hs.getD 0 0 :: hs').Perm hs)
    (hh : HeapFrom (fun a b => elt (ent a) (ent b)) hs' 0) : EInv ent as (i + 1) ⟨hs', es ++ [hs.getD 0 0], n', ne'⟩ := by
  have hroot : hs.getD 0 0 ∈ hs := hp.mem_iff.mp (.head _)
  have hsub : ∀ a ∈ hs', a ∈ hs := fun a ha => hp.mem_iff.mp (.tail _ ha)
  refine ⟨by simp [h.len], ?_, hh, h.sorted.snoc fun y hy => h.below y hy _ hroot, ?_⟩
  · dsimp only
    rw [List.append_assoc]
    exact (List.Perm.append_left es hp).trans h.perm
  · dsimp only
    intro e he a ha
    rcases List.mem_append.mp he with he | he
    · exact h.below e he a (hsub a ha)
    · rw [List.mem_singleton.mp he]
      exact heap_root_mem o h.heap (hsub a ha)

local macro_rules | `(tactic| walk_at "call builtin:len") => `(tactic| (k_here; (with_reducible show wpAny _ _ (call (Value.builtin "len") [Value.ref _]) _ _ _); k_dflt (refine' hp_len ?k1 ?k2 ?k3 ?_; (case k1 => k_asm); (case k2 => k_mem); (case k3 => omega); k_whole)))
local macro_rules | `(tactic| k_all) => `(tactic| first | assumption | exact of_allLt (by assumption))
local macro_rules | `(tactic| walk_at "exec For") => `(tactic| (k_here; (rename Fr _ _ _ _ => lF'); (with_unfolding_all refine' For_invVF lF' ?k1 ?k2 ?_; (case k1 => exact rfl); (case k2 => exact rfl); k_whole)))
local macro_rules | `(tactic| walk_at "subscriptTail Name Name ref int") => `(tactic| (k_here; (with_reducible show wpAny _ _ (subscriptTail _ _ (Value.ref _) (Value.int _ _)) _ _ _); k_dflt (refine' hp_sub ?k1 ?k2 ?k4 ?k5 ?k6 ?_ ?k7; (case k1 => k_asm); (case k2 => k_mem); (case k4 => omega); (case k5 => omega); (case k6 => omega); (case k7 => with_unfolding_all rfl); k_whole)))
local macro_rules | `(tactic| walk_at "subscriptTail Name BinOp ref int") => `(tactic| (k_here; (with_reducible show wpAny _ _ (subscriptTail _ _ (Value.ref _) (Value.int _ _)) _ _ _); k_dflt (refine' hp_sub ?k1 ?k2 ?k4 ?k5 ?k6 ?_ ?k7; (case k1 => k_asm); (case k2 => k_mem); (case k4 => omega); (case k5 => omega); (case k6 => omega); (case k7 => with_unfolding_all rfl); k_whole)))
local macro_rules | `(tactic| walk_at "binaryOp FloorDiv int int") => `(tactic| (k_here; k_dflt (refine' divLit ?k1 ?k2 ?_; (case k1 => first | decide | omega); (case k2 => first | decide | omega); k_whole)))

local macro_rules | `(tactic| walk_at "call builtin:list.append") => `(tactic| (k_here; (with_reducible show wpAny _ _ (call (Value.builtin _) [Value.ref _, Value.ref _]) _ _ _); k_dflt (refine' hp_append ?k1 ?k2 ?k3 ?z ?_; (case k1 => k_asm); (case k2 => k_asm); (case k3 => k_upd); (case z => omega); k_whole); intro h' F' N'; (try dsimp only at N')))
set_option maxHeartbeats 4000000 in
theorem emptied_claim (w : World) (l : Addr) (as : List Addr) (n : Nat) (tc : Tok) (rest : List (Addr × Obj)) (ent : Addr → Ent) (hE : ∀ a ∈ as, ∃ t u, (a, tupO (ent a) t u) ∈ rest) (hne : ∀ q ∈ rest, q.1 ≠ l) (hlen : as.length < 64) (o : LtOk fun a b => elt (ent a) (ent b)) (hh : HeapFrom (fun a b => elt (ent a) (ent b)) as 0) :
  ∀ (mean : ExcName → Option Value) (mg mb : Str → Option Value) (dp un : Nat) (gd : Option (List Code)) (cn : Str) (cs : Scope) (a : Addr) (ccd : Value) (cl : List (Str × Addr)) (A₀ : Around) (h₀ : Heap) (L : Addr) (m : Str → Option Value) (s : Shared) (Q E : Value → Shared → Prop),
    Below A₀ h₀ [] h₀ → Fr h₀ L s.heap m → (hd.heap_39 w.params).In h₀ → News h₀ L s.heap ((l, listOf (as.map Value.ref).toArray n) :: rest) → Top hd.view_39 (looseW hd.view_39 [Str.ofString "b2a_base64", Str.ofString "b64encode"]) mean mg mb h₀ → cs.kind = .function →
    dp + 20 < recursionLimit → un + 200 < cLine →
    (∀ D es n' h' tk', es.Perm as → SortedE ent es → Fr h₀ L h' m → News h₀ L h' ((D, listOf (es.map Value.ref).toArray n') :: rest) → (∀ q ∈ rest, q.1 ≠ D) → Q (.ref D) { s with heap := h', toks := tk' }) →
    wpAny (model PySem.Challenge.rw_mq0105_01.row.prog w) (ktrTop dp un gd cn cs L a ccd cl []) (call (.ref 104) [.ref l, .int as.length tc]) Q E s := by
  k_fill
  intro mean mg mb dp un gd cn cs a ccd cl A₀ h₀ L m s Q E B F X N T hk hd hu hret
  refine wpAny_call ?_
  k_dflt (refine' code_defR ?k1 ?k2 ?k3 ?k4 ?k5 ?kA ?kF ?kK ?k6 ?k7 ?k8 ?k9 ?kB ?kD ?_ ?c2 ?c3 ?c4; (case kA => exact rfl); (case kF => exact rfl); (case kK => first | exact rfl | assumption); (case k1 => k_asm); (case k2 => k_asm); (case k3 => k_asm); (case k4 => k_asm); (case k5 => k_asm); (case k6 => k_is); (case k7 => k_is); (case k8 => ktr_room); (case k9 => first | exact BindsTo.of_eq rfl | exact binds_K (by k_in) rfl (by k_is) rfl rfl rfl); (case kB => exact rfl); (case kD => decide +kernel); (case c2 => exact rfl); (case c3 => exact rfl); (case c4 => exact rfl); k_whole; intro g' L' h' tk' cells' FG' F' N' Y' B' X' T' l1; (try dsimp only); (try k_fold))
  k_cells Y'
  rename_i oH d1
  dsimp only [List.cons_append, List.nil_append] at N'
  replace d1 : oH.data = .cell (some (.ref l)) := d1
  obtain ⟨u0, F2⟩ := frCut [(Str.ofString "count", .v (.int as.length tc))] F' (by (repeat' (first | exact True.intro | refine And.intro ⟨_, rfl⟩ ?_ | refine And.intro rfl ?_)))
  clear F'
  have hlL := ltN (l1 _ (.head _)); dsimp only at hlL
  have hr1 : ∀ p ∈ rest, p.1 ≠ L' + 1 := fun p hp => Nat.ne_of_lt (Nat.lt_succ_of_lt (l1 p (.tail _ hp)))
  clear l1
  (repeat' ((fail_if_success (with_reducible show wpAny _ _ (pyIter _) _ _ _)); (fail_if_success (with_reducible show wpAny _ _ (PySem.call (Value.ref _) _) _ _ _)); (fail_if_success (with_reducible show wpAny _ _ (PySem.eval (Expr.ListComp _ _ _ _) _) _ _ _)); (first | (k_unfold; (try dsimp only)) | (k_end; wrow_close) | walk1 | (dsimp only; walk1) | (leave1; walk_say "STEP leave1"; try dsimp only) | fail "no step")))
  rename_i D0 h5 lD h4 F4 N4 h3 tk3 t1 u1 v1 hR FR NR hK
  clear F4 N4
  obtain ⟨q1, q2, q3⟩ := lD
  have q1 := ltN q1
  have q2 := ltN q2
  have hr3 : ∀ p ∈ rest, p.1 ≠ D0 := of_allLt q3
  refine for_rangeK (σ := ESt) (b := as.length) (fun x => [(Str.ofString "entries", .v (.ref D0))]) (fun x => (D0, listOf (x.es.map Value.ref).toArray x.ne) :: (L' + 1, oH) :: (l, listOf (x.hs.map Value.ref).toArray x.n) :: rest)
    (fun i x => EInv ent as i x) ⟨as, [], n, 0⟩ rfl hR (Nat.lt_trans hlen (by decide)) FR NR (fun _ => rfl) ?hm (fun _ h => h) ⟨rfl, .refl _, hh, trivial, fun _ h => nomatch h⟩ ?turn ?done
  case hm => (repeat' (first | exact True.intro | refine And.intro ⟨_, rfl⟩ ?_ | refine And.intro rfl ?_))
  case turn =>
    rintro i tv ⟨hs, es, nn, ne⟩ u h tk I oI hi hI hv F3 N3
    dsimp only [List.cons_append] at F3 N3
    have hpl : es.length + hs.length = as.length := by have := hv.perm.length_eq; simpa using this
    have hel : es.length = i := hv.len
    have hhp : HeapFrom (fun a b => elt (ent a) (ent b)) hs 0 := hv.heap
    have hEh : ∀ a ∈ hs, ∃ t u, (a, tupO (ent a) t u) ∈ rest := fun a ha => hE a (hv.perm.mem_iff.mp (List.mem_append.mpr (.inr ha)))
    have hrI1 : ∀ q ∈ rest ++ [(I, oI)], q.1 ≠ L' + 1 := ne_app hr1 (hI (L' + 1, _) (.tail _ (.head _)))
    have hrI2 : ∀ q ∈ rest ++ [(I, oI)], q.1 ≠ D0 := ne_app hr3 (hI (D0, _) (.head _))
    have hrI3 : ∀ q ∈ rest ++ [(I, oI)], q.1 ≠ l := ne_app hne (hI (l, _) (.tail _ (.tail _ (.head _))))
    (repeat' ((fail_if_success (with_reducible show wpAny _ _ (pyIter _) _ _ _)); (fail_if_success (with_reducible show wpAny _ _ (PySem.call (Value.ref _) _) _ _ _)); (fail_if_success (with_reducible show wpAny _ _ (PySem.eval (Expr.ListComp _ _ _ _) _) _ _ _)); (fail_if_success (with_reducible show KEnd _ _ _ _ _ _ _)); (first | (k_unfold; (try dsimp only)) | (k_end; wrow_close) | walk1 | (dsimp only; walk1) | (leave1; walk_say "STEP leave1"; try dsimp only) | fail "no step")))
    k_dflt (refine LCt.ListComp_T (F₀ := by k_asm) (by with_unfolding_all rfl) (by decide) (by rfl) (by decide) (by rfl) ?_)
    (repeat' ((fail_if_success (with_reducible show LCt.CompSrcT _ _ _ _ _ _ _ _ _ _ _ _ _ _ _)); (first | (k_unfold; (try dsimp only)) | (k_end; wrow_close) | walk1 | (dsimp only; walk1) | (leave1; walk_say "STEP leave1"; try dsimp only) | fail "no step")))
    rename_i h6 tk6 t6 u6 v6 hR6 FR6 NR6 hK6
    obtain ⟨hsm, hsz⟩ := range1Facts ⟨hs.length, by omega⟩ (by show 1 ≤ hs.length; omega)
    dsimp only at hsm hsz
    refine LCt.CompSrcT.range (n := hs.length - 1) rfl FR6 NR6 hR6 hsm hsz (by rw [PySem.sizeLine_eq]; omega) ?_
    intro gg
    refine comp_invT (n := hs.length - 1) (fun _ ys news => ys = [] ∧ news = (D0, listOf (es.map Value.ref).toArray ne) :: (L' + 1, oH) :: (l, listOf (hs.map Value.ref).toArray nn) :: (rest ++ [(I, oI)])) ?turn2 ?fin2 _ 0 [] _ (by omega) ⟨rfl, rfl⟩
    case turn2 =>
      rintro j ys news v I' oI' C oC D m₂ h8 tk8 E8 hj ⟨rfl, rfl⟩ ⟨tv8, rfl⟩ hC hx F8 N8 off8 ne8
      obtain ⟨of1, of2, of3⟩ := off3_ne off8
      have hff : elt (ent (hs.getD (1 + (j : Int)).toNat 0)) (ent (hs.getD ((1 + (j : Int) - 1) / 2).toNat 0)) = false := by
        have := hhp (j + 1) (by omega) (by omega) (Nat.zero_le _)
        rw [show (1 + (j : Int)).toNat = j + 1 by omega, show ((1 + (j : Int) - 1) / 2).toNat = (j + 1 - 1) / 2 by omega]
        exact this
      have hg1 := hE_get hEh (i := (1 + (j : Int)).toNat) (by omega)
      have hg2 := hE_get hEh (i := ((1 + (j : Int) - 1) / 2).toNat) (by omega)
      have hsub : ∀ q ∈ rest, q ∈ (I', oI') :: (C, oC) :: (D, LCg.lst []) :: (D0, listOf (es.map Value.ref).toArray ne) :: (L' + 1, oH) :: (l, listOf (hs.map Value.ref).toArray nn) :: (rest ++ [(I, oI)]) := fun q hq => .tail _ (.tail _ (.tail _ (.tail _ (.tail _ (.tail _ (List.mem_append.mpr (.inl hq)))))))
      (repeat' ((fail_if_success (with_reducible show LCg.CompEnd _ _ _ _ _ _ _ _ _ _ _ _ _ _)); (fail_if_success (with_reducible show wpAny _ _ (compareOp CmpOp.Lt (Value.ref _) (Value.ref _)) _ _ _)); (first | (k_unfold; (try dsimp only)) | (k_end; wrow_close) | walk1 | (dsimp only; walk1) | (leave1; walk_say "STEP leave1"; try dsimp only) | fail "no step")))
      refine lt_entF N8 hsub hg1 hg2 (by ktr_units) hff ?_
      (repeat' ((fail_if_success (with_reducible show LCg.CompEnd _ _ _ _ _ _ _ _ _ _ _ _ _ _)); (fail_if_success (with_reducible show wpAny _ _ (compareOp CmpOp.Lt (Value.ref _) (Value.ref _)) _ _ _)); (first | (k_unfold; (try dsimp only)) | (k_end; wrow_close) | walk1 | (dsimp only; walk1) | (leave1; walk_say "STEP leave1"; try dsimp only) | fail "no step")))
      exact LCg.CompEnd.intro (by k_asm) (by k_asm) _ (fun _ h => h) off8 trivial ⟨rfl, rfl⟩
    case fin2 =>
      rintro ys news ⟨rfl, rfl⟩
      intro D h9 tk9 F9 N9 off9
      have hoff9 := off1_ne off9
      dsimp only
      (repeat' ((fail_if_success (with_reducible show wpAny _ _ (compareOp CmpOp.NotEq (Value.ref _) (Value.ref _)) _ _ _)); (fail_if_success (with_reducible show wpAny _ _ (PySem.call (Value.ref _) _) _ _ _)); (first | (k_unfold; (try dsimp only)) | (k_end; wrow_close) | walk1 | (dsimp only; walk1) | (leave1; walk_say "STEP leave1"; try dsimp only) | fail "no step")))
      rename_i D7 h7 F7 N7 l7
      refine ne_nil N7 (.tail _ (.head _)) (.head _) (by ktr_units) ?_
      (repeat' ((fail_if_success (with_reducible show wpAny _ _ (compareOp CmpOp.NotEq (Value.ref _) (Value.ref _)) _ _ _)); (fail_if_success (with_reducible show wpAny _ _ (PySem.call (Value.ref _) _) _ _ _)); (first | (k_unfold; (try dsimp only)) | (k_end; wrow_close) | walk1 | (dsimp only; walk1) | (leave1; walk_say "STEP leave1"; try dsimp only) | fail "no step")))
      obtain ⟨init, z, rfl⟩ : ∃ init z, hs = init ++ [z] := by
        have hn0 : hs ≠ [] := fun q => by rw [q] at hpl; simp only [List.length_nil] at hpl; omega
        exact ⟨hs.dropLast, hs.getLast hn0, (List.dropLast_concat_getLast hn0).symm⟩
      rw [List.length_append, List.length_singleton] at hpl
      have hrest : ∀ q ∈ (D0, listOf (es.map Value.ref).toArray ne) :: (L' + 1, oH) :: (rest ++ [(I, oI)]), q.1 ≠ l := by
        intro q hq
        rcases List.mem_cons.mp hq with rfl | hq
        · exact Nat.ne_of_gt q2
        rcases List.mem_cons.mp hq with rfl | hq
        · exact Nat.ne_of_gt (Nat.lt_succ_of_lt hlL)
        · exact hrI3 q hq
      (refine' Claim.use (heappop_claim w l init z nn ((D0, listOf (es.map Value.ref).toArray ne) :: (L' + 1, oH) :: (rest ++ [(I, oI)])) ent (fun a ha => by obtain ⟨t, u, e⟩ := hEh a ha; exact ⟨t, u, .tail _ (.tail _ (List.mem_append.mpr (.inl e)))⟩) hrest (by omega) o hhp) ?k1 ?k2 ?k3 ?k4 ?ks ?k5 ?kK ?kd ?ku ?ret; (case k1 => k_asm); (case k2 => k_asm); (case k3 => k_asm); (case k4 => k_asm); (case k5 => k_asm); (case kK => first | exact rfl | assumption); (case kd => ktr_room); (case ku => ktr_units))
      case ks =>
        intro q hq
        rcases List.mem_cons.mp hq with rfl | hq
        · exact .tail _ (.tail _ (.tail _ (.tail _ (.head _))))
        rcases List.mem_cons.mp hq with rfl | hq
        · exact .tail _ (.tail _ (.head _))
        rcases List.mem_cons.mp hq with rfl | hq
        · exact .tail _ (.tail _ (.tail _ (.head _)))
        · exact .tail _ (.tail _ (.tail _ (.tail _ (.tail _ hq))))
      case ret =>
        rintro r news' h' tk' F9 N9 ⟨rfl, as', hp', hh', rfl⟩
        have hstep := hv.step (n' := nn + 1) (ne' := ne + 1) o (by simp) hp' hh'
        have hDl : @Ne Nat l D0 := Nat.ne_of_lt q2
        have hDL : @Ne Nat (L' + 1) D0 := Nat.ne_of_lt q1
        dsimp only
        (repeat' ((fail_if_success (with_reducible show wpAny _ _ (compareOp CmpOp.NotEq (Value.ref _) (Value.ref _)) _ _ _)); (fail_if_success (with_reducible show wpAny _ _ (PySem.call (Value.ref _) _) _ _ _)); (fail_if_success (with_reducible show KEnd _ _ _ _ _ _ _)); (first | (k_unfold; (try dsimp only)) | (k_end; wrow_close) | walk1 | (dsimp only; walk1) | (leave1; walk_say "STEP leave1"; try dsimp only) | fail "no step")))
        exact KEnd.intro (⟨as', es ++ [(init ++ [z]).getD 0 0], nn + 1, ne + 1⟩ : ESt) (by k_asm) (by k_asm) (by (repeat' (first | exact True.intro | refine And.intro ⟨_, rfl⟩ ?_ | refine And.intro rfl ?_))) (fun q hq => by
          rcases List.mem_cons.mp hq with rfl | hq
          · exact .tail _ (.head _)
          rcases List.mem_cons.mp hq with rfl | hq
          · exact .tail _ (.tail _ (.head _))
          rcases List.mem_cons.mp hq with rfl | hq
          · exact .head _
          · exact .tail _ (.tail _ (.tail _ hq))) hstep
  case done =>
    rintro ⟨hs, es, nn, ne⟩ u h tk hv F3 N3
    dsimp only at F3 N3
    have hpl : es.length + hs.length = as.length := by have := hv.perm.length_eq; simpa using this
    have hel : es.length = as.length := hv.len
    have hh0 : hs = [] := List.eq_nil_of_length_eq_zero (by omega)
    subst hh0
    (repeat' ((fail_if_success (with_reducible show wpAny _ _ (pyIter _) _ _ _)); (fail_if_success (with_reducible show wpAny _ _ (PySem.call (Value.ref _) _) _ _ _)); (fail_if_success (with_reducible show wpAny _ _ (PySem.eval (Expr.ListComp _ _ _ _) _) _ _ _)); (first | (k_unfold; (try dsimp only)) | (k_end; wrow_close) | walk1 | (dsimp only; walk1) | (leave1; walk_say "STEP leave1"; try dsimp only) | fail "no step")))
    refine wpAny_Try_except ?_
    (repeat' ((fail_if_success (with_reducible show wpAny _ _ (PySem.call (Value.ref _) _) _ _ _)); (fail_if_success (with_reducible show wpAny _ _ (noteFrame _ _) _ _ _)); (first | (k_unfold; (try dsimp only)) | (k_end; wrow_close) | walk1 | (dsimp only; walk1) | (leave1; walk_say "STEP leave1"; try dsimp only) | fail "no step")))
    refine heappop_none w l nn ((D0, listOf (es.map Value.ref).toArray ne) :: (L' + 1, oH) :: rest) _ _ _ _ _ _ _ _ _ _ _ _ _ _ _ _ _ _ _ _ (by k_asm) (by k_asm) (by k_asm) (fun q hq => N3 q (by
      rcases List.mem_cons.mp hq with rfl | hq
      · exact .tail _ (.tail _ (.head _))
      rcases List.mem_cons.mp hq with rfl | hq
      · exact .head _
      rcases List.mem_cons.mp hq with rfl | hq
      · exact .tail _ (.head _)
      · exact .tail _ (.tail _ (.tail _ hq)))) (by k_asm) (by exact rfl) (by ktr_room) (by ktr_units) ?_
    intro G h9 tk9 e9 FG9 R9 U9
    k_dflt (refine' caught_X (T' := "IndexError") R9 FG9 ?K U9 X T ?ex PyProof.Rows.Boot.«IndexError» ?hn PySem.F.isExc_IndexError PySem.F.notTuple_IndexError ?hs ?_ ?a ?b ?c ?d; (case K => k_asm); (case hs => kts_sub); (case ex => k_is); (case hn => decide); (case a => exact rfl); (case b => exact rfl); (case c => decide); (case d => passes_own); k_whole)
    intro h6 g6 T6 F6 N6
    dsimp only
    clear F3 N3 FR NR FG9
    have hperm : es.Perm as := by have := hv.perm; dsimp only at this; rw [List.append_nil] at this; exact this
    replace T6 : KtsTurn [L] g' g6 := T6
    (repeat' ((fail_if_success (with_reducible show wpAny _ _ (PySem.call (Value.ref _) _) _ _ _)); (first | (k_unfold; (try dsimp only)) | (k_end; wrow_close) | walk1 | (dsimp only; walk1) | (leave1; walk_say "STEP leave1"; try dsimp only) | fail "no step")))
    exact hret D0 es ne _ _ hperm hv.sorted (back_fr FG' T6 F6) (back_news FG' T6 fun q hq => N6 q (by
      rcases List.mem_cons.mp hq with rfl | hq
      · exact .tail _ (.head _)
      · exact .tail _ (.tail _ (.tail _ hq)))) hr3
end Mine
end
section
set_option maxRecDepth 100000
namespace Mine
open PySem.Builtin.Bytes (order)

theorem u8_lt {x y : UInt8} : x < y ↔ x.toNat < y.toNat := UInt8.lt_iff_toNat_lt
theorem u8_eq {x y : UInt8} (h : x.toNat = y.toNat) : x = y := UInt8.toNat.inj h
theorem ord_cons (x y : UInt8) (xs ys : List UInt8) : order (x :: xs) (y :: ys) = if x = y then order xs ys else if x.toNat < y.toNat then .lt else .gt := by
  show (if x < y then Ordering.lt else if x > y then Ordering.gt else order xs ys) = _
  by_cases e : x = y
  · subst e
    rw [if_pos rfl, if_neg (by rw [u8_lt]; omega), if_neg (by show ¬ x < x; rw [u8_lt]; omega)]
  · rw [if_neg e]
    by_cases c : x.toNat < y.toNat
    · rw [if_pos (u8_lt.mpr c), if_pos c]
    · have c2 : y.toNat < x.toNat := by
        rcases Nat.lt_or_ge y.toNat x.toNat with h | h
        · exact h
        · exact absurd (u8_eq (by omega)) e
      rw [if_neg (fun h => c (u8_lt.mp h)), if_pos (show y < x from u8_lt.mpr c2), if_neg c]
theorem ord_irr : ∀ x : List UInt8, order x x = .eq
  | [] => rfl
  | x :: xs => by rw [ord_cons, if_pos rfl]; exact ord_irr xs
theorem ord_tot : ∀ x y : List UInt8, x ≠ y → order x y = .lt ∨ order y x = .lt
  | [], [], h => absurd rfl h
  | [], _ :: _, _ => .inl rfl
  | _ :: _, [], _ => .inr rfl
  | x :: xs, y :: ys, h => by
    rw [ord_cons, ord_cons]
    by_cases e : x = y
    · subst e
      rw [if_pos rfl, if_pos rfl]
      exact ord_tot xs ys fun q => h (by rw [q])
    · rw [if_neg e, if_neg (Ne.symm e)]
      by_cases c : x.toNat < y.toNat
      · exact .inl (if_pos c)
      · refine .inr (if_pos ?_)
        rcases Nat.lt_or_ge y.toNat x.toNat with h | h
        · exact h
        · exact absurd (u8_eq (by omega)) e
theorem ord_trans : ∀ x y z : List UInt8, order x y = .lt → order y z = .lt → order x z = .lt
  | [], [], _, h, _ => by cases h
  | [], _ :: _, [], _, h => by cases h
  | [], _ :: _, _ :: _, _, _ => rfl
  | _ :: _, [], _, h, _ => by cases h
  | _ :: _, _ :: _, [], _, h => by cases h
  | x :: xs, y :: ys, z :: zs, h1, h2 => by
    rw [ord_cons] at h1 h2 ⊢
    by_cases e1 : x = y
    · subst e1
      rw [if_pos rfl] at h1
      by_cases e2 : x = z
      · subst e2
        rw [if_pos rfl] at h2 ⊢
        exact ord_trans xs ys zs h1 h2
      · rw [if_neg e2] at h2 ⊢; exact h2
    · rw [if_neg e1] at h1
      by_cases e2 : y = z
      · subst e2
        rw [if_neg e1]; exact h1
      · rw [if_neg e2] at h2
        have c1 : x.toNat < y.toNat := by
          by_cases c : x.toNat < y.toNat
          · exact c
          · rw [if_neg c] at h1; cases h1
        have c2 : y.toNat < z.toNat := by
          by_cases c : y.toNat < z.toNat
          · exact c
          · rw [if_neg c] at h2; cases h2
        have e3 : x ≠ z := by rintro rfl; omega
        rw [if_neg e3, if_pos (by omega)]
theorem elt_irr (x : Ent) : elt x x = false := by simp [elt]
theorem elt_tot {x y : Ent} (h : x ≠ y) (hf : elt x y = false) : elt y x = true := by
  unfold elt at *
  by_cases e : x.1 = y.1
  · rw [if_pos e] at hf
    rw [if_pos e.symm]
    have : x.2 ≠ y.2 := fun q => h (Prod.ext e q)
    simp only [decide_eq_false_iff_not, decide_eq_true_eq] at hf ⊢; omega
  · rw [if_neg e] at hf
    rw [if_neg (Ne.symm e)]
    rcases ord_tot _ _ e with q | q
    · rw [q] at hf; cases hf
    · rw [q]; rfl
theorem ord_bt {x y : List UInt8} (h : (order x y == .lt) = true) : order x y = .lt := by simpa using h
theorem elt_trans {x y z : Ent} (h1 : elt x y = true) (h2 : elt y z = true) : elt x z = true := by
  unfold elt at *
  by_cases e1 : x.1 = y.1
  · rw [if_pos e1] at h1
    by_cases e2 : y.1 = z.1
    · rw [if_pos e2] at h2
      rw [if_pos (e1.trans e2)]
      simp only [decide_eq_true_eq] at h1 h2 ⊢; omega
    · rw [if_neg e2] at h2
      rw [if_neg (e1 ▸ e2), e1]; exact h2
  · rw [if_neg e1] at h1
    by_cases e2 : y.1 = z.1
    · rw [if_neg (e2 ▸ e1), ← e2]; exact h1
    · rw [if_neg e2] at h2
      have h3 := ord_trans _ _ _ (ord_bt h1) (ord_bt h2)
      have e3 : x.1 ≠ z.1 := by
        intro q
        rw [q, ord_irr] at h3; cases h3
      rw [if_neg e3, h3]; rfl
theorem elt_ok (ent : Addr → Ent) : LtOk fun a b => elt (ent a) (ent b) where
  irr a := elt_irr _
  trans a b c h1 h2 := elt_trans h1 h2
  ntrans a b c h1 h2 := by
    show elt (ent a) (ent c) = false
    cases e : elt (ent a) (ent c) with
    | false => rfl
    | true =>
      by_cases q : ent a = ent b
      · have h2' : elt (ent b) (ent c) = false := h2
        rw [← q, e] at h2'; cases h2'
      · have h3 := elt_trans (elt_tot q h1) e
        have h2' : elt (ent b) (ent c) = false := h2
        rw [h3] at h2'; cases h2'

/-- what the texts' order hangs on -/
theorem metStep_pre (acc : List Int) (v : Int) : ∃ d, metStep acc v = acc ++ d := by
  unfold metStep
  split
  · exact ⟨_, rfl⟩
  · exact ⟨[], by simp⟩
theorem foldl_pre : ∀ (vv acc : List Int), ∃ d, vv.foldl metStep acc = acc ++ d
  | [], acc => ⟨[], by simp⟩
  | v :: vv, acc => by
    obtain ⟨d1, e1⟩ := metStep_pre acc v
    obtain ⟨d2, e2⟩ := foldl_pre vv (metStep acc v)
    exact ⟨d1 ++ d2, by rw [List.foldl_cons, e2, e1, List.append_assoc]⟩
theorem lexlt_pre : ∀ (p x y : List Int), lexlt (p ++ x) (p ++ y) = lexlt x y
  | [], _, _ => rfl
  | a :: p, x, y => by
    show lexlt (a :: (p ++ x)) (a :: (p ++ y)) = _
    rw [lexlt, if_pos rfl, lexlt_pre p x y]
theorem alph_low {a b : UInt8 × UInt8} {v : Nat} (h : v < 62) : alph a.1 a.2 v = alph b.1 b.2 v := by
  unfold alph
  rw [if_neg (by omega), if_neg (by omega), if_neg (by omega), if_neg (by omega)]
theorem alph_high (a : UInt8 × UInt8) {v : Nat} (h : v = 62 ∨ v = 63) : ((alph a.1 a.2 v).toNat : Int) = pv a.1 a.2 v := by
  unfold alph pv
  rcases h with rfl | rfl <;> simp
theorem face_app (x y : List Int) (a : UInt8 × UInt8) : face (x ++ y) a = face x a ++ face y a := by unfold face; rw [List.map_append]
theorem face_mem {acc : List Int} {a b : UInt8 × UInt8} (h : face acc a = face acc b) {v : Int} (hv : v ∈ acc) : pv a.1 a.2 v = pv b.1 b.2 v := by
  unfold face at h
  exact List.map_inj_left.mp h v hv
theorem text_face (a b : UInt8 × UInt8) (pad : List UInt8) : ∀ (vv : List Nat) (acc : List Int), (∀ v ∈ vv, v < 64) → face acc a = face acc b →
    (order (vv.map (alph a.1 a.2) ++ pad) (vv.map (alph b.1 b.2) ++ pad) == .lt) = lexlt (face ((toI vv).foldl metStep acc) a) (face ((toI vv).foldl metStep acc) b) ∧
    (vv.map (alph a.1 a.2) ++ pad = vv.map (alph b.1 b.2) ++ pad ↔ face ((toI vv).foldl metStep acc) a = face ((toI vv).foldl metStep acc) b)
  | [], acc, _, hacc => by
    refine ⟨?_, fun _ => hacc, fun _ => rfl⟩
    show (order pad pad == .lt) = lexlt (face acc a) (face acc b)
    rw [ord_irr, hacc, lexlt_irr]; rfl
  | v :: vv, acc, h64, hacc => by
    have hv := h64 v (.head _)
    have h64' : ∀ v ∈ vv, v < 64 := fun x hx => h64 x (.tail _ hx)
    have efold : (toI (v :: vv)).foldl metStep acc = (toI vv).foldl metStep (metStep acc v) := rfl
    rw [efold]
    simp only [List.map_cons, List.cons_append, ord_cons, List.cons.injEq]
    by_cases hc : alph a.1 a.2 v = alph b.1 b.2 v
    · have hst : face (metStep acc v) a = face (metStep acc v) b := by
        unfold metStep
        split
        · rename_i c
          have h6 : v = 62 ∨ v = 63 := by omega
          rw [face_app, face_app, hacc]
          have e : pv a.1 a.2 v = pv b.1 b.2 v := by rw [← alph_high a h6, ← alph_high b h6, hc]
          show _ ++ [pv a.1 a.2 v] = _ ++ [pv b.1 b.2 v]
          rw [e]
        · exact hacc
      obtain ⟨i1, i2⟩ := text_face a b pad vv (metStep acc v) h64' hst
      rw [if_pos hc]
      exact ⟨i1, by simp only [hc, true_and]; exact i2⟩
    · have h6 : v = 62 ∨ v = 63 := by
        by_cases q : v < 62
        · exact absurd (alph_low q) hc
        · omega
      have hpv : pv a.1 a.2 v ≠ pv b.1 b.2 v := by
        rw [← alph_high a h6, ← alph_high b h6]
        exact fun q => hc (u8_eq (by omega))
      have hnm : acc.any (· == (v : Int)) = false := by
        cases e : acc.any (· == (v : Int)) with
        | false => rfl
        | true =>
          obtain ⟨x, hx, hxe⟩ := List.any_eq_true.mp e
          have : x = v := by simpa using hxe
          exact absurd (face_mem hacc (this ▸ hx)) hpv
      have hms : metStep acc v = acc ++ [(v : Int)] := by unfold metStep; rw [if_pos ⟨by omega, hnm⟩]
      obtain ⟨d, hd⟩ := foldl_pre (toI vv) (metStep acc v)
      rw [if_neg hc, hd, hms]
      simp only [face_app, List.append_assoc, hacc, lexlt_pre]
      have ea : ∀ c : UInt8 × UInt8, face [(v : Int)] c ++ face d c = pv c.1 c.2 v :: face d c := fun _ => rfl
      rw [ea a, ea b]
      refine ⟨?_, ?_⟩
      · rw [lexlt, if_neg hpv, ← alph_high a h6, ← alph_high b h6]
        by_cases c : (alph a.1 a.2 v).toNat < (alph b.1 b.2 v).toNat
        · rw [if_pos c]; simp; omega
        · rw [if_neg c]; simp; omega
      · constructor
        · rintro ⟨q, _⟩; exact absurd q hc
        · intro q
          have := List.append_cancel_left q
          exact absurd (List.cons.inj this).1 hpv
/-- texts stand in the order of their faces -/
theorem elt_slt (vv : List Nat) (h64 : ∀ v ∈ vv, v < 64) (a b : UInt8 × UInt8) (i j : Int) : elt (textOf vv a.1 a.2, i) (textOf vv b.1 b.2, j) = slt (face (metL (toI vv)) a) (face (metL (toI vv)) b) i j := by
  obtain ⟨h1, h2⟩ := text_face a b (List.replicate ((4 - vv.length % 4) % 4) 61) vv [] h64 rfl
  replace h1 : (order (textOf vv a.1 a.2) (textOf vv b.1 b.2) == .lt) = lexlt (face (metL (toI vv)) a) (face (metL (toI vv)) b) := h1
  replace h2 : textOf vv a.1 a.2 = textOf vv b.1 b.2 ↔ face (metL (toI vv)) a = face (metL (toI vv)) b := h2
  unfold elt slt
  by_cases e : textOf vv a.1 a.2 = textOf vv b.1 b.2
  · rw [if_pos e, if_pos (h2.mp e)]
  · rw [if_neg e, if_neg (fun q => e (h2.mpr q))]; exact h1
/-- two sorted rows of the same things are one row -/
theorem sorted_one {ent : Addr → Ent} : ∀ (es qs : List Addr), es.Perm qs → SortedE ent es → qs.Pairwise (fun x y => elt (ent x) (ent y) = true) → es = qs
  | [], qs, hp, _, _ => by rw [List.nil_perm.mp hp]
  | x :: es, [], hp, _, _ => by simpa using hp.length_eq
  | x :: es, y :: qs, hp, ⟨h1, h2⟩, hq => by
    have hq1 := List.pairwise_cons.mp hq
    have e : x = y := by
      by_cases c : x = y
      · exact c
      · have hx : x ∈ qs := by
          rcases List.mem_cons.mp (hp.mem_iff.mp (.head _)) with h | h
          · exact absurd h c
          · exact h
        have hy : y ∈ es := by
          rcases List.mem_cons.mp (hp.mem_iff.mpr (.head _)) with h | h
          · exact absurd h.symm c
          · exact h
        have k1 := hq1.1 x hx
        have k2 := h1 y hy
        rw [k1] at k2; cases k2
    subst e
    rw [sorted_one es qs (List.perm_cons x |>.mp hp) h2 hq1.2]
end Mine
end
section
set_option maxRecDepth 100000
namespace Mine
open PySem.SeqAt
section
variable {A : Around} {s : Shared}
theorem eqAt_ent {a b : Addr} {x : Ent} {t u t' u' : Tok} (ha : s.heap.get? a = some (tupO x t u)) (hb : s.heap.get? b = some (tupO x t' u')) (hu : A.units < cLine) : EqAt A s (.ref a) (.ref b) true := by
  by_cases h : a = b
  · subst h; exact EqAt.same _
  · have ia : s.heap.IsTuple a #[.bytes x.1.toArray t, .int x.2 u] := ⟨_, ha, rfl, _, rfl⟩
    have ib : s.heap.IsTuple b #[.bytes x.1.toArray t', .int x.2 u'] := ⟨_, hb, rfl, _, rfl⟩
    have r : RcAt A s (.ref a) (.ref b) ((List.range 2).all (fun _ => true) && true) := RcAt.tuples (e := fun _ => true) ia ib hu fun j h1 h2 => by
      intro prog w E Q hq
      have h1' : j < 2 := h1
      rcases (by omega : j = 0 ∨ j = 1) with rfl | rfl
      · exact PySem.W.eqBool_bytes (by simpa using hq)
      · exact PySem.wpAny_eqBool_int (by simpa using hq)
    exact EqAt.of_refs h r
end
section
variable {prog : Program} {w : World} {A : Around} {E : Value → Shared → Prop} {s : Shared} {h₀ : Heap} {L : Addr} {news : List (Addr × Obj)}
theorem eq_entries {a b : Addr} {as bs : List Addr} {n n' : Nat} {f : Nat → Ent} {Q : Value → Shared → Prop} (N : News h₀ L s.heap news) (ha : (a, listOf (as.map Value.ref).toArray n) ∈ news) (hb : (b, listOf (bs.map Value.ref).toArray n') ∈ news)
    (hl : as.length = bs.length) (he : ∀ i, i < as.length → ∃ t u, (as.getD i 0, tupO (f i) t u) ∈ news) (he2 : ∀ i, i < as.length → ∃ t u, (bs.getD i 0, tupO (f i) t u) ∈ news) (hu : A.units + 8 < cLine)
    (h : Q (.bool true) s) : wpAny (model prog w) A (compareOp .Eq (.ref a) (.ref b)) Q E s := by
  refine eq_listAt (e := fun _ => true) (News.isList N ha) (News.isList N hb) (by simpa using hl) (by omega) ?_ (by rw [List.all_eq_true.mpr (fun _ _ => rfl)]; exact h)
  intro j h1 h2
  have h1' : j < as.length := by simpa using h1
  have h2' : j < bs.length := by simpa using h2
  obtain ⟨t, u, e1⟩ := he j h1'
  obtain ⟨t', u', e2⟩ := he2 j h1'
  have g1 : (as.map Value.ref).toArray[j] = .ref (as.getD j 0) := by simp [List.getD_eq_getElem?_getD, h1']
  have g2 : (bs.map Value.ref).toArray[j] = .ref (bs.getD j 0) := by simp [List.getD_eq_getElem?_getD, h2']
  rw [g1, g2]
  exact eqAt_ent (N _ e1).1 (N _ e2).1 (by show A.units + _ < _; omega)
end
end Mine
end
section
set_option maxRecDepth 100000
namespace Mine

theorem getD_snoc_l {as : List Addr} {D : Addr} {j : Nat} (h : j < as.length) : (as ++ [D]).getD j 0 = as.getD j 0 := by
  rw [List.getD_eq_getElem?_getD, List.getD_eq_getElem?_getD, List.getElem?_append_left h]
/-- entries made so far -/
def Ents (f : Nat → Ent) (i : Nat) (ts : List Addr) (ext : List (Addr × Obj)) : Prop :=
  ts.length = i ∧ ∀ j, j < i → ∃ t u, (ts.getD j 0, tupO (f j) t u) ∈ ext
theorem Ents.snoc {f : Nat → Ent} {i : Nat} {ts : List Addr} {ext : List (Addr × Obj)} {D : Addr} {t u : Tok} (h : Ents f i ts ext) : Ents f (i + 1) (ts ++ [D]) (ext ++ [(D, tupO (f i) t u)]) := by
  refine ⟨by rw [List.length_append, h.1]; rfl, fun j hj => ?_⟩
  by_cases c : j < i
  · obtain ⟨t', u', e⟩ := h.2 j c
    exact ⟨t', u', by rw [getD_snoc_l (by rw [h.1]; exact c)]; exact List.mem_append.mpr (.inl e)⟩
  · have : j = i := by omega
    subst this
    exact ⟨t, u, by rw [show (ts ++ [D]).getD j 0 = D by rw [← h.1]; exact getD_snoc_eq]; exact List.mem_append.mpr (.inr (List.mem_singleton.mpr rfl))⟩
/-- the k-th entry -/
def entry (cs : List Nat) (ab : List (UInt8 × UInt8)) (k : Nat) : Ent := (textOf (vals cs) (ab.getD k (0, 0)).1 (ab.getD k (0, 0)).2, (k : Int))
/-- an entry as a heap holds it -/
def entH (h : Heap) (a : Addr) : Ent :=
  match h.get? a with
  | some o => (match o.data with
    | .seq items _ => (match items.toList with
      | [.bytes b _, .int k _] => (b.toList, k)
      | _ => ([], 0))
    | _ => ([], 0))
  | none => ([], 0)
theorem entH_tup {h : Heap} {a : Addr} {e : Ent} {t u : Tok} (hg : h.get? a = some (tupO e t u)) : entH h a = e := by
  unfold entH; rw [hg]
theorem getD_mem {as : List Addr} {a : Addr} (h : a ∈ as) : ∃ j, j < as.length ∧ as.getD j 0 = a := by
  obtain ⟨j, hj, e⟩ := List.getElem_of_mem h
  exact ⟨j, hj, by rw [List.getD_eq_getElem?_getD, List.getElem?_eq_getElem hj]; exact e⟩
theorem mem_getD {as : List Addr} {j : Nat} (h : j < as.length) : as.getD j 0 ∈ as := by
  rw [List.getD_eq_getElem?_getD, List.getElem?_eq_getElem h]; exact List.getElem_mem h
section
variable {f : Nat → Ent} {n : Nat} {ts : List Addr} {ext news : List (Addr × Obj)} {h h₀ : Heap} {L : Addr}
theorem Ents.ent (H : Ents f n ts ext) (N : News h₀ L h news) (hs : ∀ p ∈ ext, p ∈ news) {j : Nat} (hj : j < n) : entH h (ts.getD j 0) = f j := by
  obtain ⟨t, u, e⟩ := H.2 j hj
  exact entH_tup (N _ (hs _ e)).1
theorem Ents.all (H : Ents f n ts ext) (N : News h₀ L h news) (hs : ∀ p ∈ ext, p ∈ news) : ∀ a ∈ ts, ∃ t u, (a, tupO (entH h a) t u) ∈ ext := by
  intro a ha
  obtain ⟨j, hj, rfl⟩ := getD_mem ha
  have hj' : j < n := H.1 ▸ hj
  obtain ⟨t, u, e⟩ := H.2 j hj'
  exact ⟨t, u, by rw [H.ent N hs hj']; exact e⟩
end
theorem pw_chain {ent : Addr → Ent} : ∀ {xs : List Addr}, (∀ k, k + 1 < xs.length → elt (ent (xs.getD k 0)) (ent (xs.getD (k + 1) 0)) = true) → xs.Pairwise (fun x y => elt (ent x) (ent y) = true) := by
  intro xs h
  rw [List.pairwise_iff_getElem]
  have key : ∀ d i, i + d + 1 < xs.length → elt (ent (xs.getD i 0)) (ent (xs.getD (i + d + 1) 0)) = true := by
    intro d
    induction d with
    | zero => intro i hi; exact h i hi
    | succ d ih => intro i hi; exact elt_trans (ih i (by omega)) (h (i + d + 1) (by omega))
  intro i j hi hj hij
  have := key (j - i - 1) i (by omega)
  rw [show i + (j - i - 1) + 1 = j by omega] at this
  rw [List.getD_eq_getElem?_getD, List.getD_eq_getElem?_getD, List.getElem?_eq_getElem hi, List.getElem?_eq_getElem hj] at this
  exact this
theorem map_range {ts : List Addr} : (List.range ts.length).map (fun j => ts.getD j 0) = ts := by
  apply List.ext_getElem
  · simp
  · intro i h1 h2
    simp [List.getD_eq_getElem?_getD, h2]
theorem pget {ts : List Addr} {p : Array Nat} {k : Nat} (hk : k < p.size) : (p.toList.map (fun j => ts.getD j 0)).getD k 0 = ts.getD (g p k) 0 := by
  have e1 : (p.toList.map (fun j => ts.getD j 0)).getD k 0 = ts.getD p[k] 0 := by
    rw [List.getD_eq_getElem?_getD, List.getElem?_map, Array.getElem?_toList, Array.getElem?_eq_getElem hk]
    simp
  have e2 : g p k = p[k] := by
    show p.getD k 0 = _
    simp [hk]
  rw [e1, e2]
/-- the entries come out in the order told without the texts -/
theorem out_order {ent : Addr → Ent} {cs : List Nat} {ab : List (UInt8 × UInt8)} {ts es : List Addr} {p : Array Nat} (hts : ts.length = ab.length) (hent : ∀ j, j < ab.length → ent (ts.getD j 0) = entry cs ab j) (hes : es.Perm ts) (hs : SortedE ent es)
    (hp : PermR p ab.length) (hup : Upto (fun i j => slt (face (metL (toI (vals cs))) (ab.getD i (0, 0))) (face (metL (toI (vals cs))) (ab.getD j (0, 0))) i j) p ab.length) : es = p.toList.map (fun j => ts.getD j 0) := by
  have hsz := hp.size
  refine sorted_one es _ (hes.trans ?_) hs (pw_chain ?_)
  · have := (hp.map (fun j => ts.getD j 0)).symm
    rw [← hts, map_range] at this
    exact this
  · intro k hk
    rw [List.length_map, Array.length_toList] at hk
    rw [pget (by omega), pget hk, hent _ (hp.bnd (by omega)), hent _ (hp.bnd (by omega))]
    have := hup (k + 1) (by omega) (by omega)
    rw [show k + 1 - 1 = k by omega] at this
    unfold entry
    rw [elt_slt (vals cs) vals_lt (ab.getD (g p k) (0, 0)) (ab.getD (g p (k + 1)) (0, 0))]
    exact this
theorem out_entry {ent : Addr → Ent} {cs : List Nat} {ab : List (UInt8 × UInt8)} {ts es : List Addr} {p : Array Nat} (hts : ts.length = ab.length) (hent : ∀ j, j < ab.length → ent (ts.getD j 0) = entry cs ab j) (hes : es.Perm ts) (hs : SortedE ent es)
    (hp : PermR p ab.length) (hup : Upto (fun i j => slt (face (metL (toI (vals cs))) (ab.getD i (0, 0))) (face (metL (toI (vals cs))) (ab.getD j (0, 0))) i j) p ab.length) {k : Nat} (hk : k < ab.length) : ent (es.getD k 0) = entry cs ab (g p k) := by
  have hsz := hp.size
  rw [out_order hts hent hes hs hp hup, pget (by omega), hent _ (hp.bnd hk)]
end Mine
end
section
theorem Mine.freshK1 : True := by
  w_top off
  exact True.intro
namespace Mine
/-- after the first statement -/
def Mid1 (H : Heap) (L : Addr) (s0 : Shared) (l0 : Addr) (cells : List (Addr × Obj)) (f : Flow) (s' : Shared) : Prop :=
  f = .next ∧ ∃ D dv ds k h tk u, s' = { s0 with heap := h, toks := tk } ∧ IntsAre dv ds ∧ 1 ≤ ds.length ∧ ds.length ≤ 8 ∧ Fr H L h (frm0 u [(Str.ofString "script", .v (.ref l0)), (Str.ofString "drawn", .v (.ref D))]) ∧ News H L h ((D, listOf dv.toArray k) :: cells) ∧ (∀ p ∈ cells, p.1 < D)
theorem Mid1.intro {H : Heap} {L : Addr} {s0 : Shared} {l0 : Addr} {cells : List (Addr × Obj)} {D : Addr} {dv : List Value} {ds : List Int} {k : Nat} {h : Heap} {tk : Nat} {u : Str → Option Value} (h1 : IntsAre dv ds) (h2 : 1 ≤ ds.length) (h3 : ds.length ≤ 8)
    (F : Fr H L h (frm0 u [(Str.ofString "script", .v (.ref l0)), (Str.ofString "drawn", .v (.ref D))])) (N : News H L h ((D, listOf dv.toArray k) :: cells)) (l : ∀ p ∈ cells, p.1 < D) : Mid1 H L s0 l0 cells .next { s0 with heap := h, toks := tk } :=
  ⟨rfl, D, dv, ds, k, h, tk, u, rfl, h1, h2, h3, F, N, l⟩
theorem neN {a b : Addr} (h : a ≠ b) : @Ne Nat a b := h
theorem toI_back {rs : List Int} (h : ∀ x ∈ rs, 0 ≤ x ∧ x < 256) : rs = toI (rs.map Int.toNat) := by
  rw [toI, List.map_map]
  conv => lhs; rw [← List.map_id rs]
  apply List.map_congr_left
  intro x hx
  have := h x hx
  show x = ((x.toNat : Nat) : Int)
  omega
theorem toI_lt64 {cs : List Nat} : ∀ v ∈ toI (vals cs), v < 64 := by
  intro v hv
  obtain ⟨x, hx, rfl⟩ := List.mem_map.mp hv
  have := vals_lt x hx
  omega
theorem octs_of {rs : List Int} (h : ∀ x ∈ rs, 0 ≤ x ∧ x < 256) : ∀ c ∈ rs.map Int.toNat, c < 256 := by
  intro c hc
  obtain ⟨x, hx, rfl⟩ := List.mem_map.mp hc
  have := h x hx
  omega
theorem mem_swap {α : Type} {x q : α} {ys : List α} : ∀ {xs : List α}, q ∈ xs ++ x :: ys → q ∈ x :: (xs ++ ys)
  | [], h => h
  | a :: xs, h => by
    rcases List.mem_cons.mp h with h | h
    · exact .tail _ (h ▸ .head _)
    · rcases List.mem_cons.mp (mem_swap h) with h | h
      · exact h ▸ .head _
      · exact .tail _ (.tail _ h)
theorem mem_swap' {α : Type} {x q : α} {ys : List α} {xs : List α} (h : q ∈ x :: (xs ++ ys)) : q ∈ xs ++ x :: ys := by
  rcases List.mem_cons.mp h with rfl | h
  · exact List.mem_append.mpr (.inr (.head _))
  · rcases List.mem_append.mp h with h | h
    · exact List.mem_append.mpr (.inl h)
    · exact List.mem_append.mpr (.inr (.tail _ h))
theorem mem_put {α : Type} {x q : α} {ys zs : List α} (xs : List α) (h : q ∈ xs ++ (ys ++ (zs ++ [x]))) : q = x ∨ q ∈ xs ++ (ys ++ zs) := by
  simp only [List.mem_append, List.mem_singleton] at h ⊢
  rcases h with h | h | h | h
  · exact .inr (.inl h)
  · exact .inr (.inr (.inl h))
  · exact .inr (.inr (.inr h))
  · exact .inl h
/-- the pairs of marks that lie in the list -/
def Marks (cv : List Value) (ab : List (UInt8 × UInt8)) : Prop :=
  cv.length = ab.length ∧ ∀ i, i < ab.length → ∃ t, cv[i]? = some (.bytes #[(ab.getD i (0, 0)).1, (ab.getD i (0, 0)).2] t)
theorem Marks.four {a b c d : Tok} : Marks [.bytes #[43, 47] a, .bytes #[45, 95] b, .bytes #[45, 47] c, .bytes #[43, 95] d] [(43, 47), (45, 95), (45, 47), (43, 95)] := by
  refine ⟨rfl, fun i hi => ?_⟩
  have hi' : i < 4 := hi
  rcases (by omega : i = 0 ∨ i = 1 ∨ i = 2 ∨ i = 3) with rfl | rfl | rfl | rfl <;> exact ⟨_, rfl⟩
theorem Marks.snoc {cv : List Value} {ab : List (UInt8 × UInt8)} {x y : UInt8} {t : Tok} (h : Marks cv ab) : Marks (cv ++ [.bytes #[x, y] t]) (ab ++ [(x, y)]) := by
  refine ⟨by simp [h.1], fun i hi => ?_⟩
  rw [List.length_append, List.length_singleton] at hi
  by_cases c : i < ab.length
  · obtain ⟨t', e⟩ := h.2 i c
    refine ⟨t', ?_⟩
    rw [List.getElem?_append_left (by rw [h.1]; exact c), e, List.getD_eq_getElem?_getD, List.getD_eq_getElem?_getD, List.getElem?_append_left c]
  · have : i = ab.length := by omega
    subst this
    refine ⟨t, ?_⟩
    rw [← h.1, List.getElem?_concat_length, h.1, List.getD_eq_getElem?_getD, List.getElem?_concat_length]; rfl
structure CSt where
  cv : List Value
  ab : List (UInt8 × UInt8)
  n : Nat
/-- what is there when the choices are made -/
structure S2 where
  C : Addr
  V : Addr
  R : Addr
  cv : List Value
  vv : List Value
  rv : List Value
  cn : Nat
  vn : Nat
  rn : Nat
  cs : List Nat
  ab : List (UInt8 × UInt8)
  oC : Obj
  oV : Obj
  oR : Obj
structure S2.Ok (x : S2) (L : Nat) : Prop where
  dC : x.oC.data = .cell (some (.ref x.C))
  dV : x.oV.data = .cell (some (.ref x.V))
  dR : x.oR.data = .cell (some (.ref x.R))
  rows : IntsAre x.rv (toI x.cs)
  octs : ∀ c ∈ x.cs, c < 256
  short : x.cs.length ≤ 6
  vals : IntsAre x.vv (toI (vals x.cs))
  marks : Marks x.cv x.ab
  few : x.ab.length < 64
  some : 4 ≤ x.ab.length
  e1 : @Ne Nat x.R x.V
  e2 : @Ne Nat x.R x.C
  e3 : @Ne Nat x.V x.C
  e4 : @Ne Nat (L + 1) x.R
  e5 : @Ne Nat (L + 1) x.V
  e6 : @Ne Nat (L + 1) x.C
  e7 : @Ne Nat (L + 1 + 1) x.R
  e8 : @Ne Nat (L + 1 + 1) x.V
  e9 : @Ne Nat (L + 1 + 1) x.C
  e10 : @Ne Nat (L + 1 + 1 + 1) x.R
  e11 : @Ne Nat (L + 1 + 1 + 1) x.V
  e12 : @Ne Nat (L + 1 + 1 + 1) x.C
def Mid2 (H : Heap) (L : Nat) (s0 : Shared) (f : Flow) (s' : Shared) : Prop :=
  f = .next ∧ ∃ (x : S2) (h : Heap) (tk : Nat) (u : Str → Option Value), s' = { s0 with heap := h, toks := tk } ∧ x.Ok L ∧ Fr H L h (frm0 u []) ∧ News H L h [(x.C, listOf x.cv.toArray x.cn), (x.V, listOf x.vv.toArray x.vn), (x.R, listOf x.rv.toArray x.rn), (L + 1 + 1 + 1, x.oC), (L + 1 + 1, x.oV), (L + 1, x.oR)]
theorem Mid2.intro {H : Heap} {L : Nat} {s0 : Shared} {h : Heap} {tk : Nat} {u : Str → Option Value} (x : S2) (hx : x.Ok L) (F : Fr H L h (frm0 u [])) (N : News H L h [(x.C, listOf x.cv.toArray x.cn), (x.V, listOf x.vv.toArray x.vn), (x.R, listOf x.rv.toArray x.rn), (L + 1 + 1 + 1, x.oC), (L + 1 + 1, x.oV), (L + 1, x.oR)]) :
    Mid2 H L s0 .next { s0 with heap := h, toks := tk } := ⟨rfl, x, h, tk, u, rfl, hx, F, N⟩
theorem mem_end3 {α : Type} {p x : α} {ext : List α} (as : List α) (h : p ∈ as ++ (ext ++ [x])) : p = x ∨ p ∈ as ++ ext := by
  simp only [List.mem_append, List.mem_singleton] at h ⊢
  rcases h with h | h | h
  · exact .inr (.inl h)
  · exact .inr (.inr h)
  · exact .inl h
theorem back8 {cs : List Nat} (h : ∀ c ∈ cs, c < 256) : (cs.map Nat.toUInt8).map UInt8.toNat = cs := by
  rw [List.map_map]
  conv => rhs; rw [← List.map_id cs]
  apply List.map_congr_left
  intro c hc
  have := h c hc
  show c.toUInt8.toNat = c
  simp; omega
section
variable {prog : Program} {w : World} {A : Around} {E : Value → Shared → Prop} {s : Shared} {h₀ : Heap} {L : Addr} {m : Str → Option Value} {news : List (Addr × Obj)}
theorem row_bytes {R : Addr} {rv : List Value} {rn : Nat} {cs : List Nat} {Q : Value → Shared → Prop} (F : Fr h₀ L s.heap m) (N : News h₀ L s.heap news) (hm : (R, listOf rv.toArray rn) ∈ news) (hi : IntsAre rv (toI cs)) (hc : ∀ c ∈ cs, c < 256) (h6 : cs.length ≤ 6) (hh : A.handled = none)
    (h : ∀ h' t k, Fr h₀ L h' m → News h₀ L h' news → Q (.bytes (cs.map Nat.toUInt8).toArray t) { s with heap := h', toks := k }) : wpAny (model prog w) A (call (.type "bytes") [.ref R]) Q E s := by
  have hl := hi.length
  rw [List.length_map] at hl
  refine bytes_K F N (News.isList N hm) hi ?_ (by rw [PySem.sizeLine_eq]; omega) hh ?_
  · intro n hn
    obtain ⟨c, hcm, rfl⟩ := List.mem_map.mp hn
    have := hc c hcm
    omega
  · intro h' t k F' N' _
    have e : (toI cs).map (fun n => n.toNat.toUInt8) = cs.map Nat.toUInt8 := by
      rw [toI, List.map_map]; rfl
    rw [e]
    exact h h' t k F' N'
theorem mark_sub {C : Addr} {cv : List Value} {cn : Nat} {ab : List (UInt8 × UInt8)} {i : Nat} {u : Tok} {value slice : PySem.Expr} {Q : Value → Shared → Prop} (N : News h₀ L s.heap news) (hm : (C, listOf cv.toArray cn) ∈ news) (mk : Marks cv ab) (hi : i < ab.length) (h64 : ab.length < 64)
    (h : ∀ t, Q (.bytes #[(ab.getD i (0, 0)).1, (ab.getD i (0, 0)).2] t) s)
    (hs : subscripted slice false (.ref C) (.int (i : Int) u) = operate [.ref C, .int (i : Int) u] (getItem (.ref C) (.int (i : Int) u)) := by with_unfolding_all rfl) :
    wpAny (model prog w) A (subscriptTail value slice (.ref C) (.int (i : Int) u)) Q E s := by
  have hL : s.heap.IsList C cv.toArray := News.isList N hm
  obtain ⟨t, e⟩ := mk.2 i hi
  exact tail_any hL.typeIs slot_list_getitem.lookup (wpAny_getItem_list hL (by omega) (by omega) (by rw [List.getElem?_toArray]; exact e) (h t)) hs
end
/-- what is there when the heap is made -/
def S2.led (x : S2) (L : Nat) (ext : List (Addr × Obj)) : List (Addr × Obj) := (x.C, listOf x.cv.toArray x.cn) :: (x.V, listOf x.vv.toArray x.vn) :: (x.R, listOf x.rv.toArray x.rn) :: (L + 1 + 1 + 1, x.oC) :: (L + 1 + 1, x.oV) :: (L + 1, x.oR) :: ext
def Mid3 (H : Heap) (L : Nat) (s0 : Shared) (x : S2) (f : Flow) (s' : Shared) : Prop :=
  f = .next ∧ ∃ (ts : List Addr) (ext : List (Addr × Obj)) (D : Addr) (h : Heap) (tk : Nat) (u : Str → Option Value), s' = { s0 with heap := h, toks := tk } ∧ Ents (entry x.cs x.ab) x.ab.length ts ext ∧ (∀ p ∈ x.led L ext, p.1 ≠ D) ∧
    Fr H L h (frm0 u [(Str.ofString "heap", .v (.ref D))]) ∧ News H L h ((D, LCg.lst (ts.map Value.ref)) :: x.led L ext)
theorem Mid3.intro {H : Heap} {L : Nat} {s0 : Shared} {x : S2} {ts : List Addr} {ext : List (Addr × Obj)} {D : Addr} {h : Heap} {tk : Nat} {u : Str → Option Value} (hts : Ents (entry x.cs x.ab) x.ab.length ts ext) (off : ∀ p ∈ x.led L ext, p.1 ≠ D)
    (F : Fr H L h (frm0 u [(Str.ofString "heap", .v (.ref D))])) (N : News H L h ((D, LCg.lst (ts.map Value.ref)) :: x.led L ext)) : Mid3 H L s0 x .next { s0 with heap := h, toks := tk } := ⟨rfl, ts, ext, D, h, tk, u, rfl, hts, off, F, N⟩
theorem emptied_claimN (w : World) (l : Addr) (as : List Addr) (n : Nat) (c : Nat) (tc : Tok) (hc : c = as.length) (rest : List (Addr × Obj)) (ent : Addr → Ent) (hE : ∀ a ∈ as, ∃ t u, (a, tupO (ent a) t u) ∈ rest) (hne : ∀ q ∈ rest, q.1 ≠ l) (hlen : as.length < 64) (o : LtOk fun a b => elt (ent a) (ent b)) (hh : HeapFrom (fun a b => elt (ent a) (ent b)) as 0) :
  ∀ (mean : ExcName → Option Value) (mg mb : Str → Option Value) (dp un : Nat) (gd : Option (List Code)) (cn : Str) (cs : Scope) (a : Addr) (ccd : Value) (cl : List (Str × Addr)) (A₀ : Around) (h₀ : Heap) (L : Addr) (m : Str → Option Value) (s : Shared) (Q E : Value → Shared → Prop),
    Below A₀ h₀ [] h₀ → Fr h₀ L s.heap m → (hd.heap_39 w.params).In h₀ → News h₀ L s.heap ((l, listOf (as.map Value.ref).toArray n) :: rest) → Top hd.view_39 (looseW hd.view_39 [Str.ofString "b2a_base64", Str.ofString "b64encode"]) mean mg mb h₀ → cs.kind = .function →
    dp + 20 < recursionLimit → un + 200 < cLine →
    (∀ D es n' h' tk', es.Perm as → SortedE ent es → Fr h₀ L h' m → News h₀ L h' ((D, listOf (es.map Value.ref).toArray n') :: rest) → (∀ q ∈ rest, q.1 ≠ D) → Q (.ref D) { s with heap := h', toks := tk' }) →
    wpAny (model PySem.Challenge.rw_mq0105_01.row.prog w) (ktrTop dp un gd cn cs L a ccd cl []) (call (.ref 104) [.ref l, .int c tc]) Q E s := by
  subst hc
  exact emptied_claim w l as n tc rest ent hE hne hlen o hh
theorem tup_first {prog : Program} {w : World} {A : Around} {E : Value → Shared → Prop} {s : Shared} {h₀ : Heap} {L : Addr} {news : List (Addr × Obj)} {a : Addr} {e : Ent} {t u u0 : Tok} {value slice : PySem.Expr} {Q : Value → Shared → Prop} (N : News h₀ L s.heap news) (hm : (a, tupO e t u) ∈ news) (h : Q (.bytes e.1.toArray t) s)
    (hs : subscripted slice false (.ref a) (.int 0 u0) = operate [.ref a, .int 0 u0] (getItem (.ref a) (.int 0 u0)) := by with_unfolding_all rfl) :
    wpAny (model prog w) A (subscriptTail value slice (.ref a) (.int 0 u0)) Q E s :=
  item_tupleT (l := [.bytes e.1.toArray t, .int e.2 u]) (j := 0) ⟨_, (N _ hm).1, rfl, _, rfl⟩ (by decide) (by decide) rfl rfl h hs
theorem ns_bytes (P : Params) : nsIn (hd.heap_39 P) mainGlobals (Str.ofString "bytes") = some none := by kernel_rfl
local macro_rules | `(tactic| walk_at "eval Name") => `(tactic| (k_here; (with_reducible show wpAny _ _ (PySem.eval (Expr.Name (Str.ofString "bytes") _) _) _ _ _); k_dflt (refine LCgL.ld_built (by k_asm) (by k_asm) (by k_asm) (ns_bytes _) PyProof.Rows.Boot.«bytes» (by decide) ?_)))
local macro_rules | `(tactic| walk_at "call type:type") => `(tactic| (k_here; (with_reducible show wpAny _ _ (call _ [Value.bytes _ _]) _ _ _); refine call_type_of (Tx := "bytes") rfl (by decide +kernel) ?_))
local macro_rules | `(tactic| walk_at "call builtin:len") => `(tactic| (k_here; (with_reducible show wpAny _ _ (call (Value.builtin "len") [Value.ref _]) _ _ _); k_dflt (refine' lst_len ?k1 ?k2 ?k3 ?_; (case k1 => k_asm); (case k2 => k_mem); (case k3 => omega); k_whole)))
local macro_rules | `(tactic| walk_at "exec For") => `(tactic| (k_here; (rename Fr _ _ _ _ => lF'); (with_unfolding_all refine' For_invVF lF' ?k1 ?k2 ?_; (case k1 => exact rfl); (case k2 => exact rfl); k_whole)))
local macro_rules | `(tactic| walk_at "binaryOp FloorDiv int int") => `(tactic| (k_here; k_dflt (refine' divLit ?k1 ?k2 ?_; (case k1 => first | decide | omega); (case k2 => first | decide | omega); k_whole)))
local macro_rules | `(tactic| walk_at "binaryOp Mod int int") => `(tactic| (k_here; k_dflt (refine' modLit ?k1 ?_; (case k1 => first | decide | omega); k_whole)))
local macro_rules | `(tactic| walk_at "call builtin:list.append") => `(tactic| (k_here; (with_reducible show wpAny _ _ (call (Value.builtin _) [Value.ref _, _]) _ _ _); k_dflt (refine' lst_append ?k1 ?k2 ?k3 ?z ?_; (case k1 => k_asm); (case k2 => k_asm); (case k3 => k_upd); (case z => omega); k_whole); intro h' F' N'; (try dsimp only at N')))
local macro_rules | `(tactic| k_all) => `(tactic| first | assumption | exact of_allLt (by assumption))
theorem lt3 {a b c d : Nat} {x y z : Obj} (h : a < d ∧ b < d ∧ c < d) : ∀ p ∈ [(a, x), (b, y), (c, z)], p.1 < d := by
  intro p hp
  simp only [List.mem_cons, List.not_mem_nil, or_false] at hp
  rcases hp with rfl | rfl | rfl
  · exact h.1
  · exact h.2.1
  · exact h.2.2
set_option maxRecDepth 100000 in
set_option maxHeartbeats 2500000 in
theorem law_holds : PySem.Challenge.rw_mq0105_01.Holds := hd (by
  k_go0
  all_goals try k_fold
  rename_i w s0 s1 mg mb G Y fa o pm doc ho hg KX XM V GL T BT TE TW w12 w11 MB w10 w9 hcd ns hs9 hlay0 hLa hr1 hl2 w7 w6 l0 vs w3 hL ra w1 r0 hI hr hcond hcond2 K0 hD h1 tk1 F1 oa ob oc d1 d2 d3 N0 X0
  replace d1 : oa.data = .cell none := d1
  replace d2 : ob.data = .cell none := d2
  replace d3 : oc.data = .cell none := d3
  clear X0 hD hcond2 r0 w1 ra hr hr1 hl2 hlay0 hLa hs9
  (repeat' ((fail_if_success (with_reducible show wpAny _ _ (exec (Stmt.Assign _ _ _) _) _ _ _)); (first | (k_unfold; (try dsimp only)) | (k_end; wrow_close) | walk1 | (dsimp only; walk1) | (leave1; walk_say "STEP leave1"; try dsimp only) | fail "no step")))
  refine wpAny_mono (Q := Mid1 s1.heap s1.heap.objs.size s1 l0 [(s1.heap.objs.size + 1 + 1 + 1, oa), (s1.heap.objs.size + 1 + 1, ob), (s1.heap.objs.size + 1, oc)]) ?fst ?snd (fun _ _ x => x)
  case fst =>
    --[
    (repeat' ((fail_if_success (with_reducible show wpAny _ _ (PySem.call (Value.ref _) _) _ _ _)); (fail_if_success (with_reducible show Mid1 _ _ _ _ _ _ _)); (first | (k_unfold; (try dsimp only)) | (k_end; wrow_close) | walk1 | (dsimp only; walk1) | (leave1; walk_say "STEP leave1"; try dsimp only) | fail "no step")))
    · rename_i hgt D ws h8 hds hC hLn l1 h9 F9 N9
      obtain ⟨u0, F2⟩ := frCut [(Str.ofString "script", .v (.ref l0)), (Str.ofString "drawn", .v (.ref D))] F9 (by (repeat' (first | exact True.intro | refine And.intro ⟨_, rfl⟩ ?_ | refine And.intro rfl ?_)))
      exact Mid1.intro hds (by omega) (by omega) F2 N9 (lt3 l1)
    · rename_i hgt D h8 l1 h9 F9 N9
      obtain ⟨u0, F2⟩ := frCut [(Str.ofString "script", .v (.ref l0)), (Str.ofString "drawn", .v (.ref D))] F9 (by (repeat' (first | exact True.intro | refine And.intro ⟨_, rfl⟩ ?_ | refine And.intro rfl ?_)))
      exact Mid1.intro (IntsAre.cons 2829570 (tk1 + 1 + 1 + 1) (IntsAre.cons 4275459 (tk1 + 1 + 1 + 1 + 1) (IntsAre.cons 3000324 (tk1 + 1 + 1 + 1 + 1 + 1) IntsAre.nil))) (by decide) (by decide) F2 N9 (lt3 l1)
    --]
  case snd =>
    rintro f s' ⟨rfl, D, dv, ds, k, h, tk, u, rfl, hds, hd1, hd8, F2, N2, hlt⟩
    clear F1 N0
    dsimp only
    (repeat' ((fail_if_success (with_reducible show wpAny _ _ (PySem.call (Value.ref _) _) _ _ _)); (first | (k_unfold; (try dsimp only)) | (k_end; wrow_close) | walk1 | (dsimp only; walk1) | (leave1; walk_say "STEP leave1"; try dsimp only) | fail "no step")))
    (refine' Claim.use (row_claim w D dv ds k [(s1.heap.objs.size + 1 + 1 + 1, oa), (s1.heap.objs.size + 1 + 1, ob), (s1.heap.objs.size + 1, oc)] hds hd1 hd8) ?k1 ?k2 ?k3 ?k4 ?ks ?k5 ?kK ?kd ?ku ?ret; (case k1 => k_asm); (case k2 => k_asm); (case k3 => k_asm); (case k4 => k_asm); (case k5 => k_asm); (case kK => first | exact rfl | assumption); (case kd => ktr_room); (case ku => ktr_units))
    case ks => exact fun _ h => h
    case ret =>
    rintro r news' h' tk' F3 N3 ⟨R, rv, rn, rs, rfl, hrv, hrb, hr6, rfl, hrne⟩
    clear F2 N2
    have a1 := ltN (hlt _ (.head _))
    have a2 := ltN (hlt _ (.tail _ (.head _)))
    have a3 := ltN (hlt _ (.tail _ (.tail _ (.head _))))
    have b0 := neN (hrne _ (.head _))
    have b1 := neN (hrne _ (.tail _ (.head _)))
    have b2 := neN (hrne _ (.tail _ (.tail _ (.head _))))
    have b3 := neN (hrne _ (.tail _ (.tail _ (.tail _ (.head _)))))
    dsimp only at a1 a2 a3 b0 b1 b2 b3
    clear hlt hrne
    dsimp only
    (repeat' ((fail_if_success (with_reducible show wpAny _ _ (PySem.call (Value.ref _) _) _ _ _)); (first | (k_unfold; (try dsimp only)) | (k_end; wrow_close) | walk1 | (dsimp only; walk1) | (leave1; walk_say "STEP leave1"; try dsimp only) | fail "no step")))
    rename_i h3 oR F4 N4 dR
    clear d3
    (refine' Claim.use (values_claim w R rv (rs.map Int.toNat) rn [(D, listOf dv.toArray k), (s1.heap.objs.size + 1 + 1 + 1, oa), (s1.heap.objs.size + 1 + 1, ob), (s1.heap.objs.size + 1, oR)] (toI_back hrb ▸ hrv) (by rw [List.length_map]; exact hr6)) ?k1 ?k2 ?k3 ?k4 ?ks ?k5 ?kK ?kd ?ku ?ret; (case k1 => k_asm); (case k2 => k_asm); (case k3 => k_asm); (case k4 => k_asm); (case k5 => k_asm); (case kK => first | exact rfl | assumption); (case kd => ktr_room); (case ku => ktr_units))
    case ks => exact fun _ h => h
    case ret =>
    rintro r news' h' tk' F3 N3 ⟨V, vv, vn, rfl, hvv, rfl, hvne⟩
    clear F4 N4
    have e0 := neN (hvne _ (.head _))
    have e1 := neN (hvne _ (.tail _ (.head _)))
    have e2 := neN (hvne _ (.tail _ (.tail _ (.head _))))
    have e3 := neN (hvne _ (.tail _ (.tail _ (.tail _ (.head _)))))
    have e4 := neN (hvne _ (.tail _ (.tail _ (.tail _ (.tail _ (.head _))))))
    dsimp only at e0 e1 e2 e3 e4
    clear hvne
    dsimp only
    (repeat' ((fail_if_success (with_reducible show wpAny _ _ (PySem.call (Value.ref _) _) _ _ _)); (fail_if_success (with_reducible show wpAny _ _ (exec (Stmt.For _ _ _ _ _) _) _ _ _)); (first | (k_unfold; (try dsimp only)) | (k_end; wrow_close) | walk1 | (dsimp only; walk1) | (leave1; walk_say "STEP leave1"; try dsimp only) | fail "no step")))
    rename_i h4 oV dV tk4 C h5 lC h6 oC F5 N5 dC
    clear d1
    obtain ⟨f1, f2, f3, f4, f5, f6⟩ := lC
    replace f1 := ltN f1
    replace f2 := ltN f2
    replace f3 := ltN f3
    replace f4 := ltN f4
    replace f5 := ltN f5
    replace f6 := ltN f6
    refine wpAny_mono (Q := Mid2 s1.heap s1.heap.objs.size s1) ?fst2 ?snd2 (fun _ _ x => x)
    case fst2 =>
      --[
      (repeat' ((fail_if_success (with_reducible show wpAny _ _ (PySem.call (Value.ref _) _) _ _ _)); (fail_if_success (with_reducible show wpAny _ _ (pyIter _) _ _ _)); (first | (k_unfold; (try dsimp only)) | (k_end; wrow_close) | walk1 | (dsimp only; walk1) | (leave1; walk_say "STEP leave1"; try dsimp only) | fail "no step")))
      rename_i hpl S ws1 h7 hI1 hC1 hL1 lS W ws h8 F6 N6 hI2 lW
      have hwl := hI2.length
      rw [List.length_append, hC1] at hwl
      obtain ⟨g1, g2, g3, g4, g5, g6, g7⟩ := lS
      obtain ⟨i1, i2, i3, i4, i5, i6, i7, i8⟩ := lW
      refine for_listK (σ := CSt) (fun _ => []) (fun x => (W, listOf ws.toArray 0) :: (C, listOf x.cv.toArray x.n) :: [(V, listOf vv.toArray vn), (R, listOf rv.toArray rn), (s1.heap.objs.size + 1 + 1 + 1, oC), (s1.heap.objs.size + 1 + 1, oV), (s1.heap.objs.size + 1, oR)])
        (fun i x => x.ab.length = 4 + i ∧ Marks x.cv x.ab) ⟨[.bytes #[43, 47] tk4, .bytes #[45, 95] (tk4 + 1), .bytes #[45, 47] (tk4 + 1 + 1), .bytes #[43, 95] (tk4 + 1 + 1 + 1)], [(43, 47), (45, 95), (45, 47), (43, 95)], 0⟩ rfl (fun x => .head _) F6 N6 (fun _ => rfl) ?hm ?hl ⟨rfl, Marks.four⟩ ?turn ?done
      case hm => (repeat' (first | exact True.intro | refine And.intro ⟨_, rfl⟩ ?_ | refine And.intro rfl ?_))
      case hl =>
        intro p hp
        rcases List.mem_cons.mp hp with rfl | hp
        · exact .head _
        rcases List.mem_cons.mp hp with rfl | hp
        · exact .tail _ (.tail _ (.head _))
        rcases List.mem_cons.mp hp with rfl | hp
        · exact .tail _ (.tail _ (.tail _ (.head _)))
        rcases List.mem_cons.mp hp with rfl | hp
        · exact .tail _ (.tail _ (.tail _ (.tail _ (.head _))))
        · exact .tail _ (.tail _ (.tail _ (.tail _ (.tail _ (.tail _ hp)))))
      case turn =>
        rintro i v ⟨cv, ab, nn⟩ u h tk I oI hi hv hI ⟨hal, hmk⟩ F7 N7
        dsimp only [List.cons_append, List.nil_append] at hal hmk F7 N7
        have hcl := hmk.1
        obtain ⟨tv, hv2⟩ := hI2.get i _ (getI (by rw [List.length_append, hC1, ← hwl]; exact hi))
        have hv3 := Option.some.inj (hv.symm.trans hv2)
        subst hv3
        have j1 := neN (hI (W, listOf ws.toArray 0) (.head _))
        have j2 := neN (hI _ (.tail _ (.head _)))
        have j3 := neN (hI _ (.tail _ (.tail _ (.head _))))
        have j4 := neN (hI _ (.tail _ (.tail _ (.tail _ (.head _)))))
        have j5 := neN (hI _ (.tail _ (.tail _ (.tail _ (.tail _ (.head _))))))
        have j6 := neN (hI _ (.tail _ (.tail _ (.tail _ (.tail _ (.tail _ (.head _)))))))
        have j7 := neN (hI _ (.tail _ (.tail _ (.tail _ (.tail _ (.tail _ (.tail _ (.head _))))))))
        dsimp only at j1 j2 j3 j4 j5 j6 j7
        clear hI
        generalize (List.take 1 ns ++ ds).getD i 0 = number at hv hv2 F7
        clear hv2 hv F6 N6 hI2 hI1 g1 g2 g3 g4 g5 g6 g7
        (repeat' ((fail_if_success (with_reducible show KEnd _ _ _ _ _ _ _)); (first | (k_unfold; (try dsimp only)) | (k_end; wrow_close) | walk1 | (dsimp only; walk1) | (leave1; walk_say "STEP leave1"; try dsimp only) | fail "no step")))
        rename_i l9 h9 l8 h10 t9 k9 F9 N9 hb1 hb2 hb3 h11 F11 N11
        exact KEnd.intro (⟨cv ++ [.bytes #[(number / 256 % 256).toNat.toUInt8, (number / 65536 % 256).toNat.toUInt8] t9], ab ++ [((number / 256 % 256).toNat.toUInt8, (number / 65536 % 256).toNat.toUInt8)], nn + 1⟩ : CSt) F11 (fun p hp => N11 p (.tail _ hp)) (by (repeat' (first | exact True.intro | refine And.intro ⟨_, rfl⟩ ?_ | refine And.intro rfl ?_))) (fun _ h => h) ⟨by simp [hal]; omega, hmk.snoc⟩
      case done =>
        rintro ⟨cv, ab, nn⟩ u h tk ⟨hal, hmk⟩ F7 N7
        dsimp only at hal hmk F7 N7 ⊢
        exact Mid2.intro ⟨C, V, R, cv, vv, rv, nn, vn, rn, rs.map Int.toNat, ab, oC, oV, oR⟩ { dC := dC, dV := dV, dR := dR, rows := toI_back hrb ▸ hrv, octs := octs_of hrb, short := by simpa using hr6, vals := hvv, marks := hmk, few := by dsimp only; omega, some := by dsimp only; omega, e1 := e0, e2 := Nat.ne_of_lt f2, e3 := Nat.ne_of_lt f1, e4 := b3, e5 := e4, e6 := Nat.ne_of_lt f6, e7 := b2, e8 := e3, e9 := Nat.ne_of_lt f5, e10 := b1, e11 := e2, e12 := Nat.ne_of_lt f4 } F7 (fun p hp => N7 p (.tail _ hp))
      --]
    case snd2 =>
      clear dC dV dR N5 F5 a1 a2 a3 b0 b1 b2 b3 e0 e1 e2 e3 e4 f1 f2 f3 f4 f5 f6 hrb hr6 hd1 hd8 hrv hvv hds hI
      rintro f s' ⟨rfl, ⟨C, V, R, cv, vv, rv, cn, vn, rn, cs, ab, oC, oV, oR⟩, h, tk, u, rfl, ok, F2, N2⟩
      obtain ⟨dC, dV, dR, hrv, hcs, hc6, hvv, hmk, hab64, hab4, e1, e2, e3, e4, e5, e6, e7, e8, e9, e10, e11, e12⟩ := ok
      have hcl := hmk.1
      dsimp only at dC dV dR hrv hcs hc6 hvv hmk hab64 hab4 e1 e2 e3 e4 e5 e6 e7 e8 e9 e10 e11 e12 hcl F2 N2 ⊢
      (repeat' ((fail_if_success (with_reducible show wpAny _ _ (exec (Stmt.Assign _ (Expr.ListComp _ _ _ _) _) _) _ _ _)); (first | (k_unfold; (try dsimp only)) | (k_end; wrow_close) | walk1 | (dsimp only; walk1) | (leave1; walk_say "STEP leave1"; try dsimp only) | fail "no step")))
      refine wpAny_mono (Q := Mid3 s1.heap s1.heap.objs.size s1 ⟨C, V, R, cv, vv, rv, cn, vn, rn, cs, ab, oC, oV, oR⟩) ?fst4 ?snd4 (fun _ _ x => x)
      case fst4 =>
        --[
        k_dflt (refine LCg.Assign_ListComp_U (F₀ := by k_asm) (by rfl) (by with_unfolding_all rfl) (by with_unfolding_all rfl) (by decide) (by rfl) (by decide) (by rfl) (by rfl) (by rfl) ?_)
        (repeat' ((fail_if_success (with_reducible show LCg.CompSrc _ _ _ _ _ _ _ _ _ _ _ _ _ _)); (first | (k_unfold; (try dsimp only)) | (k_end; wrow_close) | walk1 | (dsimp only; walk1) | (leave1; walk_say "STEP leave1"; try dsimp only) | fail "no step")))
        rename_i hR FR NR hK
        rw [hcl] at hR
        obtain ⟨hsm, hsz⟩ := rangeFacts (b := ab.length) (Nat.lt_trans hab64 (by decide))
        refine LCg.CompSrc.range (n := ab.length) rfl FR NR hR hsm hsz (by rw [PySem.sizeLine_eq]; omega) ?_
        intro gg
        refine comp_inv (n := ab.length) (fun i ys news => ∃ ts ext, ys = ts.map Value.ref ∧ news = (C, listOf cv.toArray cn) :: (V, listOf vv.toArray vn) :: (R, listOf rv.toArray rn) :: (s1.heap.objs.size + 1 + 1 + 1, oC) :: (s1.heap.objs.size + 1 + 1, oV) :: (s1.heap.objs.size + 1, oR) :: ext ∧ Ents (entry cs ab) i ts ext) ?turn3 ?fin3 _ 0 [] _ (by omega) ⟨[], [], rfl, rfl, rfl, fun j hj => by omega⟩
        case turn3 =>
          rintro i ys news v I oI M oM D' m₂ h8 tk8 E8 hi ⟨ts, ext, rfl, rfl, hts⟩ ⟨tv, hv⟩ hC hx F8 N8 off8 ne8
          rw [Int.zero_add] at hv
          subst hv
          obtain ⟨of1, of2, of3⟩ := off3_ne off8
          clear FR NR
          (repeat' ((fail_if_success (with_reducible show LCg.CompEnd _ _ _ _ _ _ _ _ _ _ _ _ _ _)); (fail_if_success (with_reducible show wpAny _ _ (call (Value.type _) [Value.ref _]) _ _ _)); (first | (k_unfold; (try dsimp only)) | (k_end; wrow_close) | walk1 | (dsimp only; walk1) | (leave1; walk_say "STEP leave1"; try dsimp only) | fail "no step")))
          refine row_bytes (by k_asm) N8 (.tail _ (.tail _ (.tail _ (.tail _ (.tail _ (.head _)))))) hrv hcs hc6 rfl ?_
          intro h9 tB kB F9 N9
          clear N8
          dsimp only
          (repeat' ((fail_if_success (with_reducible show LCg.CompEnd _ _ _ _ _ _ _ _ _ _ _ _ _ _)); (fail_if_success (with_reducible show wpAny _ _ (subscriptTail _ _ _ _) _ _ _)); (fail_if_success (with_reducible show wpAny _ _ (PySem.call (Value.ref _) _) _ _ _)); (first | (k_unfold; (try dsimp only)) | (k_end; wrow_close) | walk1 | (dsimp only; walk1) | (leave1; walk_say "STEP leave1"; try dsimp only) | fail "no step")))
          refine mark_sub (by k_asm) (.tail _ (.tail _ (.tail _ (.head _)))) hmk hi hab64 ?_
          intro tM
          (repeat' ((fail_if_success (with_reducible show LCg.CompEnd _ _ _ _ _ _ _ _ _ _ _ _ _ _)); (fail_if_success (with_reducible show wpAny _ _ (PySem.call (Value.ref _) _) _ _ _)); (first | (k_unfold; (try dsimp only)) | (k_end; wrow_close) | walk1 | (dsimp only; walk1) | (leave1; walk_say "STEP leave1"; try dsimp only) | fail "no step")))
          (refine' Claim.use (b64encode_claim w (cs.map Nat.toUInt8) (ab.getD i (0, 0)).1 (ab.getD i (0, 0)).2 _ _ ((I, oI) :: (M, oM) :: (D', LCg.lst (ts.map Value.ref)) :: (C, listOf cv.toArray cn) :: (V, listOf vv.toArray vn) :: (R, listOf rv.toArray rn) :: (s1.heap.objs.size + 1 + 1 + 1, oC) :: (s1.heap.objs.size + 1 + 1, oV) :: (s1.heap.objs.size + 1, oR) :: ext) (by rw [List.length_map]; omega)) ?k1 ?k2 ?k3 ?k4 ?ks ?k5 ?kK ?kd ?ku ?ret; (case k1 => k_asm); (case k2 => k_asm); (case k3 => k_asm); (case k4 => k_asm); (case k5 => k_asm); (case kK => first | exact rfl | assumption); (case kd => ktr_room); (case ku => ktr_units))
          case ks => exact fun _ h => h
          case ret =>
          rintro r news' h' tk' F3 N3 ⟨tT, rfl, e3⟩
          rw [e3] at N3; clear e3 news'
          rw [back8 hcs]
          dsimp only
          (repeat' ((fail_if_success (with_reducible show LCg.CompEnd _ _ _ _ _ _ _ _ _ _ _ _ _ _)); (first | (k_unfold; (try dsimp only)) | (k_end; wrow_close) | walk1 | (dsimp only; walk1) | (leave1; walk_say "STEP leave1"; try dsimp only) | fail "no step")))
          rename_i Dt h7 F7 N7 l7
          obtain ⟨s1', s2', s3', s4'⟩ := l7
          exact LCg.CompEnd.intro F7 N7 ((C, listOf cv.toArray cn) :: (V, listOf vv.toArray vn) :: (R, listOf rv.toArray rn) :: (s1.heap.objs.size + 1 + 1 + 1, oC) :: (s1.heap.objs.size + 1 + 1, oV) :: (s1.heap.objs.size + 1, oR) :: (ext ++ [(Dt, tupO (entry cs ab i) tT tv)]))
            (fun p hp => by
              rcases mem_end3 [(I, oI), (M, oM), (D', LCg.lst (ts.map Value.ref)), (C, listOf cv.toArray cn), (V, listOf vv.toArray vn), (R, listOf rv.toArray rn), (s1.heap.objs.size + 1 + 1 + 1, oC), (s1.heap.objs.size + 1 + 1, oV), (s1.heap.objs.size + 1, oR)] hp with rfl | hp
              · exact .head _
              · exact .tail _ hp)
            (LCg.Off3.of fun p hp => by
              rcases mem_end3 [(C, listOf cv.toArray cn), (V, listOf vv.toArray vn), (R, listOf rv.toArray rn), (s1.heap.objs.size + 1 + 1 + 1, oC), (s1.heap.objs.size + 1 + 1, oV), (s1.heap.objs.size + 1, oR)] hp with rfl | hp
              · exact ⟨Nat.ne_of_gt s1', Nat.ne_of_gt s2', Nat.ne_of_gt s3'⟩
              · exact ⟨of1 p hp, of2 p hp, of3 p hp⟩) trivial ⟨ts ++ [Dt], ext ++ [(Dt, tupO (entry cs ab i) tT tv)], by rw [List.map_append]; rfl, rfl, hts.snoc⟩
        case fin3 =>
          rintro ys news ⟨ts, ext, rfl, rfl, hts⟩
          intro D h2 tk2 F9 N9 off9
          obtain ⟨u2, F10⟩ := frCut [(Str.ofString "heap", .v (.ref D))] F9 (by (repeat' (first | exact True.intro | refine And.intro ⟨_, rfl⟩ ?_ | refine And.intro rfl ?_)))
          exact Mid3.intro hts (off1_ne off9) F10 N9
        --]
      case snd4 =>
        clear F2 N2
        rintro f s' ⟨rfl, ts, ext, D, h2, tk2, u2, rfl, hts, hoff, F2, N2⟩
        dsimp only at hts
        dsimp only [S2.led] at hoff N2
        dsimp only
        (repeat' ((fail_if_success (with_reducible show wpAny _ _ (PySem.call (Value.ref _) _) _ _ _)); (first | (k_unfold; (try dsimp only)) | (k_end; wrow_close) | walk1 | (dsimp only; walk1) | (leave1; walk_say "STEP leave1"; try dsimp only) | fail "no step")))
        have hent : ∀ j, j < ab.length → entH h2 (ts.getD j 0) = entry cs ab j := fun j hj => hts.ent N2 (fun p hp => .tail _ (.tail _ (.tail _ (.tail _ (.tail _ (.tail _ (.tail _ hp))))))) hj
        have hE : ∀ a ∈ ts, ∃ t u, (a, tupO (entH h2 a) t u) ∈ ext := hts.all N2 (fun p hp => .tail _ (.tail _ (.tail _ (.tail _ (.tail _ (.tail _ (.tail _ hp)))))))
        have htl : ts.length = ab.length := hts.1
        generalize entH h2 = ent at hent hE
        (refine' Claim.use (heapify_claim w D ts (ts.map Value.ref).length ((C, listOf cv.toArray cn) :: (V, listOf vv.toArray vn) :: (R, listOf rv.toArray rn) :: (s1.heap.objs.size + 1 + 1 + 1, oC) :: (s1.heap.objs.size + 1 + 1, oV) :: (s1.heap.objs.size + 1, oR) :: ext) ent (fun a ha => by obtain ⟨t, u, e⟩ := hE a ha; exact ⟨t, u, .tail _ (.tail _ (.tail _ (.tail _ (.tail _ (.tail _ e)))))⟩) hoff (by omega) (elt_ok ent)) ?k1 ?k2 ?k3 ?k4 ?ks ?k5 ?kK ?kd ?ku ?ret; (case k1 => k_asm); (case k2 => k_asm); (case k3 => k_asm); (case k4 => k_asm); (case k5 => k_asm); (case kK => first | exact rfl | assumption); (case kd => ktr_room); (case ku => ktr_units))
        case ks => exact fun _ h => h
        case ret =>
        rintro r news' h3 tk3 F3 N3 ⟨rfl, as', hpa, hha, rfl⟩
        clear F2 N2
        dsimp only
        (repeat' ((fail_if_success (with_reducible show wpAny _ _ (PySem.call (Value.ref _) _) _ _ _)); (first | (k_unfold; (try dsimp only)) | (k_end; wrow_close) | walk1 | (dsimp only; walk1) | (leave1; walk_say "STEP leave1"; try dsimp only) | fail "no step")))
        have hcl2 : cv.length = as'.length := by have := hpa.length_eq; omega
        have hEa : ∀ a ∈ as', ∃ t u, (a, tupO (ent a) t u) ∈ (C, listOf cv.toArray cn) :: (V, listOf vv.toArray vn) :: (R, listOf rv.toArray rn) :: (s1.heap.objs.size + 1 + 1 + 1, oC) :: (s1.heap.objs.size + 1 + 1, oV) :: (s1.heap.objs.size + 1, oR) :: ext := fun a ha => by
          obtain ⟨t, u, e⟩ := hE a (hpa.mem_iff.mp ha)
          exact ⟨t, u, .tail _ (.tail _ (.tail _ (.tail _ (.tail _ (.tail _ e)))))⟩
        refine emptied_claimN w D as' (ts.map Value.ref).length cv.length _ hcl2 _ ent hEa hoff (by omega) (elt_ok ent) hha _ _ _ _ _ _ _ _ _ _ _ _ _ _ _ _ _ _ K0 (by k_asm) (by k_asm) (by k_asm) (by k_asm) (by exact rfl) (by ktr_room) (by ktr_units) ?_
        intro D2 es n2 h4 tk4 hpe hse F4 N4 hne2
        clear F3 N3 hEa
        dsimp only
        (repeat' ((fail_if_success (with_reducible show wpAny _ _ (PySem.eval (Expr.ListComp _ _ _ _) _) _ _ _)); (first | (k_unfold; (try dsimp only)) | (k_end; wrow_close) | walk1 | (dsimp only; walk1) | (leave1; walk_say "STEP leave1"; try dsimp only) | fail "no step")))
        rename_i h5 F5 N5
        obtain ⟨u5, F6⟩ := frCut [(Str.ofString "entries", .v (.ref D2))] F5 (by (repeat' (first | exact True.intro | refine And.intro ⟨_, rfl⟩ ?_ | refine And.intro rfl ?_)))
        clear F5
        have hel : es.length = ab.length := by have := hpe.length_eq; omega
        k_dflt (refine LCt.ListComp_T (F₀ := by k_asm) (by with_unfolding_all rfl) (by decide) (by rfl) (by decide) (by rfl) ?_)
        (repeat' ((fail_if_success (with_reducible show LCt.CompSrcT _ _ _ _ _ _ _ _ _ _ _ _ _ _ _)); (first | (k_unfold; (try dsimp only)) | (k_end; wrow_close) | walk1 | (dsimp only; walk1) | (leave1; walk_say "STEP leave1"; try dsimp only) | fail "no step")))
        refine LCt.CompSrcT.ledger (its := (es.map Value.ref).toArray) (k := n2) rfl (by k_asm) (by k_asm) (.head _) (by rw [List.size_toArray, List.length_map, PySem.sizeLine_eq]; omega) ?_
        intro gg
        have hesz : (es.map Value.ref).toArray.size = ab.length := by rw [List.size_toArray, List.length_map, hel]
        rw [hesz]
        refine comp_invT (n := ab.length) (fun _ ys news => ys = [] ∧ news = (D2, listOf (es.map Value.ref).toArray n2) :: (C, listOf cv.toArray cn) :: (V, listOf vv.toArray vn) :: (R, listOf rv.toArray rn) :: (s1.heap.objs.size + 1 + 1 + 1, oC) :: (s1.heap.objs.size + 1 + 1, oV) :: (s1.heap.objs.size + 1, oR) :: ext) ?turn5 ?fin5 _ 0 [] _ (by omega) ⟨rfl, rfl⟩
        case turn5 =>
          rintro i ys news v I oI M oM D' m₂ h8 tk8 E8 hi ⟨rfl, rfl⟩ hv hC hx F8 N8 off8 ne8
          have hi2 : i < es.length := by omega
          have hv3 : v = .ref (es.getD i 0) := by
            rw [List.getElem?_toArray, refs_get hi2] at hv
            exact (Option.some.inj hv).symm
          subst hv3
          obtain ⟨te, ue, he⟩ := hE _ (hpa.mem_iff.mp (hpe.mem_iff.mp (mem_getD hi2)))
          (repeat' ((fail_if_success (with_reducible show LCg.CompEnd _ _ _ _ _ _ _ _ _ _ _ _ _ _)); (fail_if_success (with_reducible show wpAny _ _ (subscriptTail _ _ _ _) _ _ _)); (first | (k_unfold; (try dsimp only)) | (k_end; wrow_close) | walk1 | (dsimp only; walk1) | (leave1; walk_say "STEP leave1"; try dsimp only) | fail "no step")))
          refine tup_first N8 (.tail _ (.tail _ (.tail _ (.tail _ (.tail _ (.tail _ (.tail _ (.tail _ (.tail _ (.tail _ he)))))))))) ?_
          (repeat' ((fail_if_success (with_reducible show LCg.CompEnd _ _ _ _ _ _ _ _ _ _ _ _ _ _)); (first | (k_unfold; (try dsimp only)) | (k_end; wrow_close) | walk1 | (dsimp only; walk1) | (leave1; walk_say "STEP leave1"; try dsimp only) | fail "no step")))
          exact LCg.CompEnd.intro (by k_asm) (by k_asm) _ (fun _ h => h) off8 (.inr ⟨_, .head _, rfl, n2, rfl⟩) ⟨rfl, rfl⟩
        case fin5 =>
          rintro ys news ⟨rfl, rfl⟩
          intro D3 h9 tk9 F9 N9 off9
          clear N5 F6
          dsimp only
          (repeat' ((fail_if_success (with_reducible show wpAny _ _ (compareOp CmpOp.NotEq (Value.ref _) (Value.ref _)) _ _ _)); (fail_if_success (with_reducible show wpAny _ _ (PySem.eval (Expr.ListComp _ _ _ _) _) _ _ _)); (first | (k_unfold; (try dsimp only)) | (k_end; wrow_close) | walk1 | (dsimp only; walk1) | (leave1; walk_say "STEP leave1"; try dsimp only) | fail "no step")))
          rename_i D7 h7 F7 N7 l7
          refine ne_nil N7 (.tail _ (.head _)) (.head _) (by ktr_units) ?_
          (repeat' ((fail_if_success (with_reducible show wpAny _ _ (compareOp CmpOp.NotEq (Value.ref _) (Value.ref _)) _ _ _)); (fail_if_success (with_reducible show wpAny _ _ (PySem.eval (Expr.ListComp _ _ _ _) _) _ _ _)); (first | (k_unfold; (try dsimp only)) | (k_end; wrow_close) | walk1 | (dsimp only; walk1) | (leave1; walk_say "STEP leave1"; try dsimp only) | fail "no step")))
          clear l7 off9
          k_dflt (refine LCg.ListComp_U (F₀ := by k_asm) (by with_unfolding_all rfl) (by decide) (by rfl) (by decide) (by rfl) ?_)
          (repeat' ((fail_if_success (with_reducible show LCg.CompSrc _ _ _ _ _ _ _ _ _ _ _ _ _ _)); (fail_if_success (with_reducible show wpAny _ _ (PySem.call (Value.ref _) _) _ _ _)); (first | (k_unfold; (try dsimp only)) | (k_end; wrow_close) | walk1 | (dsimp only; walk1) | (leave1; walk_say "STEP leave1"; try dsimp only) | fail "no step")))
          (refine' Claim.use (order_claim w V C vv cv (toI (vals cs)) vn cn ((D2, listOf (es.map Value.ref).toArray n2) :: (s1.heap.objs.size + 1 + 1 + 1, oC) :: (s1.heap.objs.size + 1 + 1, oV) :: (s1.heap.objs.size + 1, oR) :: ext) hvv (by rw [List.length_map, vals_len]; omega) toI_lt64 e3 ab hmk.2 hmk.1 hab64 (by omega)) ?k1 ?k2 ?k3 ?k4 ?ks ?k5 ?kK ?kd ?ku ?ret; (case k1 => k_asm); (case k2 => k_asm); (case k3 => k_asm); (case k4 => k_asm); (case k5 => k_asm); (case kK => first | exact rfl | assumption); (case kd => ktr_room); (case ku => ktr_units))
          case ks =>
            intro q hq
            rcases List.mem_cons.mp hq with rfl | hq
            · exact .tail _ (.tail _ (.tail _ (.tail _ (.head _))))
            rcases List.mem_cons.mp hq with rfl | hq
            · exact .tail _ (.tail _ (.tail _ (.head _)))
            rcases List.mem_cons.mp hq with rfl | hq
            · exact .tail _ (.tail _ (.head _))
            · exact .tail _ (.tail _ (.tail _ (.tail _ (.tail _ (.tail _ hq)))))
          case ret =>
          rintro r news' h10 tk10 F10 N10 ⟨O, ov, on, p, rfl, hov, hp, hup, rfl, hone⟩
          clear N7
          have hpsz := hp.size
          have hovl : ov.length = ab.length := by
            have e := hov.length
            rw [List.length_map] at e
            rw [e]; exact hpsz
          dsimp only
          (repeat' ((fail_if_success (with_reducible show LCg.CompSrc _ _ _ _ _ _ _ _ _ _ _ _ _ _)); (first | (k_unfold; (try dsimp only)) | (k_end; wrow_close) | walk1 | (dsimp only; walk1) | (leave1; walk_say "STEP leave1"; try dsimp only) | fail "no step")))
          refine LCg.CompSrc.ledger (its := ov.toArray) (k := on) rfl (by k_asm) (by k_asm) (.head _) (by rw [List.size_toArray, PySem.sizeLine_eq]; omega) ?_
          intro gg2
          have hosz : ov.toArray.size = ab.length := by rw [List.size_toArray, hovl]
          rw [hosz]
          refine comp_inv (n := ab.length) (fun i ys news => ∃ qs ext2, ys = qs.map Value.ref ∧ news = (O, listOf ov.toArray on) :: (V, listOf vv.toArray vn) :: (C, listOf cv.toArray cn) :: (D2, listOf (es.map Value.ref).toArray n2) :: (s1.heap.objs.size + 1 + 1 + 1, oC) :: (s1.heap.objs.size + 1 + 1, oV) :: (s1.heap.objs.size + 1, oR) :: (ext ++ ext2) ∧ Ents (fun j => entry cs ab (g p j)) i qs ext2) ?turn6 ?fin6 _ 0 [] _ (by omega) ⟨[], [], rfl, by rw [List.append_nil], rfl, fun j hj => by omega⟩
          case turn6 =>
            rintro i ys news v I oI M oM D' m₂ h8 tk8 E8 hi ⟨qs, ext2, rfl, rfl, hqs⟩ hv hC hx F8 N8 off8 ne8
            obtain ⟨of1, of2, of3⟩ := off3_ne off8
            have hgi : g p i < ab.length := hp.bnd hi
            obtain ⟨tv, hv2⟩ := hov.get i ((g p i : Nat) : Int) (by rw [List.getElem?_map, Array.getElem?_toList, g_some (by omega)]; rfl)
            have hv3 : v = .int ((g p i : Nat) : Int) tv := by rw [List.getElem?_toArray, hv2] at hv; exact (Option.some.inj hv).symm
            subst hv3
            (repeat' ((fail_if_success (with_reducible show LCg.CompEnd _ _ _ _ _ _ _ _ _ _ _ _ _ _)); (fail_if_success (with_reducible show wpAny _ _ (subscriptTail _ _ _ _) _ _ _)); (fail_if_success (with_reducible show wpAny _ _ (PySem.call (Value.ref _) _) _ _ _)); (first | (k_unfold; (try dsimp only)) | (k_end; wrow_close) | walk1 | (dsimp only; walk1) | (leave1; walk_say "STEP leave1"; try dsimp only) | fail "no step")))
            refine mark_sub N8 (.tail _ (.tail _ (.tail _ (.tail _ (.tail _ (.head _)))))) hmk hgi hab64 ?_
            intro tM
            (repeat' ((fail_if_success (with_reducible show LCg.CompEnd _ _ _ _ _ _ _ _ _ _ _ _ _ _)); (fail_if_success (with_reducible show wpAny _ _ (PySem.call (Value.ref _) _) _ _ _)); (first | (k_unfold; (try dsimp only)) | (k_end; wrow_close) | walk1 | (dsimp only; walk1) | (leave1; walk_say "STEP leave1"; try dsimp only) | fail "no step")))
            (refine' Claim.use (text_claim w V vv (vals cs) (ab.getD (g p i) (0, 0)).1 (ab.getD (g p i) (0, 0)).2 _ vn ((I, oI) :: (M, oM) :: (D', LCg.lst (qs.map Value.ref)) :: (O, listOf ov.toArray on) :: (C, listOf cv.toArray cn) :: (D2, listOf (es.map Value.ref).toArray n2) :: (s1.heap.objs.size + 1 + 1 + 1, oC) :: (s1.heap.objs.size + 1 + 1, oV) :: (s1.heap.objs.size + 1, oR) :: (ext ++ ext2)) hvv (by rw [vals_len]; omega) vals_lt) ?k1 ?k2 ?k3 ?k4 ?ks ?k5 ?kK ?kd ?ku ?ret; (case k1 => k_asm); (case k2 => k_asm); (case k3 => k_asm); (case k4 => k_asm); (case k5 => k_asm); (case kK => first | exact rfl | assumption); (case kd => ktr_room); (case ku => ktr_units))
            case ks => exact fun q hq => mem_swap' (xs := [(I, oI), (M, oM), (D', LCg.lst (qs.map Value.ref)), (O, listOf ov.toArray on)]) hq
            case ret =>
            rintro r news' h' tk' F3 N3 ⟨tT, rfl, e9'⟩
            rw [e9'] at N3; clear e9' news' F8 N8
            dsimp only
            (repeat' ((fail_if_success (with_reducible show LCg.CompEnd _ _ _ _ _ _ _ _ _ _ _ _ _ _)); (first | (k_unfold; (try dsimp only)) | (k_end; wrow_close) | walk1 | (dsimp only; walk1) | (leave1; walk_say "STEP leave1"; try dsimp only) | fail "no step")))
            rename_i Dt h7' F7' N7' l7'
            obtain ⟨_, s1', s2', s3', s4'⟩ := l7'
            exact LCg.CompEnd.intro F7' N7' ((O, listOf ov.toArray on) :: (V, listOf vv.toArray vn) :: (C, listOf cv.toArray cn) :: (D2, listOf (es.map Value.ref).toArray n2) :: (s1.heap.objs.size + 1 + 1 + 1, oC) :: (s1.heap.objs.size + 1 + 1, oV) :: (s1.heap.objs.size + 1, oR) :: (ext ++ (ext2 ++ [(Dt, tupO (entry cs ab (g p i)) tT tv)])))
              (fun q hq => by
                rcases mem_put [(I, oI), (M, oM), (D', LCg.lst (qs.map Value.ref)), (O, listOf ov.toArray on), (V, listOf vv.toArray vn), (C, listOf cv.toArray cn), (D2, listOf (es.map Value.ref).toArray n2), (s1.heap.objs.size + 1 + 1 + 1, oC), (s1.heap.objs.size + 1 + 1, oV), (s1.heap.objs.size + 1, oR)] hq with rfl | hq
                · exact .head _
                · exact .tail _ (mem_swap (xs := [(I, oI), (M, oM), (D', LCg.lst (qs.map Value.ref)), (O, listOf ov.toArray on)]) hq))
              (LCg.Off3.of fun q hq => by
                have hq2 := mem_put [(O, listOf ov.toArray on), (V, listOf vv.toArray vn), (C, listOf cv.toArray cn), (D2, listOf (es.map Value.ref).toArray n2), (s1.heap.objs.size + 1 + 1 + 1, oC), (s1.heap.objs.size + 1 + 1, oV), (s1.heap.objs.size + 1, oR)] hq
                rcases hq2 with rfl | hq2
                · exact ⟨Nat.ne_of_gt s1', Nat.ne_of_gt s2', Nat.ne_of_gt s3'⟩
                · exact ⟨of1 q hq2, of2 q hq2, of3 q hq2⟩) (.inr ⟨_, .head _, rfl, on, rfl⟩) ⟨qs ++ [Dt], ext2 ++ [(Dt, tupO (entry cs ab (g p i)) tT tv)], by rw [List.map_append]; rfl, rfl, hqs.snoc⟩
          case fin6 =>
            rintro ys news ⟨qs, ext2, rfl, rfl, hqs⟩
            intro D4 h11 tk11 F11 N11 off11
            dsimp only
            (repeat' ((fail_if_success (with_reducible show wpAny _ _ (compareOp CmpOp.Eq (Value.ref _) (Value.ref _)) _ _ _)); (first | (k_unfold; (try dsimp only)) | (k_end; wrow_close) | walk1 | (dsimp only; walk1) | (leave1; walk_say "STEP leave1"; try dsimp only) | fail "no step")))
            refine eq_entries (as := es) (bs := qs) (f := fun j => entry cs ab (g p j)) N11 (.tail _ (.tail _ (.tail _ (.tail _ (.head _))))) (.head _) (by rw [hel, hqs.1]) ?he1 ?he2 (by ktr_units) ?_
            case he1 =>
              intro k hk
              obtain ⟨te, ue, he⟩ := hE _ (hpa.mem_iff.mp (hpe.mem_iff.mp (mem_getD hk)))
              rw [out_entry htl hent (hpe.trans hpa) hse hp hup (by omega)] at he
              exact ⟨te, ue, .tail _ (.tail _ (.tail _ (.tail _ (.tail _ (.tail _ (.tail _ (.tail _ (List.mem_append.mpr (.inl he)))))))))⟩
            case he2 =>
              intro k hk
              obtain ⟨te, ue, he⟩ := hqs.2 k (by omega)
              exact ⟨te, ue, .tail _ (.tail _ (.tail _ (.tail _ (.tail _ (.tail _ (.tail _ (.tail _ (List.mem_append.mpr (.inr he)))))))))⟩
            (repeat' ( (first | (k_unfold; (try dsimp only)) | (k_end; wrow_close) | walk1 | (dsimp only; walk1) | (leave1; walk_say "STEP leave1"; try dsimp only) | fail "no step"))))
end Mine
end
set_option maxRecDepth 100000 in
theorem PySem.Challenge.cw_mq0105_01_holds : PySem.Challenge.rw_mq0105_01.Holds := by
  exact Mine.law_holds
