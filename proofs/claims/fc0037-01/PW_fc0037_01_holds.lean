import PyProof.Rows.All
import Wide.All
import OpenK.AllK
import Wide.FinOn
import PySem.Challenge.RW_fc0037_01
namespace Mine

/-- asks (last first), order (next to go first), loads -/
inductive On (lru : Bool) (k : Nat) : List Int → List Int → List Int → Prop
  | nil : On lru k [] [] []
  | hit {pre q l : List Int} {x : Int} : On lru k pre q l → x ∈ q → On lru k (x :: pre) (if lru then q.erase x ++ [x] else q) l
  | miss {pre q l : List Int} {x : Int} : On lru k pre q l → x ∉ q → On lru k (x :: pre) ((if q.length < k then q else q.tail) ++ [x]) (l ++ [x])

inductive Op (h : Nat) : List Int → List Int → List Int → Prop
  | nil : Op h [] [] []
  | hit {pre c l : List Int} {x : Int} : Op h pre c l → x ∈ c → Op h (x :: pre) c l
  | miss {pre c c' l : List Int} {x : Int} : Op h pre c l → x ∉ c → (∀ y ∈ c', y = x ∨ y ∈ c) → x ∈ c' → c'.length ≤ h → Op h (x :: pre) c' (l ++ [x])

theorem On.facts {lru : Bool} {k : Nat} (hk : 0 < k) {pre q l : List Int} (H : On lru k pre q l) :
    q.Nodup ∧ q.length ≤ k ∧ (l.length ≤ k → l.Nodup ∧ q.length = l.length ∧ ∀ y, y ∈ l ↔ y ∈ q) ∧ (l.take k).Nodup ∧ (l = [] → pre = []) := by
  induction H with
  | nil => simp
  | @hit pre q l x _ hx ih =>
    obtain ⟨h1, h2, h3, h4, h5⟩ := ih
    have hl : l ≠ [] := by
      intro e
      have e3 := (h3 (by simp [e])).2.2 x
      rw [e] at e3
      simp [hx] at e3
    cases lru with
    | false => exact ⟨h1, h2, h3, h4, fun e => absurd e hl⟩
    | true =>
      simp only [if_true]
      have hnx : x ∉ q.erase x := fun h => (h1.mem_erase_iff.mp h).1 rfl
      have hlen : (q.erase x ++ [x]).length = q.length := by
        rw [List.length_append, List.length_erase_of_mem hx]
        have := List.length_pos_of_mem hx
        simp only [List.length_cons, List.length_nil]; omega
      have hmem : ∀ y, y ∈ q.erase x ++ [x] ↔ y ∈ q := by
        intro y
        rw [List.mem_append, h1.mem_erase_iff, List.mem_singleton]
        constructor
        · rintro (⟨_, h⟩ | rfl)
          · exact h
          · exact hx
        · intro h
          by_cases e : y = x
          · exact .inr e
          · exact .inl ⟨e, h⟩
      refine ⟨?_, by omega, fun hle => ?_, h4, fun e => absurd e hl⟩
      · refine List.nodup_append.mpr ⟨h1.erase x, by simp, ?_⟩
        intro a ha b hb
        rw [List.mem_singleton] at hb
        subst hb
        intro e
        exact hnx (e ▸ ha)
      · obtain ⟨a, b, c⟩ := h3 hle
        exact ⟨a, by omega, fun y => (c y).trans (hmem y).symm⟩
  | @miss pre q l x _ hx ih =>
    obtain ⟨h1, h2, h3, h4, h5⟩ := ih
    refine ⟨?_, ?_, fun hle => ?_, ?_, fun e => by simp at e⟩
    · refine List.nodup_append.mpr ⟨?_, by simp, ?_⟩
      · split
        · exact h1
        · exact h1.sublist (List.tail_sublist q)
      · intro a ha b hb
        rw [List.mem_singleton] at hb
        subst hb
        intro e
        subst e
        refine hx ?_
        split at ha
        · exact ha
        · exact List.mem_of_mem_tail ha
    · split
      · simp only [List.length_append, List.length_cons, List.length_nil]; omega
      · simp only [List.length_append, List.length_cons, List.length_nil, List.length_tail]; omega
    · simp only [List.length_append, List.length_cons, List.length_nil] at hle
      obtain ⟨a, b, c⟩ := h3 (by omega)
      have hlt : q.length < k := by omega
      rw [if_pos hlt]
      refine ⟨?_, by simp [b], fun y => by simp only [List.mem_append, c y]⟩
      refine List.nodup_append.mpr ⟨a, by simp, ?_⟩
      intro u hu v hv
      rw [List.mem_singleton] at hv
      subst hv
      intro e
      subst e
      exact hx ((c u).mp hu)
    · by_cases hle : l.length < k
      · obtain ⟨a, b, c⟩ := h3 (by omega)
        rw [List.take_of_length_le (by simp only [List.length_append, List.length_cons, List.length_nil]; omega)]
        refine List.nodup_append.mpr ⟨a, by simp, ?_⟩
        intro u hu v hv
        rw [List.mem_singleton] at hv
        subst hv
        intro e
        subst e
        exact hx ((c u).mp hu)
      · rw [List.take_append_of_le_length (by omega)]
        exact h4

theorem Op.len {h : Nat} {pre c l : List Int} (H : Op h pre c l) : c.length ≤ h := by
  induction H with
  | nil => simp
  | hit _ _ ih => exact ih
  | miss _ _ _ _ hl _ => exact hl

/-- one ask at the other way: what it holds behind it, what it has loaded. -/
theorem Op.step {h : Nat} {x : Int} {pre c' l' : List Int} (H : Op h (x :: pre) c' l') :
    ∃ c l t, Op h pre c l ∧ l' = l ++ t ∧ (t = [] ∨ t = [x]) ∧ (x ∈ c ∨ t = [x]) ∧ (∀ y ∈ c', y = x ∨ y ∈ c) ∧ x ∈ c' ∧ c'.length ≤ h := by
  have hl := H.len
  cases H with
  | hit H hx => exact ⟨_, _, [], H, by simp, .inl rfl, .inl hx, fun y hy => .inr hy, hx, hl⟩
  | miss H hx hs hm hle => exact ⟨_, _, [x], H, rfl, .inr rfl, .inr rfl, hs, hm, hle⟩

inductive Joint (f k h : Nat) (q c : List Int) (n m : Nat) : Prop
  | early : n < f → n = q.length → (∀ y ∈ c, y ∈ q) → n ≤ m → Joint f k h q c n m
  | late (p : Int) (S0 T S : List Int) (j r m0 : Nat) : n = f + j * k + r → r < k → f + (k + 1 - h) * j ≤ m0 → m = m0 + T.length → S0.length + 1 ≤ h →
      (∀ y ∈ c, y = p ∨ y ∈ S0 ++ T) → (∀ y ∈ S, y ∈ S0 ++ T) → S.Nodup → p ∉ S → r ≤ S.length →
      (S.length < k → ∃ a b, q = a ++ b ∧ b.length = S.length + 1 ∧ ∀ y, y ∈ b ↔ y = p ∨ y ∈ S) → Joint f k h q c n m

theorem nodup_le {S U : List Int} (hn : S.Nodup) (hs : ∀ y ∈ S, y ∈ U) : S.length ≤ U.length := by
  induction S generalizing U with
  | nil => simp
  | cons a S ih =>
    rw [List.nodup_cons] at hn
    have ha := hs a (by simp)
    have := ih (U := U.erase a) hn.2 fun y hy => by
      have hne : y ≠ a := fun e => hn.1 (e ▸ hy)
      exact (List.mem_erase_of_ne hne).mpr (hs y (by simp [hy]))
    rw [List.length_erase_of_mem ha] at this
    have := List.length_pos_of_mem ha
    simp only [List.length_cons]; omega

theorem new_phase {f k h : Nat} {q' c' : List Int} {x : Int} {j m' : Nat} {a : List Int} (hk : 0 < k) (hq : q' = a ++ [x]) (hm : f + (k + 1 - h) * j ≤ m') (hx : x ∈ c') (hl : c'.length ≤ h) :
    Joint f k h q' c' (f + j * k) m' := by
  refine .late x (c'.erase x) [] [] j 0 m' (by omega) hk hm (by simp) ?_ ?_ (fun y hy => by cases hy) (by simp) (by simp) (by simp) ?_
  · rw [List.length_erase_of_mem hx]
    have := List.length_pos_of_mem hx
    omega
  · intro y hy
    by_cases e : y = x
    · exact .inl e
    · exact .inr (by rw [List.append_nil]; exact (List.mem_erase_of_ne e).mpr hy)
  · intro _
    exact ⟨a, [x], hq, by simp, fun y => by simp⟩

theorem joint {lru : Bool} {f k h : Nat} (hf : 0 < f) (hfk : f ≤ k) (h0 : 0 < h) (hhk : h ≤ k) : ∀ {pre q l c l' : List Int}, On lru k pre q l → Op h pre c l' → Joint f k h q c l.length l'.length := by
  have hk : 0 < k := by omega
  intro pre
  induction pre with
  | nil =>
    intro q l c l' H1 H2
    cases H1
    cases H2
    exact .early hf rfl (by simp) (by simp)
  | cons x pre ih =>
    intro q' l c' l' H1 H2
    obtain ⟨c, l₂, t, H2', rfl, ht, hxt, hcs, hxc, hcl⟩ := H2.step
    have htl : t.length ≤ 1 := by rcases ht with rfl | rfl <;> simp
    cases H1 with
    | @hit _ q _ _ H1 hx =>
      have I := ih H1 H2'
      obtain ⟨hnd, hqk, -⟩ := H1.facts hk
      have hlen : (if lru = true then q.erase x ++ [x] else q).length = q.length := by
        split
        · rw [List.length_append, List.length_erase_of_mem hx]
          have := List.length_pos_of_mem hx
          simp only [List.length_cons, List.length_nil]; omega
        · rfl
      have hmem : ∀ y, y ∈ (if lru = true then q.erase x ++ [x] else q) ↔ y ∈ q := by
        intro y
        split
        · rw [List.mem_append, hnd.mem_erase_iff, List.mem_singleton]
          constructor
          · rintro (⟨_, h⟩ | rfl)
            · exact h
            · exact hx
          · intro h
            by_cases e : y = x
            · exact .inr e
            · exact .inl ⟨e, h⟩
        · exact Iff.rfl
      rw [List.length_append]
      cases I with
      | early a1 a2 a3 a4 =>
        refine .early a1 (by omega) (fun y hy => (hmem y).mpr ?_) (by omega)
        rcases hcs y hy with rfl | e
        · exact hx
        · exact a3 y e
      | late p S0 T S j r m0 a1 a2 a3 a4 a5 a6 a7 a8 a9 a10 a11 =>
        have hc' : ∀ y ∈ c', y = p ∨ y ∈ S0 ++ (T ++ t) := by
          intro y hy
          rcases hcs y hy with rfl | e
          · rcases hxt with e | e
            · rcases a6 _ e with q | q
              · exact .inl q
              · exact .inr (by rw [← List.append_assoc]; exact List.mem_append_left _ q)
            · exact .inr (by simp [e])
          · rcases a6 _ e with q | q
            · exact .inl q
            · exact .inr (by rw [← List.append_assoc]; exact List.mem_append_left _ q)
        have hS : ∀ y ∈ S, y ∈ S0 ++ (T ++ t) := fun y hy => by rw [← List.append_assoc]; exact List.mem_append_left _ (a7 y hy)
        have hm : l₂.length + t.length = m0 + (T ++ t).length := by rw [List.length_append]; omega
        cases lru with
        | false => exact .late p S0 (T ++ t) S j r m0 a1 a2 a3 hm a5 hc' hS a8 a9 a10 a11
        | true =>
          simp only [if_true]
          by_cases hSk : S.length < k
          · obtain ⟨a, b, rfl, hb, hbm⟩ := a11 hSk
            obtain ⟨na, nb, nab⟩ := List.nodup_append.mp hnd
            by_cases hxb : x ∈ b
            · have hxa : x ∉ a := fun h => nab x h x hxb rfl
              refine .late p S0 (T ++ t) S j r m0 a1 a2 a3 hm a5 hc' hS a8 a9 a10 fun _ => ⟨a, b.erase x ++ [x], ?_, ?_, ?_⟩
              · rw [List.erase_append_right _ hxa, List.append_assoc]
              · rw [List.length_append, List.length_erase_of_mem hxb]
                have := List.length_pos_of_mem hxb
                simp only [List.length_cons, List.length_nil]; omega
              · intro y
                rw [← hbm y, List.mem_append, nb.mem_erase_iff, List.mem_singleton]
                constructor
                · rintro (⟨_, h⟩ | rfl)
                  · exact h
                  · exact hxb
                · intro h
                  by_cases e : y = x
                  · exact .inr e
                  · exact .inl ⟨e, h⟩
            · have hxa : x ∈ a := (List.mem_append.mp hx).resolve_right hxb
              have hxp : x ≠ p := fun e => hxb ((hbm x).mpr (.inl e))
              have hxS : x ∉ S := fun e => hxb ((hbm x).mpr (.inr e))
              refine .late p S0 (T ++ t) (S ++ [x]) j r m0 a1 a2 a3 hm a5 hc' ?_ ?_ ?_ ?_ fun hlt => ⟨a.erase x, b ++ [x], ?_, ?_, ?_⟩
              · intro y hy
                rcases List.mem_append.mp hy with h | h
                · exact hS y h
                · rw [List.mem_singleton] at h
                  subst h
                  exact (hc' y hxc).resolve_left hxp
              · refine List.nodup_append.mpr ⟨a8, by simp, ?_⟩
                intro u hu v hv
                rw [List.mem_singleton] at hv
                subst hv
                intro e
                subst e
                exact hxS hu
              · simp [a9, Ne.symm hxp]
              · simp only [List.length_append, List.length_cons, List.length_nil]; omega
              · rw [List.erase_append_left _ hxa, List.append_assoc]
              · simp [hb]
              · intro y
                simp only [List.mem_append, hbm y, List.mem_singleton, or_assoc]
          · exact .late p S0 (T ++ t) S j r m0 a1 a2 a3 hm a5 hc' hS a8 a9 a10 fun h => absurd h hSk
    | @miss _ q l _ H1 hx =>
      have I := ih H1 H2'
      obtain ⟨hnd, hqk, -⟩ := H1.facts hk
      rw [List.length_append, List.length_append, List.length_singleton]
      cases I with
      | early a1 a2 a3 a4 =>
        have ht1 : t = [x] := hxt.resolve_left fun e => hx (a3 x e)
        have htl : t.length = 1 := by simp [ht1]
        have hlt : q.length < k := by omega
        by_cases hlf : l.length + 1 < f
        · refine .early hlf ?_ ?_ (by omega)
          · rw [if_pos hlt]; simp only [List.length_append, List.length_cons, List.length_nil]; omega
          · intro y hy
            rw [if_pos hlt]
            rcases hcs y hy with rfl | e
            · simp
            · exact List.mem_append_left _ (a3 y e)
        · have e : l.length + 1 = f + 0 * k := by omega
          rw [e]
          exact new_phase hk rfl (by omega) hxc hcl
      | late p S0 T S j r m0 a1 a2 a3 a4 a5 a6 a7 a8 a9 a10 a11 =>
        have hc' : ∀ y ∈ c', y = p ∨ y ∈ S0 ++ (T ++ t) := by
          intro y hy
          rcases hcs y hy with rfl | e
          · rcases hxt with e | e
            · rcases a6 _ e with q | q
              · exact .inl q
              · exact .inr (by rw [← List.append_assoc]; exact List.mem_append_left _ q)
            · exact .inr (by simp [e])
          · rcases a6 _ e with q | q
            · exact .inl q
            · exact .inr (by rw [← List.append_assoc]; exact List.mem_append_left _ q)
        have hS : ∀ y ∈ S, y ∈ S0 ++ (T ++ t) := fun y hy => by rw [← List.append_assoc]; exact List.mem_append_left _ (a7 y hy)
        have hm : l₂.length + t.length = m0 + (T ++ t).length := by rw [List.length_append]; omega
        -- the new set of keys
        have key : ∃ S' : List Int, (∀ y ∈ S', y ∈ S0 ++ (T ++ t)) ∧ S'.Nodup ∧ p ∉ S' ∧ r + 1 ≤ S'.length ∧
            (S'.length < k → ∃ a b, (if q.length < k then q else q.tail) ++ [x] = a ++ b ∧ b.length = S'.length + 1 ∧ ∀ y, y ∈ b ↔ y = p ∨ y ∈ S') := by
          by_cases hSk : S.length < k
          · obtain ⟨a, b, rfl, hb, hbm⟩ := a11 hSk
            have hxb : x ∉ b := fun h => hx (List.mem_append_right _ h)
            have hxp : x ≠ p := fun e => hxb ((hbm x).mpr (.inl e))
            have hxS : x ∉ S := fun e => hxb ((hbm x).mpr (.inr e))
            refine ⟨S ++ [x], ?_, ?_, ?_, ?_, fun hlt => ?_⟩
            · intro y hy
              rcases List.mem_append.mp hy with h | h
              · exact hS y h
              · rw [List.mem_singleton] at h
                subst h
                exact (hc' y hxc).resolve_left hxp
            · refine List.nodup_append.mpr ⟨a8, by simp, ?_⟩
              intro u hu v hv
              rw [List.mem_singleton] at hv
              subst hv
              intro e
              subst e
              exact hxS hu
            · simp [a9, Ne.symm hxp]
            · simp only [List.length_append, List.length_cons, List.length_nil]; omega
            · simp only [List.length_append, List.length_cons, List.length_nil] at hlt hqk
              have hbm' : ∀ y, y ∈ b ++ [x] ↔ y = p ∨ y ∈ S ++ [x] := by
                intro y
                simp only [List.mem_append, hbm y, List.mem_singleton, or_assoc]
              by_cases hfull : (a ++ b).length < k
              · exact ⟨a, b ++ [x], by rw [if_pos hfull, List.append_assoc], by simp [hb], hbm'⟩
              · rw [if_neg hfull]
                rw [List.length_append] at hfull
                cases a with
                | nil => simp only [List.length_nil] at hfull; omega
                | cons a0 a => exact ⟨a, b ++ [x], by simp, by simp [hb], hbm'⟩
          · exact ⟨S, hS, a8, a9, by omega, fun h => absurd h hSk⟩
        obtain ⟨S', k1, k2, k3, k4, k5⟩ := key
        by_cases hr : r + 1 < k
        · exact .late p S0 (T ++ t) S' j (r + 1) m0 (by omega) hr a3 hm a5 hc' k1 k2 k3 k4 k5
        · have hle := nodup_le k2 k1
          rw [List.length_append] at hle
          have e : l.length + 1 = f + (j + 1) * k := by rw [Nat.add_mul]; omega
          rw [e]
          refine new_phase hk rfl ?_ hxc hcl
          rw [Nat.mul_add, Nat.mul_one]
          omega

theorem bound {lru : Bool} {k h : Nat} {pre q l c l' : List Int} (h0 : 0 < h) (hhk : h ≤ k) (H1 : On lru k pre q l) (H2 : Op h pre c l') (hp : pre ≠ []) :
    (l.length - 1) % k + 1 + (k + 1 - h) * ((l.length - ((l.length - 1) % k + 1)) / k) ≤ l'.length := by
  have hk : 0 < k := by omega
  obtain ⟨-, -, -, -, hne⟩ := H1.facts hk
  have hl : l ≠ [] := fun e => hp (hne e)
  have hpos := List.length_pos_iff.mpr hl
  have hmod := Nat.mod_lt (l.length - 1) hk
  generalize hf : (l.length - 1) % k + 1 = f
  have J := joint (f := f) (by omega) (by omega) h0 hhk H1 H2
  have hdm := Nat.div_add_mod (l.length - 1) k
  cases J with
  | early a1 _ _ _ =>
    have := Nat.mod_le (l.length - 1) k
    omega
  | late p S0 T S j r m0 a1 a2 a3 a4 a5 a6 a7 a8 a9 a10 a11 =>
    clear a6 a7 a11
    have e : (l.length - 1) % k = (f - 1 + r) % k := by
      have : l.length - 1 = f - 1 + r + k * j := by rw [Nat.mul_comm k j]; omega
      rw [this, Nat.add_mul_mod_self_left]
    have hr : r = 0 := by
      by_cases q : f - 1 + r < k
      · rw [Nat.mod_eq_of_lt q] at e; omega
      · have : (f - 1 + r) % k = f - 1 + r - k := by
          rw [Nat.mod_eq_sub_mod (by omega), Nat.mod_eq_of_lt (by omega)]
        omega
    have : l.length - f = j * k := by omega
    rw [this, Nat.mul_div_cancel _ hk]
    omega
end Mine
open PySem PySem.W PyProof.Rows
set_option Elab.async false
set_option maxRecDepth 100000
set_option maxHeartbeats 8000000
namespace Mine
def plug : Str := Str.ofString "plug"
theorem plug_eq : plug = plug := rfl
end Mine
name_quick tw2591226369968008212 for Mine.plug by Mine.plug_eq
name_quick tw14133788633963359269 for Mine.plug by Mine.plug_eq
name_quick tw728407824751372645 for Mine.plug by Mine.plug_eq
name_quick tw9385439782273163706 for Mine.plug by Mine.plug_eq
name_quick tw12052720865969862309 for Mine.plug by Mine.plug_eq
name_quick tw17412610005784068787 for Mine.plug by Mine.plug_eq
name_quick tw10372698100753101982 for Mine.plug by Mine.plug_eq
name_quick tw15332940242844880841 for Mine.plug by Mine.plug_eq
name_quick tw15606834981724049387 for Mine.plug by Mine.plug_eq
name_quick tw9719028478416349247 for Mine.plug by Mine.plug_eq
name_quick tw15771277078112728817 for Mine.plug by Mine.plug_eq
name_quick tw6866904835582178613 for Mine.plug by Mine.plug_eq
name_quick tw3943871718683534962 for Mine.plug by Mine.plug_eq
name_quick tw8894104845275685288 for Mine.plug by Mine.plug_eq
name_quick tw11956970600426018896 for Mine.plug by Mine.plug_eq
name_quick tw5344885176932410299 for Mine.plug by Mine.plug_eq
name_quick tw13574988865276030828 for Mine.plug by Mine.plug_eq
name_quick tw4355455798860802290 for Mine.plug by Mine.plug_eq
name_quick tw3820435806616562177 for Mine.plug by Mine.plug_eq
name_quick tw10985076324415788581 for Mine.plug by Mine.plug_eq
name_quick tw15571160114819135117 for Mine.plug by Mine.plug_eq
name_quick tw3851963775282488551 for Mine.plug by Mine.plug_eq
name_quick tw5403317740230940108 for Mine.plug by Mine.plug_eq
name_quick tw2867014007035675111 for Mine.plug by Mine.plug_eq
name_quick tw3279150350639305801 for Mine.plug by Mine.plug_eq
name_quick tw1287781588520737546 for Mine.plug by Mine.plug_eq
name_quick tw4435421394204515611 for Mine.plug by Mine.plug_eq
name_quick tw5896600698222767876 for Mine.plug by Mine.plug_eq
name_quick tw13622150277644952046 for Mine.plug by Mine.plug_eq
name_quick tw17723881924890802966 for Mine.plug by Mine.plug_eq
name_quick tw15990995562251373055 for Mine.plug by Mine.plug_eq
name_quick tw8259848542061634013 for Mine.plug by Mine.plug_eq
name_quick tw15132458516325018785 for Mine.plug by Mine.plug_eq
name_quick tw15310763245431733906 for Mine.plug by Mine.plug_eq
name_quick tw16159750380562633221 for Mine.plug by Mine.plug_eq
name_quick tw14180241730563858807 for Mine.plug by Mine.plug_eq
name_quick tw16678901842766047389 for Mine.plug by Mine.plug_eq
name_quick tw887058179877739989 for Mine.plug by Mine.plug_eq
name_quick tw4199372384724522399 for Mine.plug by Mine.plug_eq
name_quick tw11477404624653586928 for Mine.plug by Mine.plug_eq
name_quick tw2463159546536120769 for Mine.plug by Mine.plug_eq
name_quick tw2361496342566212426 for Mine.plug by Mine.plug_eq
name_quick tw13519031799517361783 for Mine.plug by Mine.plug_eq
name_quick tw12451285183580746367 for Mine.plug by Mine.plug_eq
name_quick tw11521511281804667912 for Mine.plug by Mine.plug_eq
name_quick tw6198587988924879870 for Mine.plug by Mine.plug_eq
name_quick tw6884460384040791391 for Mine.plug by Mine.plug_eq
name_quick tw4885688941381972832 for Mine.plug by Mine.plug_eq
name_quick tw2895464141788373703 for Mine.plug by Mine.plug_eq
name_quick tw6325035882358665761 for Mine.plug by Mine.plug_eq
name_quick tw1633554589792172210 for Mine.plug by Mine.plug_eq
name_quick tw848643042161801087 for Mine.plug by Mine.plug_eq
name_quick tw10586404746535458347 for Mine.plug by Mine.plug_eq
name_quick tw3115002196117337186 for Mine.plug by Mine.plug_eq
name_quick tw3004621416201526495 for Mine.plug by Mine.plug_eq
name_quick tw15234264132796209951 for Mine.plug by Mine.plug_eq
name_quick tw4290864757253303354 for Mine.plug by Mine.plug_eq
name_quick tw16864618592142003386 for Mine.plug by Mine.plug_eq
name_quick tw14448102724399918634 for Mine.plug by Mine.plug_eq
name_quick tw14904681115217272601 for Mine.plug by Mine.plug_eq
name_quick tw3208522521903949160 for Mine.plug by Mine.plug_eq
name_quick tw11898673842065290130 for Mine.plug by Mine.plug_eq
name_quick tw4684226298888400098 for Mine.plug by Mine.plug_eq
name_quick tw15235614512728720 for Mine.plug by Mine.plug_eq
name_quick tw17680797132471856694 for Mine.plug by Mine.plug_eq
name_quick tw13164499291161521807 for Mine.plug by Mine.plug_eq
name_quick tw10236332898609347644 for Mine.plug by Mine.plug_eq
name_quick tw10539347186207431242 for Mine.plug by Mine.plug_eq
name_quick tw4077048163395320219 for Mine.plug by Mine.plug_eq
name_quick tw6044310133024360374 for Mine.plug by Mine.plug_eq
name_quick tw3520257249291928256 for Mine.plug by Mine.plug_eq
name_quick tw9847850075989111346 for Mine.plug by Mine.plug_eq
name_quick tw13913613514976480042 for Mine.plug by Mine.plug_eq
name_quick tw1830731846773895292 for Mine.plug by Mine.plug_eq
name_quick tw4026147355466621588 for Mine.plug by Mine.plug_eq
name_quick tw13996866031312336078 for Mine.plug by Mine.plug_eq
name_quick tw646091604453992162 for Mine.plug by Mine.plug_eq
name_quick tw3395767286715763500 for Mine.plug by Mine.plug_eq
name_quick tw1177135801721737414 for Mine.plug by Mine.plug_eq
name_quick tw14785633479632635281 for Mine.plug by Mine.plug_eq
name_quick tw6128106870883400570 for Mine.plug by Mine.plug_eq
name_quick tw16053306600634468012 for Mine.plug by Mine.plug_eq
name_quick tw15572387867429868682 for Mine.plug by Mine.plug_eq
name_quick tw4903002758410956813 for Mine.plug by Mine.plug_eq
name_quick tw8060666987683057360 for Mine.plug by Mine.plug_eq
name_quick tw16217903435359918192 for Mine.plug by Mine.plug_eq
name_quick tw6836311816226760740 for Mine.plug by Mine.plug_eq
name_quick tw561727478393794602 for Mine.plug by Mine.plug_eq
name_quick tw10988764466652934233 for Mine.plug by Mine.plug_eq
name_quick tw14284835775768690865 for Mine.plug by Mine.plug_eq
name_quick tw4683681711962371626 for Mine.plug by Mine.plug_eq
name_quick tw16822532161544500889 for Mine.plug by Mine.plug_eq
name_quick tw11824586356888161845 for Mine.plug by Mine.plug_eq
name_quick tw8413399678365625193 for Mine.plug by Mine.plug_eq
name_quick tw13298828918039433023 for Mine.plug by Mine.plug_eq
name_quick tw2187251505897268136 for Mine.plug by Mine.plug_eq
name_quick tw11024694936033576346 for Mine.plug by Mine.plug_eq
name_quick tw2638924239945547994 for Mine.plug by Mine.plug_eq
name_quick tw12188032599808994241 for Mine.plug by Mine.plug_eq
name_quick tw2629151800749243262 for Mine.plug by Mine.plug_eq
name_quick tw4964365479395341524 for Mine.plug by Mine.plug_eq
name_quick tw5240077947681225987 for Mine.plug by Mine.plug_eq
name_quick tw6329614223026926184 for Mine.plug by Mine.plug_eq
name_quick tw11063759124802658401 for Mine.plug by Mine.plug_eq
name_quick tw14556482736207283325 for Mine.plug by Mine.plug_eq
name_quick tw13462424878891718212 for Mine.plug by Mine.plug_eq
name_quick tw18335596039185421423 for Mine.plug by Mine.plug_eq
name_quick tw13861969467909019144 for Mine.plug by Mine.plug_eq
name_quick tw855453113358079251 for Mine.plug by Mine.plug_eq
name_quick tw3394231194617021968 for Mine.plug by Mine.plug_eq
name_quick tw6148498323302512570 for Mine.plug by Mine.plug_eq
name_quick tw3538781236444307513 for Mine.plug by Mine.plug_eq
name_quick tw12461081396071149458 for Mine.plug by Mine.plug_eq
name_quick tw7484994123860896570 for Mine.plug by Mine.plug_eq
name_quick tw11468729153070441980 for Mine.plug by Mine.plug_eq
name_quick tw8200933086455070860 for Mine.plug by Mine.plug_eq
name_quick tw8840235324560252208 for Mine.plug by Mine.plug_eq
name_quick tw4734895289157585001 for Mine.plug by Mine.plug_eq
name_quick tw3308634892276815127 for Mine.plug by Mine.plug_eq
name_quick tw4323258101793500111 for Mine.plug by Mine.plug_eq
name_quick tw17713387462200973399 for Mine.plug by Mine.plug_eq
name_quick tw12435058653956393420 for Mine.plug by Mine.plug_eq
name_quick tw7104112695450043525 for Mine.plug by Mine.plug_eq
name_quick tw7307589515853891572 for Mine.plug by Mine.plug_eq
name_quick tw14334995849660946996 for Mine.plug by Mine.plug_eq
name_quick tw2358075552688931204 for Mine.plug by Mine.plug_eq
name_quick tw14689541978594310382 for Mine.plug by Mine.plug_eq
name_quick tw16325770458623074653 for Mine.plug by Mine.plug_eq
name_quick tw16151628708876355199 for Mine.plug by Mine.plug_eq
name_quick tw17188069144378779261 for Mine.plug by Mine.plug_eq
name_quick tw17137270108147033825 for Mine.plug by Mine.plug_eq
name_quick tw10741264400317747893 for Mine.plug by Mine.plug_eq
name_quick tw8392358500681263680 for Mine.plug by Mine.plug_eq
name_quick tw17271881437230615512 for Mine.plug by Mine.plug_eq
name_quick tw11707130962622978684 for Mine.plug by Mine.plug_eq
name_quick tw9381626543082597023 for Mine.plug by Mine.plug_eq
name_quick tw11401859456886640639 for Mine.plug by Mine.plug_eq
name_quick tw14856760689398059424 for Mine.plug by Mine.plug_eq
name_quick tw8984893954669693527 for Mine.plug by Mine.plug_eq
name_quick tw2285686636504529566 for Mine.plug by Mine.plug_eq
name_quick tw12884060626414724322 for Mine.plug by Mine.plug_eq
name_quick tw6602950584830755452 for Mine.plug by Mine.plug_eq
name_quick tw11207431853666184334 for Mine.plug by Mine.plug_eq
name_quick tw6921103065077540406 for Mine.plug by Mine.plug_eq
name_quick tw6526287140368922620 for Mine.plug by Mine.plug_eq
name_quick tw10294118229990073760 for Mine.plug by Mine.plug_eq
name_quick tw18384110700954362821 for Mine.plug by Mine.plug_eq
name_quick tw11566098044289413073 for Mine.plug by Mine.plug_eq
name_quick tw18101783494082082527 for Mine.plug by Mine.plug_eq
name_quick tw15166322114958858414 for Mine.plug by Mine.plug_eq
name_quick tw17410218998227585676 for Mine.plug by Mine.plug_eq
name_quick tw8834805137890396735 for Mine.plug by Mine.plug_eq
name_quick tw17951090304560329564 for Mine.plug by Mine.plug_eq
name_quick tw16746677531222629524 for Mine.plug by Mine.plug_eq
name_quick tw8232614014015475128 for Mine.plug by Mine.plug_eq
name_quick tw13691094477983478592 for Mine.plug by Mine.plug_eq
name_quick tw15150329256914348856 for Mine.plug by Mine.plug_eq
name_quick tw15621415185263527259 for Mine.plug by Mine.plug_eq
name_quick tw786537726763496527 for Mine.plug by Mine.plug_eq
name_quick tw7538781388859322016 for Mine.plug by Mine.plug_eq
name_quick tw14219159868682941630 for Mine.plug by Mine.plug_eq
name_quick tw11793702604926673555 for Mine.plug by Mine.plug_eq
name_quick tw13034982811429478159 for Mine.plug by Mine.plug_eq
name_quick tw3919386906821981792 for Mine.plug by Mine.plug_eq
name_quick tw13861322856664149509 for Mine.plug by Mine.plug_eq
name_quick tw994754419278398160 for Mine.plug by Mine.plug_eq
name_quick tw11512705759438076691 for Mine.plug by Mine.plug_eq
name_quick tw5299906598163831158 for Mine.plug by Mine.plug_eq
name_quick tw13349420017058727143 for Mine.plug by Mine.plug_eq
name_quick tw12887044766017154078 for Mine.plug by Mine.plug_eq
name_quick tw4971374062829452455 for Mine.plug by Mine.plug_eq
name_quick tw17583645235957782780 for Mine.plug by Mine.plug_eq
name_quick tw7217548393331319763 for Mine.plug by Mine.plug_eq
name_quick tw16636501806038632012 for Mine.plug by Mine.plug_eq
name_quick tw15254633091992210921 for Mine.plug by Mine.plug_eq
name_quick tw12125097214300078407 for Mine.plug by Mine.plug_eq
name_quick tw5286648830458609394 for Mine.plug by Mine.plug_eq
name_quick tw4776297677400877519 for Mine.plug by Mine.plug_eq
name_quick tw15214748959534726111 for Mine.plug by Mine.plug_eq
name_quick tw15699961213505342161 for Mine.plug by Mine.plug_eq
name_quick tw8047209995159408440 for Mine.plug by Mine.plug_eq
name_quick tw7050804516273991350 for Mine.plug by Mine.plug_eq
name_quick tw1303901927050219478 for Mine.plug by Mine.plug_eq
name_quick tw13813618637161013713 for Mine.plug by Mine.plug_eq
name_quick tw6557801498797044033 for Mine.plug by Mine.plug_eq
name_quick tw16583815154217966991 for Mine.plug by Mine.plug_eq
name_quick tw5239429619861171699 for Mine.plug by Mine.plug_eq
name_quick tw11564986514327137767 for Mine.plug by Mine.plug_eq
name_quick tw13601115934706021691 for Mine.plug by Mine.plug_eq
name_quick tw13769103115541136327 for Mine.plug by Mine.plug_eq
name_quick tw17214186515701724070 for Mine.plug by Mine.plug_eq
name_quick tw6141218239328293737 for Mine.plug by Mine.plug_eq
name_quick tw2773992215795510196 for Mine.plug by Mine.plug_eq
name_quick tw9461873434466728008 for Mine.plug by Mine.plug_eq
name_quick tw3233987462203235646 for Mine.plug by Mine.plug_eq
name_quick tw7151132215420815488 for Mine.plug by Mine.plug_eq
name_quick tw7574704160914276066 for Mine.plug by Mine.plug_eq
name_quick tw4545961482378311905 for Mine.plug by Mine.plug_eq
name_quick tw6056707288978253535 for Mine.plug by Mine.plug_eq
name_quick tw11308061921803828041 for Mine.plug by Mine.plug_eq
name_quick tw1378205811072252300 for Mine.plug by Mine.plug_eq
name_quick tw16756451883985382160 for Mine.plug by Mine.plug_eq
name_quick tw727553628536289456 for Mine.plug by Mine.plug_eq
name_quick tw11215392098479208961 for Mine.plug by Mine.plug_eq
name_quick tw18224062797491409168 for Mine.plug by Mine.plug_eq
name_quick tw7631320640757110747 for Mine.plug by Mine.plug_eq
name_quick tw16766484511958638138 for Mine.plug by Mine.plug_eq
name_quick tw13885670934486923800 for Mine.plug by Mine.plug_eq
name_quick tw8398943975594018772 for Mine.plug by Mine.plug_eq
name_quick tw3512428149003415425 for Mine.plug by Mine.plug_eq
name_quick tw6522051377940421278 for Mine.plug by Mine.plug_eq
name_quick tw2167315655227761912 for Mine.plug by Mine.plug_eq
name_quick tw2827255003249426055 for Mine.plug by Mine.plug_eq
name_quick tw724461010609807574 for Mine.plug by Mine.plug_eq
name_quick tw2576523973992343609 for Mine.plug by Mine.plug_eq
name_quick tw2620369411171094931 for Mine.plug by Mine.plug_eq
name_quick tw8374155422468719031 for Mine.plug by Mine.plug_eq
name_quick tw13459084325293418506 for Mine.plug by Mine.plug_eq
name_quick tw7023308130246883398 for Mine.plug by Mine.plug_eq
name_quick tw4562827626845409882 for Mine.plug by Mine.plug_eq
name_quick tw16489938334050473467 for Mine.plug by Mine.plug_eq
name_quick tw5159533635706498644 for Mine.plug by Mine.plug_eq
name_quick tw12236101354414956334 for Mine.plug by Mine.plug_eq
name_quick tw1932759071263863916 for Mine.plug by Mine.plug_eq
name_quick tw6191700953566675008 for Mine.plug by Mine.plug_eq
name_quick tw10186303709888756887 for Mine.plug by Mine.plug_eq
name_quick tw2041926188850086339 for Mine.plug by Mine.plug_eq
name_quick tw16522183678017940807 for Mine.plug by Mine.plug_eq
name_quick tw2135409205425526673 for Mine.plug by Mine.plug_eq
name_quick tw17894200724404610344 for Mine.plug by Mine.plug_eq
name_quick tw5342471268416680606 for Mine.plug by Mine.plug_eq
name_quick tw4413860948169739490 for Mine.plug by Mine.plug_eq
name_quick tw18383651708701053236 for Mine.plug by Mine.plug_eq
name_quick tw11272164335830466941 for Mine.plug by Mine.plug_eq
name_quick tw14201609532424774689 for Mine.plug by Mine.plug_eq
name_quick tw1941844328875101383 for Mine.plug by Mine.plug_eq
name_quick tw7933485763601977624 for Mine.plug by Mine.plug_eq
name_quick tw4408816720484365081 for Mine.plug by Mine.plug_eq
name_quick tw4858918184162951299 for Mine.plug by Mine.plug_eq
name_quick tw2046362190076281809 for Mine.plug by Mine.plug_eq
name_quick tw182723221234572337 for Mine.plug by Mine.plug_eq
name_quick tw14474530201714352570 for Mine.plug by Mine.plug_eq
name_quick tw18367749455379333440 for Mine.plug by Mine.plug_eq
name_quick tw7350462372000428638 for Mine.plug by Mine.plug_eq
name_quick tw1342123614928995077 for Mine.plug by Mine.plug_eq
name_quick tw16902440903046159558 for Mine.plug by Mine.plug_eq
name_quick tw5037459499596335280 for Mine.plug by Mine.plug_eq
name_quick tw14341141199694864594 for Mine.plug by Mine.plug_eq
name_quick tw506581581156960101 for Mine.plug by Mine.plug_eq
name_quick tw5458571740234265576 for Mine.plug by Mine.plug_eq
name_quick tw987426779421491659 for Mine.plug by Mine.plug_eq
name_quick tw7476452910721959123 for Mine.plug by Mine.plug_eq
name_quick tw3985964047577975286 for Mine.plug by Mine.plug_eq
name_quick tw3592811809046731828 for Mine.plug by Mine.plug_eq
name_quick tw8297923619242306668 for Mine.plug by Mine.plug_eq
name_quick tw12954591660760965231 for Mine.plug by Mine.plug_eq
name_quick tw16967752826634114842 for Mine.plug by Mine.plug_eq
name_quick tw14370502638603547748 for Mine.plug by Mine.plug_eq
name_quick tw14261769069557060686 for Mine.plug by Mine.plug_eq
name_quick tw7053471978191194526 for Mine.plug by Mine.plug_eq
name_quick tw11384182702204212275 for Mine.plug by Mine.plug_eq
name_quick tw8915285831880473931 for Mine.plug by Mine.plug_eq
name_quick tw8316334369570252376 for Mine.plug by Mine.plug_eq
name_quick tw17937168697417666835 for Mine.plug by Mine.plug_eq
name_quick tw7873748247521183178 for Mine.plug by Mine.plug_eq
name_quick tw1537541725227008683 for Mine.plug by Mine.plug_eq
name_quick tw18066248841608746250 for Mine.plug by Mine.plug_eq
name_quick tw15418378422589880096 for Mine.plug by Mine.plug_eq
name_quick tw10026605065719503897 for Mine.plug by Mine.plug_eq
name_quick tw16797375974695604193 for Mine.plug by Mine.plug_eq
name_quick tw17160835175205238506 for Mine.plug by Mine.plug_eq
name_quick tw15978794797337165890 for Mine.plug by Mine.plug_eq
name_quick tw10203006108894725899 for Mine.plug by Mine.plug_eq
name_quick tw2754868194923854518 for Mine.plug by Mine.plug_eq
name_quick tw9992116715903482975 for Mine.plug by Mine.plug_eq
name_quick tw10406584006884427733 for Mine.plug by Mine.plug_eq
name_quick tw13946496683202179788 for Mine.plug by Mine.plug_eq
name_quick tw12020253756985099128 for Mine.plug by Mine.plug_eq
name_quick tw12858089460409395330 for Mine.plug by Mine.plug_eq
name_quick tw7509565986652818475 for Mine.plug by Mine.plug_eq
name_quick tw5306753302271460952 for Mine.plug by Mine.plug_eq
name_quick tw6915737295544688043 for Mine.plug by Mine.plug_eq
name_quick tw15042883488752021643 for Mine.plug by Mine.plug_eq
name_quick tw6128145076113358165 for Mine.plug by Mine.plug_eq
name_quick tw12459912946257978736 for Mine.plug by Mine.plug_eq
name_quick tw10258873121960336067 for Mine.plug by Mine.plug_eq
name_quick tw8565224436197482051 for Mine.plug by Mine.plug_eq
name_quick tw2867421004237479119 for Mine.plug by Mine.plug_eq
name_quick tw10510056951384868246 for Mine.plug by Mine.plug_eq
name_quick tw4046687200572763549 for Mine.plug by Mine.plug_eq
name_quick tw3726453103677007866 for Mine.plug by Mine.plug_eq
name_quick tw8981176238543900561 for Mine.plug by Mine.plug_eq
name_quick tw1950803216711332702 for Mine.plug by Mine.plug_eq
name_quick tw7592715696027808041 for Mine.plug by Mine.plug_eq
name_quick tw15577281813014381367 for Mine.plug by Mine.plug_eq
name_quick tw206757683497733573 for Mine.plug by Mine.plug_eq
name_quick tw8909772338491405060 for Mine.plug by Mine.plug_eq
name_quick tw10550934584343373414 for Mine.plug by Mine.plug_eq
name_quick tw17319301010117859952 for Mine.plug by Mine.plug_eq
name_quick tw1532491051758110099 for Mine.plug by Mine.plug_eq
name_quick tw3300257896294614128 for Mine.plug by Mine.plug_eq
name_quick tw5610444585433571239 for Mine.plug by Mine.plug_eq
name_quick tw2172276787581067923 for Mine.plug by Mine.plug_eq
name_quick tw5515903443438498500 for Mine.plug by Mine.plug_eq
name_quick tw11180800956215176064 for Mine.plug by Mine.plug_eq
name_quick tw7766106395892283477 for Mine.plug by Mine.plug_eq
name_quick tw2392593158011319353 for Mine.plug by Mine.plug_eq
name_quick tw15138174406397646402 for Mine.plug by Mine.plug_eq
name_quick tw11915094483420755415 for Mine.plug by Mine.plug_eq
name_quick tw889511709632714148 for Mine.plug by Mine.plug_eq
name_quick tw1207101557538958131 for Mine.plug by Mine.plug_eq
name_quick tw17338325484393633139 for Mine.plug by Mine.plug_eq
name_quick tw4607425872040536859 for Mine.plug by Mine.plug_eq
name_quick tw8278001386518606062 for Mine.plug by Mine.plug_eq
name_quick tw18407495941553956032 for Mine.plug by Mine.plug_eq
name_quick tw1860734739432930892 for Mine.plug by Mine.plug_eq
name_quick tw15831126876759372255 for Mine.plug by Mine.plug_eq
name_quick tw9201617497623189827 for Mine.plug by Mine.plug_eq
name_quick tw12298192366917762067 for Mine.plug by Mine.plug_eq
name_quick tw13444670453868202053 for Mine.plug by Mine.plug_eq
name_quick tw3344036261162260069 for Mine.plug by Mine.plug_eq
name_quick tw5832305185047221409 for Mine.plug by Mine.plug_eq
name_quick tw18441984877410159329 for Mine.plug by Mine.plug_eq
name_quick tw13343301709244559618 for Mine.plug by Mine.plug_eq
name_quick tw5890639436620234070 for Mine.plug by Mine.plug_eq
name_quick tw12330612334027959195 for Mine.plug by Mine.plug_eq
name_quick tw651700358538967526 for Mine.plug by Mine.plug_eq
name_quick tw3436067635600285980 for Mine.plug by Mine.plug_eq
name_quick tw9006961074152924250 for Mine.plug by Mine.plug_eq
name_quick tw5171440476677080432 for Mine.plug by Mine.plug_eq
name_quick tw11907897558876765624 for Mine.plug by Mine.plug_eq
name_quick tw5665240888008139550 for Mine.plug by Mine.plug_eq
name_quick tw17155049476370652306 for Mine.plug by Mine.plug_eq
name_quick tw14592624751514493413 for Mine.plug by Mine.plug_eq
name_quick tw10886659093417053267 for Mine.plug by Mine.plug_eq
name_quick tw11402884983299125971 for Mine.plug by Mine.plug_eq
name_quick tw2641800013201688601 for Mine.plug by Mine.plug_eq
name_quick tw17731313482808627303 for Mine.plug by Mine.plug_eq
name_quick tw12250869413391326473 for Mine.plug by Mine.plug_eq
name_quick tw13872120688422071045 for Mine.plug by Mine.plug_eq
name_quick tw10341888390210383824 for Mine.plug by Mine.plug_eq
name_quick tw13812277999558781770 for Mine.plug by Mine.plug_eq
name_quick tw9592300441314626372 for Mine.plug by Mine.plug_eq
name_quick tw9433028549170029634 for Mine.plug by Mine.plug_eq
name_quick tw3215387988796971590 for Mine.plug by Mine.plug_eq
name_quick tw446110843843071267 for Mine.plug by Mine.plug_eq
name_quick tw5395340147747708899 for Mine.plug by Mine.plug_eq
name_quick tw10611411778653204182 for Mine.plug by Mine.plug_eq
name_quick tw5285915839522022235 for Mine.plug by Mine.plug_eq
name_quick tw6277071023269222880 for Mine.plug by Mine.plug_eq
name_quick tw18048741565030583774 for Mine.plug by Mine.plug_eq
name_quick tw17163426234232328066 for Mine.plug by Mine.plug_eq
name_quick tw2333105410213810865 for Mine.plug by Mine.plug_eq
name_quick tw8219003486749837733 for Mine.plug by Mine.plug_eq
name_quick tw12917704675397863716 for Mine.plug by Mine.plug_eq
name_quick tw8171798328758944481 for Mine.plug by Mine.plug_eq
name_quick tw8185545411690514434 for Mine.plug by Mine.plug_eq
name_quick tw13421457143807847188 for Mine.plug by Mine.plug_eq
name_quick tw8006371003960147343 for Mine.plug by Mine.plug_eq
name_quick tw2107523057676978006 for Mine.plug by Mine.plug_eq
name_quick tw6162269159774324313 for Mine.plug by Mine.plug_eq
name_quick tw4341293187932698999 for Mine.plug by Mine.plug_eq
name_quick tw3235425350174046738 for Mine.plug by Mine.plug_eq
name_quick tw13937768818610491111 for Mine.plug by Mine.plug_eq
name_quick tw8092133141245296854 for Mine.plug by Mine.plug_eq
name_quick tw17170472223608059050 for Mine.plug by Mine.plug_eq
name_quick tw14424681132571578402 for Mine.plug by Mine.plug_eq
name_quick tw1835201335921387983 for Mine.plug by Mine.plug_eq
name_quick tw11881533405517379953 for Mine.plug by Mine.plug_eq
name_quick tw2741014181512449073 for Mine.plug by Mine.plug_eq
name_quick tw1266446861824636 for Mine.plug by Mine.plug_eq
name_quick tw16232239604740543338 for Mine.plug by Mine.plug_eq
name_quick tw18310463660012746435 for Mine.plug by Mine.plug_eq
name_quick tw6405511729158686954 for Mine.plug by Mine.plug_eq
name_quick tw896878414759379649 for Mine.plug by Mine.plug_eq
name_quick tw16531682779099013679 for Mine.plug by Mine.plug_eq
name_quick tw14651306747883248417 for Mine.plug by Mine.plug_eq
name_quick tw9821955647698378662 for Mine.plug by Mine.plug_eq
name_quick tw17877845533520812795 for Mine.plug by Mine.plug_eq
name_quick tw7220529860990300233 for Mine.plug by Mine.plug_eq
name_quick tw6751970477201280107 for Mine.plug by Mine.plug_eq
name_quick tw12138319994727072339 for Mine.plug by Mine.plug_eq
name_quick tw4333590680753393835 for Mine.plug by Mine.plug_eq
name_quick tw13073492499399858440 for Mine.plug by Mine.plug_eq
name_quick tw15504105790966721872 for Mine.plug by Mine.plug_eq
name_quick tw1045582712504079209 for Mine.plug by Mine.plug_eq
name_quick tw2925816871977632210 for Mine.plug by Mine.plug_eq
name_quick tw4449799235075362730 for Mine.plug by Mine.plug_eq
name_quick tw16203965252921439515 for Mine.plug by Mine.plug_eq
name_quick tw7942791058656714990 for Mine.plug by Mine.plug_eq
name_quick tw7607420049574824106 for Mine.plug by Mine.plug_eq
name_quick tw5467331546851215429 for Mine.plug by Mine.plug_eq
name_quick tw4835942615686071818 for Mine.plug by Mine.plug_eq
name_quick tw12674610127229643151 for Mine.plug by Mine.plug_eq
name_quick tw14243238205550065757 for Mine.plug by Mine.plug_eq
name_quick tw6194202620331982285 for Mine.plug by Mine.plug_eq
name_quick tw2483420100392427323 for Mine.plug by Mine.plug_eq
name_quick tw2846267367221353805 for Mine.plug by Mine.plug_eq
name_quick tw1329382545583022102 for Mine.plug by Mine.plug_eq
name_quick tw5205737364524765896 for Mine.plug by Mine.plug_eq
name_quick tw6325675986683464353 for Mine.plug by Mine.plug_eq
name_quick tw1866716027138748530 for Mine.plug by Mine.plug_eq
name_quick tw86012387029904805 for Mine.plug by Mine.plug_eq
name_quick tw384561282630992784 for Mine.plug by Mine.plug_eq
name_quick tw18060508904421208200 for Mine.plug by Mine.plug_eq
name_quick tw14935467056822913822 for Mine.plug by Mine.plug_eq
name_quick tw6822071536725586909 for Mine.plug by Mine.plug_eq
name_quick tw6690350156832105676 for Mine.plug by Mine.plug_eq
name_quick tw16409965706819354750 for Mine.plug by Mine.plug_eq
name_quick tw8733291241859026926 for Mine.plug by Mine.plug_eq
name_quick tw727924238349540522 for Mine.plug by Mine.plug_eq
name_quick tw3328811466098603303 for Mine.plug by Mine.plug_eq
name_quick tw375148617187948888 for Mine.plug by Mine.plug_eq
name_quick tw10016166984437732892 for Mine.plug by Mine.plug_eq
name_quick tw13936439389310444312 for Mine.plug by Mine.plug_eq
name_quick tw16723463757517087524 for Mine.plug by Mine.plug_eq
name_quick tw13394580363473044415 for Mine.plug by Mine.plug_eq
name_quick tw10510019762269167821 for Mine.plug by Mine.plug_eq
name_quick tw1039362940862242169 for Mine.plug by Mine.plug_eq
name_quick tw14782755387869428366 for Mine.plug by Mine.plug_eq
name_quick tw3971525946579005399 for Mine.plug by Mine.plug_eq
name_quick tw17435391645217708394 for Mine.plug by Mine.plug_eq
name_quick tw5221592684559293012 for Mine.plug by Mine.plug_eq
name_quick tw4635989785427082552 for Mine.plug by Mine.plug_eq
name_quick tw16955839230299176341 for Mine.plug by Mine.plug_eq
name_quick tw1922157984580058403 for Mine.plug by Mine.plug_eq
name_quick tw11823594873375168262 for Mine.plug by Mine.plug_eq
name_quick tw6829468419937405859 for Mine.plug by Mine.plug_eq
name_quick tw10921404820163398068 for Mine.plug by Mine.plug_eq
name_quick tw16279288168775177219 for Mine.plug by Mine.plug_eq
name_quick tw1915925776726481438 for Mine.plug by Mine.plug_eq
name_quick tw15142623845447829892 for Mine.plug by Mine.plug_eq
name_quick tw16005714805435085966 for Mine.plug by Mine.plug_eq
name_quick tw4091352561680426876 for Mine.plug by Mine.plug_eq
name_quick tw5449563278759341024 for Mine.plug by Mine.plug_eq
name_quick tw1494636809467739440 for Mine.plug by Mine.plug_eq
name_quick tw1979317910248211280 for Mine.plug by Mine.plug_eq
name_quick tw2956708394376553000 for Mine.plug by Mine.plug_eq
name_quick tw9294201344175945319 for Mine.plug by Mine.plug_eq
name_quick tw15702583709834301711 for Mine.plug by Mine.plug_eq
name_quick tw16802631365582062104 for Mine.plug by Mine.plug_eq
name_quick tw11033627544408312984 for Mine.plug by Mine.plug_eq
name_quick tw18105302477358141223 for Mine.plug by Mine.plug_eq
name_quick tw9784134513789038367 for Mine.plug by Mine.plug_eq
name_quick tw17577329170770402720 for Mine.plug by Mine.plug_eq
name_quick tw2983127059725616120 for Mine.plug by Mine.plug_eq
name_quick tw12297992134047619483 for Mine.plug by Mine.plug_eq
name_quick tw14746253646979254834 for Mine.plug by Mine.plug_eq
name_quick tw2765187732825374138 for Mine.plug by Mine.plug_eq
name_quick tw296083027919845158 for Mine.plug by Mine.plug_eq
name_quick tw446995266069924076 for Mine.plug by Mine.plug_eq
name_quick tw8979854591385374766 for Mine.plug by Mine.plug_eq
name_quick tw14022695629967993375 for Mine.plug by Mine.plug_eq
name_quick tw1149798457248472902 for Mine.plug by Mine.plug_eq
name_quick tw8535803893964050539 for Mine.plug by Mine.plug_eq
name_quick tw18400553757987027518 for Mine.plug by Mine.plug_eq
name_quick tw12517015155858063196 for Mine.plug by Mine.plug_eq
name_quick tw13539809779269347639 for Mine.plug by Mine.plug_eq
name_quick tw14475345232950559780 for Mine.plug by Mine.plug_eq
name_quick tw7397212543588705075 for Mine.plug by Mine.plug_eq
name_quick tw14961746396406840608 for Mine.plug by Mine.plug_eq
name_quick tw5055593616971399804 for Mine.plug by Mine.plug_eq
name_quick tw7036616447074710427 for Mine.plug by Mine.plug_eq
name_quick tw8293125293789966914 for Mine.plug by Mine.plug_eq
name_quick tw14617222483516278133 for Mine.plug by Mine.plug_eq
name_quick tw2400638427578300857 for Mine.plug by Mine.plug_eq
name_quick tw6798380500665416597 for Mine.plug by Mine.plug_eq
name_quick tw9937656116252222267 for Mine.plug by Mine.plug_eq
name_quick tw12091130801917272685 for Mine.plug by Mine.plug_eq
name_quick tw13135312941875745310 for Mine.plug by Mine.plug_eq
name_quick tw1062514266329012355 for Mine.plug by Mine.plug_eq
name_quick tw1630143524128594353 for Mine.plug by Mine.plug_eq
name_quick tw13669536469129627823 for Mine.plug by Mine.plug_eq
name_quick tw1442379640649564109 for Mine.plug by Mine.plug_eq
name_quick tw2216542800690825051 for Mine.plug by Mine.plug_eq
name_quick tw2144661209622563809 for Mine.plug by Mine.plug_eq
name_quick tw6880980288501444468 for Mine.plug by Mine.plug_eq
name_quick tw10158677189637292467 for Mine.plug by Mine.plug_eq
name_quick tw2546767868308347339 for Mine.plug by Mine.plug_eq
name_quick tw1864683662541468164 for Mine.plug by Mine.plug_eq
name_quick tw12441744018607269044 for Mine.plug by Mine.plug_eq
name_quick tw5493063752884776336 for Mine.plug by Mine.plug_eq
name_quick tw10094733558918713432 for Mine.plug by Mine.plug_eq
name_quick tw12715800853834201459 for Mine.plug by Mine.plug_eq
name_quick tw7900394595670775223 for Mine.plug by Mine.plug_eq
name_quick tw5322009542560784348 for Mine.plug by Mine.plug_eq
name_quick tw5649666937502919571 for Mine.plug by Mine.plug_eq
name_quick tw13205091638197436094 for Mine.plug by Mine.plug_eq
name_quick tw9619071485814978506 for Mine.plug by Mine.plug_eq
name_quick tw9223045988441327695 for Mine.plug by Mine.plug_eq
name_quick tw447263597446747957 for Mine.plug by Mine.plug_eq
name_quick tw7764699552788554220 for Mine.plug by Mine.plug_eq
name_quick tw13385558918117058561 for Mine.plug by Mine.plug_eq
name_quick tw16453263628727151865 for Mine.plug by Mine.plug_eq
name_quick tw5661595848482461739 for Mine.plug by Mine.plug_eq
name_quick tw16792556548410726896 for Mine.plug by Mine.plug_eq
name_quick tw4382473104129494423 for Mine.plug by Mine.plug_eq
name_quick tw2244103112122482387 for Mine.plug by Mine.plug_eq
name_quick tw8191318114535113306 for Mine.plug by Mine.plug_eq
name_quick tw13831308528885131752 for Mine.plug by Mine.plug_eq
name_quick tw1956260828630720203 for Mine.plug by Mine.plug_eq
name_quick tw17464319187374939960 for Mine.plug by Mine.plug_eq
name_quick tw431221854992830470 for Mine.plug by Mine.plug_eq
name_quick tw6984818610989830729 for Mine.plug by Mine.plug_eq
name_quick tw9972681490609642005 for Mine.plug by Mine.plug_eq
name_quick tw13571862603940711859 for Mine.plug by Mine.plug_eq
name_quick tw10953238642706405951 for Mine.plug by Mine.plug_eq
name_quick tw2080317491765294665 for Mine.plug by Mine.plug_eq
name_quick tw429539710256275620 for Mine.plug by Mine.plug_eq
name_quick tw3365755272349913518 for Mine.plug by Mine.plug_eq
name_quick tw2132029292895624192 for Mine.plug by Mine.plug_eq
name_quick tw18095796173783872564 for Mine.plug by Mine.plug_eq
name_quick tw5233118043267047457 for Mine.plug by Mine.plug_eq
name_quick tw8757050672659960515 for Mine.plug by Mine.plug_eq
name_quick tw9777985068195723015 for Mine.plug by Mine.plug_eq
name_quick tw1000662321505670351 for Mine.plug by Mine.plug_eq
name_quick tw7086961617601330827 for Mine.plug by Mine.plug_eq
name_quick tw1610191983932160764 for Mine.plug by Mine.plug_eq
name_quick tw7407744344239389898 for Mine.plug by Mine.plug_eq
name_quick tw3303267245142563540 for Mine.plug by Mine.plug_eq
name_quick tw6125853113672642322 for Mine.plug by Mine.plug_eq
name_quick tw16422413458241162112 for Mine.plug by Mine.plug_eq
name_quick tw3652199383789512132 for Mine.plug by Mine.plug_eq
name_quick tw5516177513244990836 for Mine.plug by Mine.plug_eq
name_quick tw11480707628889460467 for Mine.plug by Mine.plug_eq
name_quick tw11076892268299887525 for Mine.plug by Mine.plug_eq
name_quick tw11528934572451240923 for Mine.plug by Mine.plug_eq
name_quick tw14202271707224943307 for Mine.plug by Mine.plug_eq
name_quick tw211337195705725219 for Mine.plug by Mine.plug_eq
name_quick tw12468840222048715292 for Mine.plug by Mine.plug_eq
name_quick tw5000232492035539693 for Mine.plug by Mine.plug_eq
name_quick tw17062427158221528723 for Mine.plug by Mine.plug_eq
name_quick tw13141587033338554882 for Mine.plug by Mine.plug_eq
name_quick tw12567650564001988402 for Mine.plug by Mine.plug_eq
name_quick tw8222940686941784037 for Mine.plug by Mine.plug_eq
name_quick tw4693966885379303072 for Mine.plug by Mine.plug_eq
name_quick tw140236481695663071 for Mine.plug by Mine.plug_eq
name_quick tw9402243437249704421 for Mine.plug by Mine.plug_eq
name_quick tw9931937742245647033 for Mine.plug by Mine.plug_eq
name_quick tw10345075266393484897 for Mine.plug by Mine.plug_eq
name_quick tw134869140600922118 for Mine.plug by Mine.plug_eq
name_quick tw10214499234810299942 for Mine.plug by Mine.plug_eq
name_quick tw4757880891971583632 for Mine.plug by Mine.plug_eq
name_quick tw7231845647793152400 for Mine.plug by Mine.plug_eq
name_quick tw15251835097244881130 for Mine.plug by Mine.plug_eq
name_quick tw9358312197846296583 for Mine.plug by Mine.plug_eq
name_quick tw4565167180653195659 for Mine.plug by Mine.plug_eq
name_quick tw13757698761724263525 for Mine.plug by Mine.plug_eq
name_quick tw4483904966330829159 for Mine.plug by Mine.plug_eq
name_quick tw7867829370405329436 for Mine.plug by Mine.plug_eq
name_quick tw8115137120850386438 for Mine.plug by Mine.plug_eq
name_quick tw5832146486336120021 for Mine.plug by Mine.plug_eq
name_quick tw1986786360949550309 for Mine.plug by Mine.plug_eq
name_quick tw15063496595227678153 for Mine.plug by Mine.plug_eq
name_quick tw628631919661052299 for Mine.plug by Mine.plug_eq
name_quick tw7926090574327391632 for Mine.plug by Mine.plug_eq
name_quick tw16721508838639397229 for Mine.plug by Mine.plug_eq
name_quick tw256976265262469064 for Mine.plug by Mine.plug_eq
name_quick tw13710940844802916613 for Mine.plug by Mine.plug_eq
name_quick tw11263768400469242888 for Mine.plug by Mine.plug_eq
name_quick tw9655281029701231213 for Mine.plug by Mine.plug_eq
name_quick tw2597523674469684444 for Mine.plug by Mine.plug_eq
name_quick tw17721149768220346479 for Mine.plug by Mine.plug_eq
name_quick tw9536688357841153863 for Mine.plug by Mine.plug_eq
name_quick tw14935156969734317764 for Mine.plug by Mine.plug_eq
name_quick tw7882045510503734624 for Mine.plug by Mine.plug_eq
name_quick tw2087409540819079288 for Mine.plug by Mine.plug_eq
name_quick tw2314633323536394700 for Mine.plug by Mine.plug_eq
name_quick tw5459702643516471331 for Mine.plug by Mine.plug_eq
name_quick tw9525436842865473142 for Mine.plug by Mine.plug_eq
name_quick tw17318462890700432884 for Mine.plug by Mine.plug_eq
name_quick tw6701911527682315725 for Mine.plug by Mine.plug_eq
name_quick tw13303234937177203706 for Mine.plug by Mine.plug_eq
name_quick tw14454166528178196959 for Mine.plug by Mine.plug_eq
name_quick tw2424988045566436242 for Mine.plug by Mine.plug_eq
name_quick tw2345282404023599388 for Mine.plug by Mine.plug_eq
name_quick tw17278973380088787663 for Mine.plug by Mine.plug_eq
name_quick tw14387916025512776202 for Mine.plug by Mine.plug_eq
name_quick tw7164969610272591079 for Mine.plug by Mine.plug_eq
name_quick tw12284071716729939190 for Mine.plug by Mine.plug_eq
name_quick tw15764947353670896545 for Mine.plug by Mine.plug_eq
name_quick tw15953416312037357384 for Mine.plug by Mine.plug_eq
name_quick tw8159993647027272844 for Mine.plug by Mine.plug_eq
name_quick tw937210970483165301 for Mine.plug by Mine.plug_eq
name_quick tw16140922888777852060 for Mine.plug by Mine.plug_eq
name_quick tw15125770126966510544 for Mine.plug by Mine.plug_eq
name_quick tw17082689572870858151 for Mine.plug by Mine.plug_eq
name_quick tw3418139289079602111 for Mine.plug by Mine.plug_eq
name_quick tw15415318616479256277 for Mine.plug by Mine.plug_eq
name_quick tw896239598344801917 for Mine.plug by Mine.plug_eq
name_quick tw13248138572728291248 for Mine.plug by Mine.plug_eq
name_quick tw11859619671507778021 for Mine.plug by Mine.plug_eq
name_quick tw10698057553749749337 for Mine.plug by Mine.plug_eq
name_quick tw13567515925198824819 for Mine.plug by Mine.plug_eq
name_quick tw10244483600429949813 for Mine.plug by Mine.plug_eq
name_quick tw14569604634059749682 for Mine.plug by Mine.plug_eq
name_quick tw8356303796347215682 for Mine.plug by Mine.plug_eq
name_quick tw5226586810942512283 for Mine.plug by Mine.plug_eq
name_quick tw1663524305781585820 for Mine.plug by Mine.plug_eq
name_quick tw1719895430356276633 for Mine.plug by Mine.plug_eq
name_quick tw16607193741793207195 for Mine.plug by Mine.plug_eq
name_quick tw154272780991502253 for Mine.plug by Mine.plug_eq
name_quick tw7001957589650049515 for Mine.plug by Mine.plug_eq
name_quick tw12314708539913122752 for Mine.plug by Mine.plug_eq
name_quick tw2261719852989239553 for Mine.plug by Mine.plug_eq
name_quick tw17184031218471190783 for Mine.plug by Mine.plug_eq
name_quick tw258204147387103276 for Mine.plug by Mine.plug_eq
name_quick tw1642651162322924780 for Mine.plug by Mine.plug_eq
name_quick tw8179860101808600119 for Mine.plug by Mine.plug_eq
name_quick tw11757307120078846540 for Mine.plug by Mine.plug_eq
name_quick tw8122695690928665766 for Mine.plug by Mine.plug_eq
name_quick tw3456351732281881909 for Mine.plug by Mine.plug_eq
name_quick tw3042748168174471775 for Mine.plug by Mine.plug_eq
name_quick tw13299628023176669074 for Mine.plug by Mine.plug_eq
name_quick tw5344687154915797982 for Mine.plug by Mine.plug_eq
name_quick tw5277677811754103808 for Mine.plug by Mine.plug_eq
name_quick tw15565715512253457277 for Mine.plug by Mine.plug_eq
name_quick tw726351398001015727 for Mine.plug by Mine.plug_eq
name_quick tw8332346137001284160 for Mine.plug by Mine.plug_eq
name_quick tw5444512763150141072 for Mine.plug by Mine.plug_eq
name_quick tw15895094517606616290 for Mine.plug by Mine.plug_eq
name_quick tw7422445781565681216 for Mine.plug by Mine.plug_eq
name_quick tw5371794888043636658 for Mine.plug by Mine.plug_eq
name_quick tw12652081859355081885 for Mine.plug by Mine.plug_eq
name_quick tw11449968299874610285 for Mine.plug by Mine.plug_eq
name_quick tw1517009173149250642 for Mine.plug by Mine.plug_eq
name_quick tw9387514328989991554 for Mine.plug by Mine.plug_eq
name_quick tw3856712824231086281 for Mine.plug by Mine.plug_eq
name_quick tw15418674001244492974 for Mine.plug by Mine.plug_eq
name_quick tw16247262843940693239 for Mine.plug by Mine.plug_eq
name_quick tw16753820520455620202 for Mine.plug by Mine.plug_eq
name_quick tw12930229547647579594 for Mine.plug by Mine.plug_eq
name_quick tw13622603851894308203 for Mine.plug by Mine.plug_eq
name_quick tw2213964242967304950 for Mine.plug by Mine.plug_eq
name_quick tw10844150739181073093 for Mine.plug by Mine.plug_eq
name_quick tw15763482434359817770 for Mine.plug by Mine.plug_eq
name_quick tw17428703557753919723 for Mine.plug by Mine.plug_eq
name_quick tw12627051441459223148 for Mine.plug by Mine.plug_eq
name_quick tw16567430530900736849 for Mine.plug by Mine.plug_eq
name_quick tw8285600894249078527 for Mine.plug by Mine.plug_eq
name_quick tw11120740854625124088 for Mine.plug by Mine.plug_eq
name_quick tw6170744672141170255 for Mine.plug by Mine.plug_eq
name_quick tw16919654943277366748 for Mine.plug by Mine.plug_eq
name_quick tw7181997581385953548 for Mine.plug by Mine.plug_eq
name_quick tw8646635810480103244 for Mine.plug by Mine.plug_eq
name_quick tw5909976876416983842 for Mine.plug by Mine.plug_eq
name_quick tw10151330197121100416 for Mine.plug by Mine.plug_eq
name_quick tw12483548606279900826 for Mine.plug by Mine.plug_eq
name_quick tw11219443903484984970 for Mine.plug by Mine.plug_eq
name_quick tw4470585836733325578 for Mine.plug by Mine.plug_eq
name_quick tw9561720059484986898 for Mine.plug by Mine.plug_eq
name_quick tw16108870410212019532 for Mine.plug by Mine.plug_eq
name_quick tw4267111383703672358 for Mine.plug by Mine.plug_eq
name_quick tw17014754193936795334 for Mine.plug by Mine.plug_eq
name_quick tw15861351967447197489 for Mine.plug by Mine.plug_eq
name_quick tw2950685276103557050 for Mine.plug by Mine.plug_eq
name_quick tw247591363613054380 for Mine.plug by Mine.plug_eq
name_quick tw17590705303994421779 for Mine.plug by Mine.plug_eq
name_quick tw7873786274422454737 for Mine.plug by Mine.plug_eq
name_quick tw542563422162235373 for Mine.plug by Mine.plug_eq
name_quick tw11837218909656210887 for Mine.plug by Mine.plug_eq
name_quick tw17351735930882485243 for Mine.plug by Mine.plug_eq
name_quick tw640624198105042115 for Mine.plug by Mine.plug_eq
name_quick tw8157277791214410489 for Mine.plug by Mine.plug_eq
name_quick tw1599053048872161195 for Mine.plug by Mine.plug_eq
name_quick tw694261584828832409 for Mine.plug by Mine.plug_eq
name_quick tw13575289164829896131 for Mine.plug by Mine.plug_eq
name_quick tw8950108695139179302 for Mine.plug by Mine.plug_eq
name_quick tw6864887910540207759 for Mine.plug by Mine.plug_eq
name_quick tw9103314591280073668 for Mine.plug by Mine.plug_eq
name_quick tw15117199230931547845 for Mine.plug by Mine.plug_eq
name_quick tw10851082721055443051 for Mine.plug by Mine.plug_eq
name_quick tw6714880395473160397 for Mine.plug by Mine.plug_eq
name_quick tw4480162626587320490 for Mine.plug by Mine.plug_eq
name_quick tw12670982853097334264 for Mine.plug by Mine.plug_eq
name_quick tw10052031235695348791 for Mine.plug by Mine.plug_eq
name_quick tw12076989928817844590 for Mine.plug by Mine.plug_eq
name_quick tw11066385474520676512 for Mine.plug by Mine.plug_eq
name_quick tw555815775780349263 for Mine.plug by Mine.plug_eq
name_quick tw10293081186089767411 for Mine.plug by Mine.plug_eq
name_quick tw7002614004127435958 for Mine.plug by Mine.plug_eq
name_quick tw862068910833498541 for Mine.plug by Mine.plug_eq
name_quick tw12132732476715806282 for Mine.plug by Mine.plug_eq
name_quick tw2483321941437592071 for Mine.plug by Mine.plug_eq
name_quick tw16378183091871739711 for Mine.plug by Mine.plug_eq
name_quick tw5323657890516693427 for Mine.plug by Mine.plug_eq
name_quick tw6508132753307246276 for Mine.plug by Mine.plug_eq
name_quick tw15883763524195236716 for Mine.plug by Mine.plug_eq
name_quick tw2310853497090360408 for Mine.plug by Mine.plug_eq
name_quick tw17397653436517662659 for Mine.plug by Mine.plug_eq
name_quick tw4490611911172417597 for Mine.plug by Mine.plug_eq
name_quick tw6782663255696616371 for Mine.plug by Mine.plug_eq
name_quick tw14196522196718054806 for Mine.plug by Mine.plug_eq
name_quick tw17880270911999261196 for Mine.plug by Mine.plug_eq
name_quick tw17292613610259460706 for Mine.plug by Mine.plug_eq
name_quick tw1383625962624193546 for Mine.plug by Mine.plug_eq
name_quick tw7387728532749555685 for Mine.plug by Mine.plug_eq
name_quick tw16925712312323332580 for Mine.plug by Mine.plug_eq
name_quick tw12669407529647801677 for Mine.plug by Mine.plug_eq
name_quick tw4993863958327201973 for Mine.plug by Mine.plug_eq
name_quick tw1607123104830579860 for Mine.plug by Mine.plug_eq
name_quick tw4046790133079468173 for Mine.plug by Mine.plug_eq
name_quick tw14173793092197918974 for Mine.plug by Mine.plug_eq
name_quick tw9719393640593047967 for Mine.plug by Mine.plug_eq
name_quick tw17525541185626968058 for Mine.plug by Mine.plug_eq
name_quick tw6105849179199505303 for Mine.plug by Mine.plug_eq
name_quick tw4321966507151631593 for Mine.plug by Mine.plug_eq
name_quick tw14664691819916384248 for Mine.plug by Mine.plug_eq
name_quick tw759444976309323886 for Mine.plug by Mine.plug_eq
name_quick tw2894314189432023629 for Mine.plug by Mine.plug_eq
name_quick tw9510108024173832781 for Mine.plug by Mine.plug_eq
name_quick tw1708089923452030704 for Mine.plug by Mine.plug_eq
name_quick tw13053394406489344094 for Mine.plug by Mine.plug_eq
name_quick tw14560624547652848805 for Mine.plug by Mine.plug_eq
name_quick tw12408111787983249662 for Mine.plug by Mine.plug_eq
name_quick tw5748170370737335489 for Mine.plug by Mine.plug_eq
name_quick tw14520296925931582552 for Mine.plug by Mine.plug_eq
name_quick tw8080008513338510535 for Mine.plug by Mine.plug_eq
name_quick tw2868442198168577507 for Mine.plug by Mine.plug_eq
name_quick tw4548300405975405348 for Mine.plug by Mine.plug_eq
name_quick tw15925456577456769635 for Mine.plug by Mine.plug_eq
name_quick tw16298917771340976007 for Mine.plug by Mine.plug_eq
name_quick tw3946093964270102607 for Mine.plug by Mine.plug_eq
name_quick tw14268830182029614214 for Mine.plug by Mine.plug_eq
name_quick tw1402340071739887797 for Mine.plug by Mine.plug_eq
name_quick tw12747814925858328940 for Mine.plug by Mine.plug_eq
name_quick tw5008593111378822452 for Mine.plug by Mine.plug_eq
name_quick tw15373518955771109456 for Mine.plug by Mine.plug_eq
name_quick tw11267315532378154396 for Mine.plug by Mine.plug_eq
name_quick tw17216001249096748393 for Mine.plug by Mine.plug_eq
name_quick tw8272569733616993153 for Mine.plug by Mine.plug_eq
name_quick tw5217270863462422736 for Mine.plug by Mine.plug_eq
name_quick tw9317495090193701157 for Mine.plug by Mine.plug_eq
name_quick tw8349214307167005616 for Mine.plug by Mine.plug_eq
name_quick tw15621116118777243554 for Mine.plug by Mine.plug_eq
name_quick tw15805137534098808535 for Mine.plug by Mine.plug_eq
name_quick tw13818634655328599666 for Mine.plug by Mine.plug_eq
name_quick tw17709682647362318638 for Mine.plug by Mine.plug_eq
name_quick tw17986951261819808105 for Mine.plug by Mine.plug_eq
name_quick tw3500664145855060485 for Mine.plug by Mine.plug_eq
name_quick tw6651725471809605288 for Mine.plug by Mine.plug_eq
name_quick tw7322748291113730364 for Mine.plug by Mine.plug_eq
name_quick tw3328118118096588273 for Mine.plug by Mine.plug_eq
name_quick tw14143020097148135716 for Mine.plug by Mine.plug_eq
name_quick tw9676783613728631035 for Mine.plug by Mine.plug_eq
name_quick tw6420159726195949164 for Mine.plug by Mine.plug_eq
name_quick tw7485256538410118956 for Mine.plug by Mine.plug_eq
name_quick tw4102176305081739490 for Mine.plug by Mine.plug_eq
name_quick tw675724040212030461 for Mine.plug by Mine.plug_eq
name_quick tw6469784823511061222 for Mine.plug by Mine.plug_eq
name_quick tw18183970276198133131 for Mine.plug by Mine.plug_eq
name_quick tw7249310025045793396 for Mine.plug by Mine.plug_eq
name_quick tw16103829930404553856 for Mine.plug by Mine.plug_eq
name_quick tw402139726102294341 for Mine.plug by Mine.plug_eq
name_quick tw14710976976299594304 for Mine.plug by Mine.plug_eq
name_quick tw14564479935002850509 for Mine.plug by Mine.plug_eq
name_quick tw9215358943560890414 for Mine.plug by Mine.plug_eq
name_quick tw4859391219904099992 for Mine.plug by Mine.plug_eq
name_quick tw17862349074038704544 for Mine.plug by Mine.plug_eq
name_quick tw11151835277377553703 for Mine.plug by Mine.plug_eq
name_quick tw14404928986312190071 for Mine.plug by Mine.plug_eq
name_quick tw14736888041290939073 for Mine.plug by Mine.plug_eq
name_quick tw1474264761786122189 for Mine.plug by Mine.plug_eq
name_quick tw9818998656811842119 for Mine.plug by Mine.plug_eq
name_quick tw12325864989022198202 for Mine.plug by Mine.plug_eq
name_quick tw11353268068134783573 for Mine.plug by Mine.plug_eq
name_quick tw15917658305576242666 for Mine.plug by Mine.plug_eq
name_quick tw3543459598558145280 for Mine.plug by Mine.plug_eq
name_quick tw13855379610559885079 for Mine.plug by Mine.plug_eq
name_quick tw1120146192862113682 for Mine.plug by Mine.plug_eq
name_quick tw10958628066121416707 for Mine.plug by Mine.plug_eq
name_quick tw14703100239697439463 for Mine.plug by Mine.plug_eq
name_quick tw6858818405166986180 for Mine.plug by Mine.plug_eq
name_quick tw17518593693041627797 for Mine.plug by Mine.plug_eq
name_quick tw12393862125047025020 for Mine.plug by Mine.plug_eq
name_quick tw5960047855520388891 for Mine.plug by Mine.plug_eq
name_quick tw14372219517969529114 for Mine.plug by Mine.plug_eq
name_quick tw15326580083554890809 for Mine.plug by Mine.plug_eq
name_quick tw4772062507164038959 for Mine.plug by Mine.plug_eq
name_quick tw15142666989864626641 for Mine.plug by Mine.plug_eq
name_quick tw17613222154834848340 for Mine.plug by Mine.plug_eq
name_quick tw10479991185640055810 for Mine.plug by Mine.plug_eq
name_quick tw2931988195819169919 for Mine.plug by Mine.plug_eq
name_quick tw14869962595670455896 for Mine.plug by Mine.plug_eq
name_quick tw16654469307462801742 for Mine.plug by Mine.plug_eq
name_quick tw3641951560692057861 for Mine.plug by Mine.plug_eq
name_quick tw4096221787609464999 for Mine.plug by Mine.plug_eq
name_quick tw16003985067176294414 for Mine.plug by Mine.plug_eq
name_quick tw5277811627036512234 for Mine.plug by Mine.plug_eq
name_quick tw13791243171338348793 for Mine.plug by Mine.plug_eq
name_quick tw1956775160557780875 for Mine.plug by Mine.plug_eq
name_quick tw12663670905330582409 for Mine.plug by Mine.plug_eq
name_quick tw5622701340561072331 for Mine.plug by Mine.plug_eq
name_quick tw5289818103960998278 for Mine.plug by Mine.plug_eq
name_quick tw14154597600763967237 for Mine.plug by Mine.plug_eq
name_quick tw306047672372848657 for Mine.plug by Mine.plug_eq
name_quick tw6631347999910079877 for Mine.plug by Mine.plug_eq
name_quick tw8590580007683888701 for Mine.plug by Mine.plug_eq
name_quick tw761803264340522177 for Mine.plug by Mine.plug_eq
name_quick tw8760152093665844161 for Mine.plug by Mine.plug_eq
name_quick tw6942634455013318504 for Mine.plug by Mine.plug_eq
name_quick tw9878177214627512989 for Mine.plug by Mine.plug_eq
name_quick tw12528533614272120300 for Mine.plug by Mine.plug_eq
name_quick tw2941924889016668590 for Mine.plug by Mine.plug_eq
name_quick tw10192404496044350798 for Mine.plug by Mine.plug_eq
name_quick tw4724775325020269224 for Mine.plug by Mine.plug_eq
name_quick tw1129948795310169627 for Mine.plug by Mine.plug_eq
name_quick tw2238811745713579835 for Mine.plug by Mine.plug_eq
name_quick tw9388066449989048879 for Mine.plug by Mine.plug_eq
name_quick tw17691633702590694504 for Mine.plug by Mine.plug_eq
name_quick tw12826555694032677247 for Mine.plug by Mine.plug_eq
name_quick tw4704452742865826424 for Mine.plug by Mine.plug_eq
name_quick tw28018229315631829 for Mine.plug by Mine.plug_eq
name_quick tw3817596123196066256 for Mine.plug by Mine.plug_eq
name_quick tw9796564346219866840 for Mine.plug by Mine.plug_eq
name_quick tw10713865542653931438 for Mine.plug by Mine.plug_eq
name_quick tw14571933256774908962 for Mine.plug by Mine.plug_eq
name_quick tw15090471055790725799 for Mine.plug by Mine.plug_eq
name_quick tw11717715558655726156 for Mine.plug by Mine.plug_eq
name_quick tw16691165463884887630 for Mine.plug by Mine.plug_eq
name_quick tw18157406047293677543 for Mine.plug by Mine.plug_eq
name_quick tw2768188642542392010 for Mine.plug by Mine.plug_eq
name_quick tw11489344026974618541 for Mine.plug by Mine.plug_eq
name_quick tw12091442091272426231 for Mine.plug by Mine.plug_eq
name_quick tw1484650774730072618 for Mine.plug by Mine.plug_eq
name_quick tw12740759652641322565 for Mine.plug by Mine.plug_eq
name_quick tw17946048357616127039 for Mine.plug by Mine.plug_eq
name_quick tw13257414776242894994 for Mine.plug by Mine.plug_eq
name_quick tw8908233856664302321 for Mine.plug by Mine.plug_eq
name_quick tw16670193898709178398 for Mine.plug by Mine.plug_eq
name_quick tw16923636969032661973 for Mine.plug by Mine.plug_eq
name_quick tw10910644110388302437 for Mine.plug by Mine.plug_eq
name_quick tw16998588944726240723 for Mine.plug by Mine.plug_eq
name_quick tw16260866306193365299 for Mine.plug by Mine.plug_eq
name_quick tw5341865396476803018 for Mine.plug by Mine.plug_eq
name_quick tw13813548295540068894 for Mine.plug by Mine.plug_eq
name_quick tw17696404316872724479 for Mine.plug by Mine.plug_eq
name_quick tw17360015989920007124 for Mine.plug by Mine.plug_eq
name_quick tw15685335758407661847 for Mine.plug by Mine.plug_eq
name_quick tw17852080271459398996 for Mine.plug by Mine.plug_eq
name_quick tw14833712730911297017 for Mine.plug by Mine.plug_eq
name_quick tw13384656265869573321 for Mine.plug by Mine.plug_eq
name_quick tw14995258362815363992 for Mine.plug by Mine.plug_eq
name_quick tw13142635158332540280 for Mine.plug by Mine.plug_eq
name_quick tw7027914035851864982 for Mine.plug by Mine.plug_eq
name_quick tw15771247859494662083 for Mine.plug by Mine.plug_eq
name_quick tw16784745622988905711 for Mine.plug by Mine.plug_eq
name_quick tw1545724803604235189 for Mine.plug by Mine.plug_eq
name_quick tw10978663064860593548 for Mine.plug by Mine.plug_eq
name_quick tw5101696844757716304 for Mine.plug by Mine.plug_eq
name_quick tw13810262117814702294 for Mine.plug by Mine.plug_eq
name_quick tw9947508896943372755 for Mine.plug by Mine.plug_eq
name_quick tw2078950565319712143 for Mine.plug by Mine.plug_eq
name_quick tw6607644564249050058 for Mine.plug by Mine.plug_eq
name_quick tw11317637306720784765 for Mine.plug by Mine.plug_eq
name_quick tw15554417296805563061 for Mine.plug by Mine.plug_eq
name_quick tw13557862171009465336 for Mine.plug by Mine.plug_eq
name_quick tw12099505692703838030 for Mine.plug by Mine.plug_eq
name_quick tw10842938092177581297 for Mine.plug by Mine.plug_eq
name_quick tw2990168724187919761 for Mine.plug by Mine.plug_eq
name_quick tw2789304352393801511 for Mine.plug by Mine.plug_eq
name_quick tw6124413428159637790 for Mine.plug by Mine.plug_eq
name_quick tw10095894221667365369 for Mine.plug by Mine.plug_eq
name_quick tw10861573186032746274 for Mine.plug by Mine.plug_eq
name_quick tw14594842627406614536 for Mine.plug by Mine.plug_eq
name_quick tw11766667032028208565 for Mine.plug by Mine.plug_eq
name_quick tw5725222548895626118 for Mine.plug by Mine.plug_eq
name_quick tw9331231397406362311 for Mine.plug by Mine.plug_eq
name_quick tw15036080040530398195 for Mine.plug by Mine.plug_eq
name_quick tw8432719020341155521 for Mine.plug by Mine.plug_eq
name_quick tw15792790952358468732 for Mine.plug by Mine.plug_eq
name_quick tw9553971096990549364 for Mine.plug by Mine.plug_eq
name_quick tw2403389108928632939 for Mine.plug by Mine.plug_eq
name_quick tw1725486776273817318 for Mine.plug by Mine.plug_eq
name_quick tw172746767574481773 for Mine.plug by Mine.plug_eq
name_quick tw11153475782318119604 for Mine.plug by Mine.plug_eq
name_quick tw13127508451798649013 for Mine.plug by Mine.plug_eq
name_quick tw16947231599799070506 for Mine.plug by Mine.plug_eq
name_quick tw17431205604353252913 for Mine.plug by Mine.plug_eq
name_quick tw14036186469904095446 for Mine.plug by Mine.plug_eq
name_quick tw8480184845173159842 for Mine.plug by Mine.plug_eq
name_quick tw14993981098963755598 for Mine.plug by Mine.plug_eq
name_quick tw3721919958574915784 for Mine.plug by Mine.plug_eq
name_quick tw15060872555676474952 for Mine.plug by Mine.plug_eq
name_quick tw2705429854395057126 for Mine.plug by Mine.plug_eq
name_quick tw9159244108252522374 for Mine.plug by Mine.plug_eq
name_quick tw12843764043397292189 for Mine.plug by Mine.plug_eq
name_quick tw463774138113389760 for Mine.plug by Mine.plug_eq
name_quick tw15593559885672580101 for Mine.plug by Mine.plug_eq
name_quick tw9969077435446430640 for Mine.plug by Mine.plug_eq
name_quick tw8924819469995637033 for Mine.plug by Mine.plug_eq
name_quick tw15540911362017771936 for Mine.plug by Mine.plug_eq
name_quick tw4860023922305330110 for Mine.plug by Mine.plug_eq
name_quick tw15806707075529380192 for Mine.plug by Mine.plug_eq
name_quick tw10085292869130188298 for Mine.plug by Mine.plug_eq
name_quick tw7557421358154311045 for Mine.plug by Mine.plug_eq
name_quick tw9848817304349107530 for Mine.plug by Mine.plug_eq
name_quick tw17312402878845073609 for Mine.plug by Mine.plug_eq
name_quick tw14522782377427387804 for Mine.plug by Mine.plug_eq
name_quick tw12798174099139212305 for Mine.plug by Mine.plug_eq
name_quick tw2175846933064946826 for Mine.plug by Mine.plug_eq
name_quick tw15057269961097804198 for Mine.plug by Mine.plug_eq
name_quick tw5816495043963226922 for Mine.plug by Mine.plug_eq
name_quick tw13465540834166320765 for Mine.plug by Mine.plug_eq
name_quick tw7611196895359807804 for Mine.plug by Mine.plug_eq
name_quick tw4512776594637900181 for Mine.plug by Mine.plug_eq
name_quick tw15438627641174518403 for Mine.plug by Mine.plug_eq
name_quick tw9404705873571188630 for Mine.plug by Mine.plug_eq
name_quick tw3992765435912101610 for Mine.plug by Mine.plug_eq
name_quick tw8995945545434573385 for Mine.plug by Mine.plug_eq
name_quick tw12717557048674177747 for Mine.plug by Mine.plug_eq
name_quick tw5522115075389312692 for Mine.plug by Mine.plug_eq
name_quick tw7374399212775623666 for Mine.plug by Mine.plug_eq
name_quick tw9116068151291705539 for Mine.plug by Mine.plug_eq
name_quick tw87601786513091389 for Mine.plug by Mine.plug_eq
name_quick tw1401067106901849026 for Mine.plug by Mine.plug_eq
name_quick tw8996207646774452837 for Mine.plug by Mine.plug_eq
name_quick tw14842496431369740429 for Mine.plug by Mine.plug_eq
name_quick tw1835071406663858368 for Mine.plug by Mine.plug_eq
name_quick tw6548459193220583526 for Mine.plug by Mine.plug_eq
name_quick tw6472337539984862722 for Mine.plug by Mine.plug_eq
name_quick tw14061104562602776300 for Mine.plug by Mine.plug_eq
name_quick tw577049184839899653 for Mine.plug by Mine.plug_eq
name_quick tw615563214671542189 for Mine.plug by Mine.plug_eq
name_quick tw7033223617477252788 for Mine.plug by Mine.plug_eq
name_quick tw5953359166732830163 for Mine.plug by Mine.plug_eq
name_quick tw11513857634932158529 for Mine.plug by Mine.plug_eq
name_quick tw15627779663793561183 for Mine.plug by Mine.plug_eq
name_quick tw9496581404884138560 for Mine.plug by Mine.plug_eq
name_quick tw6486200745115804395 for Mine.plug by Mine.plug_eq
name_quick tw13367274342830030513 for Mine.plug by Mine.plug_eq
name_quick tw6597789921013551971 for Mine.plug by Mine.plug_eq
name_quick tw2228412568605170491 for Mine.plug by Mine.plug_eq
name_quick tw14715273107921467267 for Mine.plug by Mine.plug_eq
name_quick tw17260811203177919210 for Mine.plug by Mine.plug_eq
name_quick tw622995879521568732 for Mine.plug by Mine.plug_eq
name_quick tw16101134707931498060 for Mine.plug by Mine.plug_eq
name_quick tw7631737481131229992 for Mine.plug by Mine.plug_eq
name_quick tw2781137557867543911 for Mine.plug by Mine.plug_eq
name_quick tw6094820017090691545 for Mine.plug by Mine.plug_eq
name_quick tw3049343062529576306 for Mine.plug by Mine.plug_eq
name_quick tw10297410513487048360 for Mine.plug by Mine.plug_eq
name_quick tw6248682570935725439 for Mine.plug by Mine.plug_eq
name_quick tw10387345722656961088 for Mine.plug by Mine.plug_eq
name_quick tw6733606326906232124 for Mine.plug by Mine.plug_eq
name_quick tw2983494736656345032 for Mine.plug by Mine.plug_eq
name_quick tw10799429511968010386 for Mine.plug by Mine.plug_eq
name_quick tw12524954882073270795 for Mine.plug by Mine.plug_eq
name_quick tw16681507383918705554 for Mine.plug by Mine.plug_eq
name_quick tw14782954611325821827 for Mine.plug by Mine.plug_eq
name_quick tw15401437161963490237 for Mine.plug by Mine.plug_eq
name_quick tw2754379104384642236 for Mine.plug by Mine.plug_eq
name_quick tw9304451534382375720 for Mine.plug by Mine.plug_eq
name_quick tw14135006944967825841 for Mine.plug by Mine.plug_eq
name_quick tw12921946191010883867 for Mine.plug by Mine.plug_eq
name_quick tw18333273249017474000 for Mine.plug by Mine.plug_eq
name_quick tw11170169689757442189 for Mine.plug by Mine.plug_eq
name_quick tw3198059409981156222 for Mine.plug by Mine.plug_eq
name_quick tw12901003280762261817 for Mine.plug by Mine.plug_eq
name_quick tw10456048075865536884 for Mine.plug by Mine.plug_eq
name_quick tw7921390202802761869 for Mine.plug by Mine.plug_eq
name_quick tw4804111812005502284 for Mine.plug by Mine.plug_eq
name_quick tw1534296983418709675 for Mine.plug by Mine.plug_eq
name_quick tw17483705464198625004 for Mine.plug by Mine.plug_eq
name_quick tw3713540243193553862 for Mine.plug by Mine.plug_eq
name_quick tw16682895059504647277 for Mine.plug by Mine.plug_eq
name_quick tw1205274952441263945 for Mine.plug by Mine.plug_eq
name_quick tw593343749668468936 for Mine.plug by Mine.plug_eq
name_quick tw9806118890596472461 for Mine.plug by Mine.plug_eq
name_quick tw12727641955093265886 for Mine.plug by Mine.plug_eq
name_quick tw13953587524928339648 for Mine.plug by Mine.plug_eq
name_quick tw2480015634913765671 for Mine.plug by Mine.plug_eq
name_quick tw17261404542052806724 for Mine.plug by Mine.plug_eq
name_quick tw14061609134260724683 for Mine.plug by Mine.plug_eq
name_quick tw5874822333441161849 for Mine.plug by Mine.plug_eq
name_quick tw8865387616306378214 for Mine.plug by Mine.plug_eq
name_quick tw14801369171006070438 for Mine.plug by Mine.plug_eq
name_quick tw10312438410070409164 for Mine.plug by Mine.plug_eq
name_quick tw785000645067135975 for Mine.plug by Mine.plug_eq
name_quick tw16060203290454839817 for Mine.plug by Mine.plug_eq
name_quick tw1495895850433845275 for Mine.plug by Mine.plug_eq
name_quick tw16859961878692490766 for Mine.plug by Mine.plug_eq
name_quick tw9768259533172459722 for Mine.plug by Mine.plug_eq
name_quick tw14938211915633500526 for Mine.plug by Mine.plug_eq
name_quick tw6973427100653255629 for Mine.plug by Mine.plug_eq
name_quick tw4538635040379822027 for Mine.plug by Mine.plug_eq
name_quick tw7998583776865276027 for Mine.plug by Mine.plug_eq
name_quick tw12598634822720690771 for Mine.plug by Mine.plug_eq
name_quick tw11205608169257636508 for Mine.plug by Mine.plug_eq
name_quick tw5783627655825047438 for Mine.plug by Mine.plug_eq
name_quick tw8725675927981157988 for Mine.plug by Mine.plug_eq
name_quick tw5388589039460942527 for Mine.plug by Mine.plug_eq
name_quick tw8899516883271353254 for Mine.plug by Mine.plug_eq
name_quick tw16035376269474964883 for Mine.plug by Mine.plug_eq
name_quick tw10648816792666195974 for Mine.plug by Mine.plug_eq
name_quick tw2570914705882880060 for Mine.plug by Mine.plug_eq
name_quick tw8757255369765604158 for Mine.plug by Mine.plug_eq
name_quick tw14904287247971174143 for Mine.plug by Mine.plug_eq
name_quick tw17963105932079019327 for Mine.plug by Mine.plug_eq
name_quick tw10198052994689861382 for Mine.plug by Mine.plug_eq
name_quick tw18361725300881549022 for Mine.plug by Mine.plug_eq
name_quick tw8342338525827868646 for Mine.plug by Mine.plug_eq
name_quick tw2353497105660221152 for Mine.plug by Mine.plug_eq
name_quick tw991626836265849350 for Mine.plug by Mine.plug_eq
name_quick tw13468011388731342839 for Mine.plug by Mine.plug_eq
name_quick tw8185220541750880888 for Mine.plug by Mine.plug_eq
name_quick tw3110587219445414310 for Mine.plug by Mine.plug_eq
name_quick tw9646623106273453227 for Mine.plug by Mine.plug_eq
name_quick tw17658959251048325594 for Mine.plug by Mine.plug_eq
name_quick tw8414355815457870901 for Mine.plug by Mine.plug_eq
name_quick tw13345342141187717317 for Mine.plug by Mine.plug_eq
name_quick tw9950792792127014553 for Mine.plug by Mine.plug_eq
name_quick tw10159399881129095643 for Mine.plug by Mine.plug_eq
name_quick tw1848955828906020544 for Mine.plug by Mine.plug_eq
name_quick tw14479964200598819128 for Mine.plug by Mine.plug_eq
name_quick tw10206286209542907786 for Mine.plug by Mine.plug_eq
name_quick tw18402647697222807634 for Mine.plug by Mine.plug_eq
name_quick tw17760279517084355780 for Mine.plug by Mine.plug_eq
name_quick tw18031968618487185184 for Mine.plug by Mine.plug_eq
name_quick tw354308444213283272 for Mine.plug by Mine.plug_eq
name_quick tw15433366417846715934 for Mine.plug by Mine.plug_eq
name_quick tw6145912378217320015 for Mine.plug by Mine.plug_eq
name_quick tw16765560720781731146 for Mine.plug by Mine.plug_eq
name_quick tw16167708318613246984 for Mine.plug by Mine.plug_eq
name_quick tw1972164579936704799 for Mine.plug by Mine.plug_eq
name_quick tw4211115844707057057 for Mine.plug by Mine.plug_eq
name_quick tw5269183497594736927 for Mine.plug by Mine.plug_eq
name_quick tw9241517189475517228 for Mine.plug by Mine.plug_eq
name_quick tw17980500129456985241 for Mine.plug by Mine.plug_eq
name_quick tw9530734954097333506 for Mine.plug by Mine.plug_eq
name_quick tw14611616552423853409 for Mine.plug by Mine.plug_eq
name_quick tw17694573340227235524 for Mine.plug by Mine.plug_eq
name_quick tw3953844824629472508 for Mine.plug by Mine.plug_eq
name_quick tw17438697464727052513 for Mine.plug by Mine.plug_eq
name_quick tw9919008367099125623 for Mine.plug by Mine.plug_eq
name_quick tw885948055608056263 for Mine.plug by Mine.plug_eq
name_quick tw18426211175634032608 for Mine.plug by Mine.plug_eq
name_quick tw7091221385724896812 for Mine.plug by Mine.plug_eq
name_quick tw17632668173026273278 for Mine.plug by Mine.plug_eq
name_quick tw12307553483252862823 for Mine.plug by Mine.plug_eq
name_quick tw3831019782443316194 for Mine.plug by Mine.plug_eq
name_quick tw17614877247268290040 for Mine.plug by Mine.plug_eq
name_quick tw8622715204490130888 for Mine.plug by Mine.plug_eq
name_quick tw3997487885647526937 for Mine.plug by Mine.plug_eq
name_quick tw16248296213531012650 for Mine.plug by Mine.plug_eq
name_quick tw11853640710764476214 for Mine.plug by Mine.plug_eq
name_quick tw9678289623588505577 for Mine.plug by Mine.plug_eq
name_quick tw14172470266813156586 for Mine.plug by Mine.plug_eq
name_quick tw12396662096508845406 for Mine.plug by Mine.plug_eq
name_quick tw13437419889732721216 for Mine.plug by Mine.plug_eq
name_quick tw5341297951324810720 for Mine.plug by Mine.plug_eq
name_quick tw12611869695672147664 for Mine.plug by Mine.plug_eq
name_quick tw6900931685637148767 for Mine.plug by Mine.plug_eq
name_quick tw2113382385176565475 for Mine.plug by Mine.plug_eq
name_quick tw3335794202401238526 for Mine.plug by Mine.plug_eq
name_quick tw3671519592330383864 for Mine.plug by Mine.plug_eq
name_quick tw5019544711922104826 for Mine.plug by Mine.plug_eq
name_quick tw10240257261083513386 for Mine.plug by Mine.plug_eq
name_quick tw5489724910278218894 for Mine.plug by Mine.plug_eq
name_quick tw5992840812097835891 for Mine.plug by Mine.plug_eq
name_quick tw9879335643197240621 for Mine.plug by Mine.plug_eq
name_quick tw15173544498738437827 for Mine.plug by Mine.plug_eq
name_quick tw10539359503584172894 for Mine.plug by Mine.plug_eq
name_quick tw13082796549270168242 for Mine.plug by Mine.plug_eq
name_quick tw16120054744476736488 for Mine.plug by Mine.plug_eq
name_quick tw1125065396945160393 for Mine.plug by Mine.plug_eq
name_quick tw6968137755033780318 for Mine.plug by Mine.plug_eq
name_quick tw511232430288663203 for Mine.plug by Mine.plug_eq
name_quick tw3846801734645722302 for Mine.plug by Mine.plug_eq
name_quick tw12382822922155266910 for Mine.plug by Mine.plug_eq
name_quick tw757356599333046425 for Mine.plug by Mine.plug_eq
name_quick tw7372170664606466022 for Mine.plug by Mine.plug_eq
name_quick tw12315944733273679750 for Mine.plug by Mine.plug_eq
name_quick tw8166255043249204926 for Mine.plug by Mine.plug_eq
name_quick tw14169059305514679687 for Mine.plug by Mine.plug_eq
name_quick tw1293241653719404408 for Mine.plug by Mine.plug_eq
name_quick tw17339309145561079191 for Mine.plug by Mine.plug_eq
name_quick tw7725179484283634976 for Mine.plug by Mine.plug_eq
name_quick tw9900248900824953880 for Mine.plug by Mine.plug_eq
name_quick tw9252304221032618942 for Mine.plug by Mine.plug_eq
name_quick tw13366278800048369731 for Mine.plug by Mine.plug_eq
name_quick tw58468214095111918 for Mine.plug by Mine.plug_eq
name_quick tw977512076041815475 for Mine.plug by Mine.plug_eq
name_quick tw2869065659524454656 for Mine.plug by Mine.plug_eq
name_quick tw17590876675597686902 for Mine.plug by Mine.plug_eq
name_quick tw11775309618099378426 for Mine.plug by Mine.plug_eq
name_quick tw3419001889969749887 for Mine.plug by Mine.plug_eq
name_quick tw9045458381397004210 for Mine.plug by Mine.plug_eq
name_quick tw4699756791338806529 for Mine.plug by Mine.plug_eq
name_quick tw443766864951011646 for Mine.plug by Mine.plug_eq
name_quick tw3603697650439363286 for Mine.plug by Mine.plug_eq
name_quick tw14577027041581768965 for Mine.plug by Mine.plug_eq
name_quick tw11280630913190679075 for Mine.plug by Mine.plug_eq
name_quick tw4766597723019941021 for Mine.plug by Mine.plug_eq
name_quick tw2084650752826471497 for Mine.plug by Mine.plug_eq
name_quick tw643336161829623379 for Mine.plug by Mine.plug_eq
name_quick tw4600438763894957952 for Mine.plug by Mine.plug_eq
name_quick tw16902085369446701243 for Mine.plug by Mine.plug_eq
name_quick tw13037224057902187189 for Mine.plug by Mine.plug_eq
name_quick tw16773468814595293053 for Mine.plug by Mine.plug_eq
name_quick tw3099597729799864441 for Mine.plug by Mine.plug_eq
name_quick tw18220031379085947620 for Mine.plug by Mine.plug_eq
name_quick tw7007286002206832825 for Mine.plug by Mine.plug_eq
name_quick tw7501186508268903616 for Mine.plug by Mine.plug_eq
name_quick tw4171853373547519906 for Mine.plug by Mine.plug_eq
name_quick tw13716781843517864737 for Mine.plug by Mine.plug_eq
name_quick tw18003772858949239459 for Mine.plug by Mine.plug_eq
name_quick tw908424960236905474 for Mine.plug by Mine.plug_eq
name_quick tw9959121941294770655 for Mine.plug by Mine.plug_eq
name_quick tw8412748745612879247 for Mine.plug by Mine.plug_eq
name_quick tw5948871876076421671 for Mine.plug by Mine.plug_eq
name_quick tw10956520680868813917 for Mine.plug by Mine.plug_eq
name_quick tw9003107776662980439 for Mine.plug by Mine.plug_eq
name_quick tw5702276774652866934 for Mine.plug by Mine.plug_eq
name_quick tw2259672571474061568 for Mine.plug by Mine.plug_eq
name_quick tw10519837036962490867 for Mine.plug by Mine.plug_eq
name_quick tw3214969091617688553 for Mine.plug by Mine.plug_eq
name_quick tw1010972086116683374 for Mine.plug by Mine.plug_eq
name_quick tw3921418479576321532 for Mine.plug by Mine.plug_eq
name_quick tw11153126096140912846 for Mine.plug by Mine.plug_eq
name_quick tw11326833031881921752 for Mine.plug by Mine.plug_eq
name_quick tw3382625519597670723 for Mine.plug by Mine.plug_eq
name_quick tw13114495589485449940 for Mine.plug by Mine.plug_eq
name_quick tw8912161614967838395 for Mine.plug by Mine.plug_eq
name_quick tw3238445694619138142 for Mine.plug by Mine.plug_eq
name_quick tw4470468392277007246 for Mine.plug by Mine.plug_eq
name_quick tw7787813539459594420 for Mine.plug by Mine.plug_eq
name_quick tw11555995132304969306 for Mine.plug by Mine.plug_eq
name_quick tw9786136246686688387 for Mine.plug by Mine.plug_eq
name_quick tw13343918040275786880 for Mine.plug by Mine.plug_eq
name_quick tw18352723725473834589 for Mine.plug by Mine.plug_eq
name_quick tw2810200551564342888 for Mine.plug by Mine.plug_eq
name_quick tw17267597263503486738 for Mine.plug by Mine.plug_eq
name_quick tw12550775161083096063 for Mine.plug by Mine.plug_eq
name_quick tw10282777137419654623 for Mine.plug by Mine.plug_eq
name_quick tw7943549864190904611 for Mine.plug by Mine.plug_eq
name_quick tw4449297822257671152 for Mine.plug by Mine.plug_eq
name_quick tw7046044490832178742 for Mine.plug by Mine.plug_eq
name_quick tw13307065042914920193 for Mine.plug by Mine.plug_eq
name_quick tw7212858340449540239 for Mine.plug by Mine.plug_eq
name_quick tw4561898282857576226 for Mine.plug by Mine.plug_eq
name_quick tw4493901809537577575 for Mine.plug by Mine.plug_eq
name_quick tw5805800948307579973 for Mine.plug by Mine.plug_eq
name_quick tw2759284407945088205 for Mine.plug by Mine.plug_eq
name_quick tw9495317472360511255 for Mine.plug by Mine.plug_eq
name_quick tw6284410105664486691 for Mine.plug by Mine.plug_eq
name_quick tw6945566481307383155 for Mine.plug by Mine.plug_eq
name_quick tw5370981198051040953 for Mine.plug by Mine.plug_eq
name_quick tw6575520176995025181 for Mine.plug by Mine.plug_eq
name_quick tw10859743581388371069 for Mine.plug by Mine.plug_eq
name_quick tw10624116801336726872 for Mine.plug by Mine.plug_eq
name_quick tw13313058339493701161 for Mine.plug by Mine.plug_eq
name_quick tw5809018184121017179 for Mine.plug by Mine.plug_eq
name_quick tw7348359970506387005 for Mine.plug by Mine.plug_eq
name_quick tw4189273013823423559 for Mine.plug by Mine.plug_eq
name_quick tw13851971633180934007 for Mine.plug by Mine.plug_eq
name_quick tw12773500944031208451 for Mine.plug by Mine.plug_eq
name_quick tw5362036446546632119 for Mine.plug by Mine.plug_eq
name_quick tw6876597610515428209 for Mine.plug by Mine.plug_eq
name_quick tw2528511596961503537 for Mine.plug by Mine.plug_eq
name_quick tw11368310244458860372 for Mine.plug by Mine.plug_eq
name_quick tw8285278889055680438 for Mine.plug by Mine.plug_eq
name_quick tw5228077777576800296 for Mine.plug by Mine.plug_eq
name_quick tw14540961386073393648 for Mine.plug by Mine.plug_eq
name_quick tw3277229846650655979 for Mine.plug by Mine.plug_eq
name_quick tw10879749546641988924 for Mine.plug by Mine.plug_eq
name_quick tw4327107012436481372 for Mine.plug by Mine.plug_eq
name_quick tw5537553045615171315 for Mine.plug by Mine.plug_eq
name_quick tw18418582437962087742 for Mine.plug by Mine.plug_eq
name_quick tw4991487270385306882 for Mine.plug by Mine.plug_eq
name_quick tw2333531293284704758 for Mine.plug by Mine.plug_eq
name_quick tw8422229294311615681 for Mine.plug by Mine.plug_eq
name_quick tw4313010194945074917 for Mine.plug by Mine.plug_eq
name_quick tw7770478706760583155 for Mine.plug by Mine.plug_eq
name_quick tw16615150188913437886 for Mine.plug by Mine.plug_eq
name_quick tw16309811473084048462 for Mine.plug by Mine.plug_eq
name_quick tw9768418358887946270 for Mine.plug by Mine.plug_eq
name_quick tw10551173667578312727 for Mine.plug by Mine.plug_eq
name_quick tw2386784164831690217 for Mine.plug by Mine.plug_eq
name_quick tw4096438862311573950 for Mine.plug by Mine.plug_eq
name_quick tw15052318979288761249 for Mine.plug by Mine.plug_eq
name_quick tw9461912720999461741 for Mine.plug by Mine.plug_eq
name_quick tw5137589814051832496 for Mine.plug by Mine.plug_eq
name_quick tw3350206127114907401 for Mine.plug by Mine.plug_eq
name_quick tw5376530373609499990 for Mine.plug by Mine.plug_eq
name_quick tw11844019762684407370 for Mine.plug by Mine.plug_eq
name_quick tw12960429369202013873 for Mine.plug by Mine.plug_eq
name_quick tw11526606772788702011 for Mine.plug by Mine.plug_eq
name_quick tw15733337929971156237 for Mine.plug by Mine.plug_eq
name_quick tw523537741815420091 for Mine.plug by Mine.plug_eq
name_quick tw7414940336731374808 for Mine.plug by Mine.plug_eq
name_quick tw15969335453137586327 for Mine.plug by Mine.plug_eq
name_quick tw17016834523296244275 for Mine.plug by Mine.plug_eq
name_quick tw3676754643040562684 for Mine.plug by Mine.plug_eq
name_quick tw1813447740672882537 for Mine.plug by Mine.plug_eq
name_quick tw10164718903369591474 for Mine.plug by Mine.plug_eq
name_quick tw18127189064453720709 for Mine.plug by Mine.plug_eq
name_quick tw18026862514907990334 for Mine.plug by Mine.plug_eq
name_quick tw1891733041441978011 for Mine.plug by Mine.plug_eq
name_quick tw16086907953836968628 for Mine.plug by Mine.plug_eq
name_quick tw6044648929357246223 for Mine.plug by Mine.plug_eq
name_quick tw15752536640612570366 for Mine.plug by Mine.plug_eq
name_quick tw14550724455855054577 for Mine.plug by Mine.plug_eq
name_quick tw9104974531708491489 for Mine.plug by Mine.plug_eq
name_quick tw4773484457636388862 for Mine.plug by Mine.plug_eq
name_quick tw2595585439558603231 for Mine.plug by Mine.plug_eq
name_quick tw3165671348270588056 for Mine.plug by Mine.plug_eq
name_quick tw10876078143196172821 for Mine.plug by Mine.plug_eq
name_quick tw11911167908941700269 for Mine.plug by Mine.plug_eq
name_quick tw14081431093454284249 for Mine.plug by Mine.plug_eq
name_quick tw7985883749528016586 for Mine.plug by Mine.plug_eq
name_quick tw2595618661548880785 for Mine.plug by Mine.plug_eq
name_quick tw17382457898008728272 for Mine.plug by Mine.plug_eq
name_quick tw17348111734160510231 for Mine.plug by Mine.plug_eq
name_quick tw2455152089536381482 for Mine.plug by Mine.plug_eq
name_quick tw17817366049700826239 for Mine.plug by Mine.plug_eq
name_quick tw12431713363859531893 for Mine.plug by Mine.plug_eq
name_quick tw5845002605336314091 for Mine.plug by Mine.plug_eq
name_quick tw1467881925912835984 for Mine.plug by Mine.plug_eq
name_quick tw13995065583995915716 for Mine.plug by Mine.plug_eq
name_quick tw14144024108822670751 for Mine.plug by Mine.plug_eq
name_quick tw12132596417379514657 for Mine.plug by Mine.plug_eq
name_quick tw1692201390411429781 for Mine.plug by Mine.plug_eq
name_quick tw256182404569192445 for Mine.plug by Mine.plug_eq
name_quick tw18248855084332350957 for Mine.plug by Mine.plug_eq
name_quick tw7777189000029798807 for Mine.plug by Mine.plug_eq
name_quick tw13547939009206843870 for Mine.plug by Mine.plug_eq
name_quick tw14760874974797668852 for Mine.plug by Mine.plug_eq
name_quick tw5002640475654186023 for Mine.plug by Mine.plug_eq
name_quick tw1070438729232803039 for Mine.plug by Mine.plug_eq
name_quick tw12477129341811645039 for Mine.plug by Mine.plug_eq
name_quick tw15127105006835628225 for Mine.plug by Mine.plug_eq
name_quick tw3778530596728393105 for Mine.plug by Mine.plug_eq
name_quick tw11266997524610791606 for Mine.plug by Mine.plug_eq
name_quick tw9584292182412213727 for Mine.plug by Mine.plug_eq
name_quick tw2466311954974566718 for Mine.plug by Mine.plug_eq
name_quick tw18094105663378112561 for Mine.plug by Mine.plug_eq
name_quick tw12768989823518198380 for Mine.plug by Mine.plug_eq
name_quick tw6356304189028158447 for Mine.plug by Mine.plug_eq
name_quick tw4946147512530127568 for Mine.plug by Mine.plug_eq
name_quick tw8737599933303070863 for Mine.plug by Mine.plug_eq
name_quick tw2870957612703475602 for Mine.plug by Mine.plug_eq
name_quick tw14332157829676619468 for Mine.plug by Mine.plug_eq
name_quick tw16212330677787901120 for Mine.plug by Mine.plug_eq
name_quick tw12888327501576777180 for Mine.plug by Mine.plug_eq
name_quick tw9630203353718772412 for Mine.plug by Mine.plug_eq
name_quick tw13215348057498601715 for Mine.plug by Mine.plug_eq
name_quick tw3851428956369438258 for Mine.plug by Mine.plug_eq
name_quick tw5299220707016862017 for Mine.plug by Mine.plug_eq
name_quick tw9977182230042388008 for Mine.plug by Mine.plug_eq
name_quick tw6331431999304432861 for Mine.plug by Mine.plug_eq
name_quick tw6851275008772768644 for Mine.plug by Mine.plug_eq
name_quick tw376983999666122830 for Mine.plug by Mine.plug_eq
name_quick tw13160504802963445071 for Mine.plug by Mine.plug_eq
name_quick tw13484562703626004877 for Mine.plug by Mine.plug_eq
name_quick tw15973625496946761534 for Mine.plug by Mine.plug_eq
name_quick tw12648489641264462891 for Mine.plug by Mine.plug_eq
name_quick tw2015444344454546412 for Mine.plug by Mine.plug_eq
name_quick tw2694234056635809718 for Mine.plug by Mine.plug_eq
name_quick tw16482945937283002268 for Mine.plug by Mine.plug_eq
name_quick tw4015202173357781934 for Mine.plug by Mine.plug_eq
name_quick tw1205604411410820431 for Mine.plug by Mine.plug_eq
name_quick tw5438652380644606353 for Mine.plug by Mine.plug_eq
name_quick tw16412085850373738351 for Mine.plug by Mine.plug_eq
name_quick tw578191462805490351 for Mine.plug by Mine.plug_eq
name_quick tw5004237944150599380 for Mine.plug by Mine.plug_eq
name_quick tw4051853165826885262 for Mine.plug by Mine.plug_eq
name_quick tw6172094611929405055 for Mine.plug by Mine.plug_eq
name_quick tw17916429707943930468 for Mine.plug by Mine.plug_eq
name_quick tw4896215545541015061 for Mine.plug by Mine.plug_eq
name_quick tw3438699932752214802 for Mine.plug by Mine.plug_eq
name_quick tw4598271963242535575 for Mine.plug by Mine.plug_eq
name_quick tw3717076922277056940 for Mine.plug by Mine.plug_eq
name_quick tw11499599281419925204 for Mine.plug by Mine.plug_eq
name_quick tw17508347553164502932 for Mine.plug by Mine.plug_eq
name_quick tw17558320327384617127 for Mine.plug by Mine.plug_eq
name_quick tw4039707410889071942 for Mine.plug by Mine.plug_eq
name_quick tw11373181179767321252 for Mine.plug by Mine.plug_eq
name_quick tw3801850119919557013 for Mine.plug by Mine.plug_eq
name_quick tw6278996535519779258 for Mine.plug by Mine.plug_eq
name_quick tw1887573119177674980 for Mine.plug by Mine.plug_eq
name_quick tw14727194681476072466 for Mine.plug by Mine.plug_eq
name_quick tw17871049288011112270 for Mine.plug by Mine.plug_eq
name_quick tw8431482922422412695 for Mine.plug by Mine.plug_eq
name_quick tw12147665669636231765 for Mine.plug by Mine.plug_eq
name_quick tw10228342955482612591 for Mine.plug by Mine.plug_eq
name_quick tw9186807149237001177 for Mine.plug by Mine.plug_eq
name_quick tw13333588703604149420 for Mine.plug by Mine.plug_eq
name_quick tw14755158882433999464 for Mine.plug by Mine.plug_eq
name_quick tw15779231459743154856 for Mine.plug by Mine.plug_eq
name_quick tw819570635367399668 for Mine.plug by Mine.plug_eq
name_quick tw14859695947638507448 for Mine.plug by Mine.plug_eq
name_quick tw12369848792361866835 for Mine.plug by Mine.plug_eq
name_quick tw8833496514701923757 for Mine.plug by Mine.plug_eq
name_quick tw2134106378703910346 for Mine.plug by Mine.plug_eq
name_quick tw17510684818845775701 for Mine.plug by Mine.plug_eq
name_quick tw11884987206582726547 for Mine.plug by Mine.plug_eq
name_quick tw14847308668706973960 for Mine.plug by Mine.plug_eq
name_quick tw12001842808677522706 for Mine.plug by Mine.plug_eq
name_quick tw10826640976665885199 for Mine.plug by Mine.plug_eq
name_quick tw15402603294489630176 for Mine.plug by Mine.plug_eq
name_quick tw8150244357695641675 for Mine.plug by Mine.plug_eq
name_quick tw6795434443804541281 for Mine.plug by Mine.plug_eq
name_quick tw14607143338591219252 for Mine.plug by Mine.plug_eq
name_quick tw1405720946626083897 for Mine.plug by Mine.plug_eq
name_quick tw5362065267786361690 for Mine.plug by Mine.plug_eq
name_quick tw8521684928402303493 for Mine.plug by Mine.plug_eq
name_quick tw17659185236578331656 for Mine.plug by Mine.plug_eq
name_quick tw14537775516033599862 for Mine.plug by Mine.plug_eq
name_quick tw772564365185477556 for Mine.plug by Mine.plug_eq
name_quick tw6208910965292489261 for Mine.plug by Mine.plug_eq
name_quick tw6568467687531709037 for Mine.plug by Mine.plug_eq
name_quick tw14647417624928369756 for Mine.plug by Mine.plug_eq
name_quick tw6338894885288841830 for Mine.plug by Mine.plug_eq
name_quick tw13439652990877377571 for Mine.plug by Mine.plug_eq
name_quick tw16376237812277222054 for Mine.plug by Mine.plug_eq
name_quick tw7792700002687035005 for Mine.plug by Mine.plug_eq
name_quick tw14827714588952709054 for Mine.plug by Mine.plug_eq
name_quick tw8210202977690762169 for Mine.plug by Mine.plug_eq
name_quick tw10395332584310045583 for Mine.plug by Mine.plug_eq
name_quick tw17592209452093105858 for Mine.plug by Mine.plug_eq
name_quick tw11548872703181320951 for Mine.plug by Mine.plug_eq
name_quick tw1158361714356455011 for Mine.plug by Mine.plug_eq
name_quick tw15743010393045028110 for Mine.plug by Mine.plug_eq
name_quick tw3719891259706897012 for Mine.plug by Mine.plug_eq
name_quick tw539538531456391632 for Mine.plug by Mine.plug_eq
name_quick tw15012102849882553082 for Mine.plug by Mine.plug_eq
name_quick tw14811107726043686439 for Mine.plug by Mine.plug_eq
name_quick tw15481805183316651443 for Mine.plug by Mine.plug_eq
name_quick tw9007994994280594889 for Mine.plug by Mine.plug_eq
name_quick tw2777980699273126189 for Mine.plug by Mine.plug_eq
name_quick tw14546174082565282566 for Mine.plug by Mine.plug_eq
name_quick tw5708563065076447513 for Mine.plug by Mine.plug_eq
name_quick tw4849480874435393781 for Mine.plug by Mine.plug_eq
name_quick tw9142603964197575258 for Mine.plug by Mine.plug_eq
name_quick tw1840220198017710270 for Mine.plug by Mine.plug_eq
name_quick tw14201004317487731011 for Mine.plug by Mine.plug_eq
name_quick tw14398111036562950334 for Mine.plug by Mine.plug_eq
name_quick tw11662115353561507501 for Mine.plug by Mine.plug_eq
name_quick tw14903569129155370506 for Mine.plug by Mine.plug_eq
name_quick tw8331849164307833061 for Mine.plug by Mine.plug_eq
name_quick tw12876709506271813870 for Mine.plug by Mine.plug_eq
name_quick tw8916268530333523031 for Mine.plug by Mine.plug_eq
name_quick tw11481637867367846703 for Mine.plug by Mine.plug_eq
name_quick tw15870398105094248349 for Mine.plug by Mine.plug_eq
name_quick tw18146532975450069615 for Mine.plug by Mine.plug_eq
name_quick tw9739999909748841315 for Mine.plug by Mine.plug_eq
name_quick tw8546256303203405941 for Mine.plug by Mine.plug_eq
name_quick tw8274446707539698164 for Mine.plug by Mine.plug_eq
name_quick tw5711038861398032994 for Mine.plug by Mine.plug_eq
name_quick tw13257283266767686631 for Mine.plug by Mine.plug_eq
name_quick tw7188602182371822397 for Mine.plug by Mine.plug_eq
name_quick tw17499849576073844966 for Mine.plug by Mine.plug_eq
name_quick tw5364010647548929812 for Mine.plug by Mine.plug_eq
name_quick tw7424060955962978353 for Mine.plug by Mine.plug_eq
name_quick tw15850915115632130195 for Mine.plug by Mine.plug_eq
name_quick tw11657350159256941575 for Mine.plug by Mine.plug_eq
name_quick tw3236729772642805936 for Mine.plug by Mine.plug_eq
name_quick tw2692750590507578028 for Mine.plug by Mine.plug_eq
name_quick tw11220919329744738794 for Mine.plug by Mine.plug_eq
name_quick tw2492000799826889573 for Mine.plug by Mine.plug_eq
name_quick tw12488014758255163090 for Mine.plug by Mine.plug_eq
name_quick tw1683588176727124409 for Mine.plug by Mine.plug_eq
name_quick tw14441679199631801671 for Mine.plug by Mine.plug_eq
name_quick tw15499940227032437249 for Mine.plug by Mine.plug_eq
name_quick tw8949853181751564097 for Mine.plug by Mine.plug_eq
name_quick tw209982475168477708 for Mine.plug by Mine.plug_eq
name_quick tw10792498714594961201 for Mine.plug by Mine.plug_eq
name_quick tw13631397514672939371 for Mine.plug by Mine.plug_eq
name_quick tw5634867526602368427 for Mine.plug by Mine.plug_eq
name_quick tw8972062959192195235 for Mine.plug by Mine.plug_eq
name_quick tw16457251377207888201 for Mine.plug by Mine.plug_eq
name_quick tw14963028359598502718 for Mine.plug by Mine.plug_eq
name_quick tw1783128247137549839 for Mine.plug by Mine.plug_eq
name_quick tw1998347030407657756 for Mine.plug by Mine.plug_eq
name_quick tw3897268976836264337 for Mine.plug by Mine.plug_eq
name_quick tw1804834754348979943 for Mine.plug by Mine.plug_eq
name_quick tw15495752065017430504 for Mine.plug by Mine.plug_eq
name_quick tw11078473246598507814 for Mine.plug by Mine.plug_eq
name_quick tw14538725608371270373 for Mine.plug by Mine.plug_eq
name_quick tw9615563845995560447 for Mine.plug by Mine.plug_eq
name_quick tw6680039986389304194 for Mine.plug by Mine.plug_eq
name_quick tw13124451607818894078 for Mine.plug by Mine.plug_eq
name_quick tw7837367980739423823 for Mine.plug by Mine.plug_eq
name_quick tw7777280633956137809 for Mine.plug by Mine.plug_eq
name_quick tw11502921971960690029 for Mine.plug by Mine.plug_eq
name_quick tw4547051000311932777 for Mine.plug by Mine.plug_eq
name_quick tw4517560463748656503 for Mine.plug by Mine.plug_eq
name_quick tw685176793378778422 for Mine.plug by Mine.plug_eq
name_quick tw11408881796089955267 for Mine.plug by Mine.plug_eq
name_quick tw1181674027530198351 for Mine.plug by Mine.plug_eq
name_quick tw16670775579421159206 for Mine.plug by Mine.plug_eq
name_quick tw6408400580700104982 for Mine.plug by Mine.plug_eq
name_quick tw6060609690816243450 for Mine.plug by Mine.plug_eq
name_quick tw4938610541543285704 for Mine.plug by Mine.plug_eq
name_quick tw10470340158578859262 for Mine.plug by Mine.plug_eq
name_quick tw8919978131948313185 for Mine.plug by Mine.plug_eq
name_quick tw12269216009862288129 for Mine.plug by Mine.plug_eq
name_quick tw13674586047789940208 for Mine.plug by Mine.plug_eq
name_quick tw14958820412457663293 for Mine.plug by Mine.plug_eq
name_quick tw6327569006664949090 for Mine.plug by Mine.plug_eq
name_quick tw12770481643036789091 for Mine.plug by Mine.plug_eq
name_quick tw12003660372656728261 for Mine.plug by Mine.plug_eq
name_quick tw15267169705364848929 for Mine.plug by Mine.plug_eq
name_quick tw10373885705245885314 for Mine.plug by Mine.plug_eq
name_quick tw5338801713223979382 for Mine.plug by Mine.plug_eq
name_quick tw866652123128751154 for Mine.plug by Mine.plug_eq
name_quick tw14671739901194505220 for Mine.plug by Mine.plug_eq
name_quick tw13629772047308552242 for Mine.plug by Mine.plug_eq
name_quick tw3681537716864247207 for Mine.plug by Mine.plug_eq
name_quick tw17334828202450815106 for Mine.plug by Mine.plug_eq
name_quick tw5672623616920478581 for Mine.plug by Mine.plug_eq
name_quick tw12732229965196715158 for Mine.plug by Mine.plug_eq
name_quick tw10911716485165742097 for Mine.plug by Mine.plug_eq
name_quick tw14349632617732883400 for Mine.plug by Mine.plug_eq
name_quick tw6856243202995728640 for Mine.plug by Mine.plug_eq
name_quick tw6828597562223498359 for Mine.plug by Mine.plug_eq
name_quick tw13705283562680751584 for Mine.plug by Mine.plug_eq
name_quick tw11429584451438056573 for Mine.plug by Mine.plug_eq
name_quick tw3239113980409921550 for Mine.plug by Mine.plug_eq
name_quick tw5274481202262711730 for Mine.plug by Mine.plug_eq
name_quick tw11322711164460184488 for Mine.plug by Mine.plug_eq
name_quick tw9679390387850249182 for Mine.plug by Mine.plug_eq
name_quick tw5920806927976990809 for Mine.plug by Mine.plug_eq
name_quick tw17472340661787783526 for Mine.plug by Mine.plug_eq
name_quick tw9860861378791804195 for Mine.plug by Mine.plug_eq
name_quick tw4063829332388037331 for Mine.plug by Mine.plug_eq
name_quick tw10843851513400154316 for Mine.plug by Mine.plug_eq
name_quick tw5667099127317398114 for Mine.plug by Mine.plug_eq
name_quick tw10988312798546598065 for Mine.plug by Mine.plug_eq
name_quick tw9757595895972200118 for Mine.plug by Mine.plug_eq
name_quick tw5812350808301622050 for Mine.plug by Mine.plug_eq
name_quick tw18124618509676941091 for Mine.plug by Mine.plug_eq
name_quick tw13032259773685033708 for Mine.plug by Mine.plug_eq
name_quick tw3981977580325598530 for Mine.plug by Mine.plug_eq
name_quick tw11112856592854345388 for Mine.plug by Mine.plug_eq
name_quick tw16626521671886133394 for Mine.plug by Mine.plug_eq
name_quick tw3270257207059953099 for Mine.plug by Mine.plug_eq
name_quick tw13348088958985639553 for Mine.plug by Mine.plug_eq
name_quick tw8186657734068701312 for Mine.plug by Mine.plug_eq
name_quick tw16860917588515726111 for Mine.plug by Mine.plug_eq
name_quick tw4334401890000744311 for Mine.plug by Mine.plug_eq
name_quick tw261171577418715137 for Mine.plug by Mine.plug_eq
name_quick tw3340072933214586257 for Mine.plug by Mine.plug_eq
name_quick tw17234092154637527361 for Mine.plug by Mine.plug_eq
name_quick tw8151759404152838978 for Mine.plug by Mine.plug_eq
name_quick tw17678831435119133177 for Mine.plug by Mine.plug_eq
name_quick tw16226643914720891334 for Mine.plug by Mine.plug_eq
open_top hd for PySem.Challenge.rw_fc0037_01
namespace Mine

-- part AL
section
theorem va_some {kvs : List (Int × Value)} {y : Int} : (valueAt kvs y).isSome = true ↔ y ∈ kvs.map (·.1) := by
  rw [valueAt_isSome_eq_any]
  simp only [List.any_eq_true, decide_eq_true_eq, List.mem_map]
theorem va_none {kvs : List (Int × Value)} {y : Int} : valueAt kvs y = none ↔ y ∉ kvs.map (·.1) := by
  rw [← va_some]
  cases valueAt kvs y <;> simp
theorem va_cons (k : Int) (v : Value) (kvs : List (Int × Value)) (y : Int) : valueAt ((k, v) :: kvs) y = if k = y then some v else valueAt kvs y := by
  unfold valueAt
  by_cases h : k = y <;> simp [h]
theorem va_append (kvs : List (Int × Value)) (k : Int) (v : Value) (y : Int) : valueAt (kvs ++ [(k, v)]) y = (valueAt kvs y).or (if k = y then some v else none) := by
  induction kvs with
  | nil =>
    rw [List.nil_append, va_cons]
    have : valueAt ([] : List (Int × Value)) y = none := rfl
    rw [this]; rfl
  | cons p kvs ih =>
    obtain ⟨a, b⟩ := p
    rw [List.cons_append, va_cons, va_cons, ih]
    by_cases h : a = y <;> simp [h]
theorem va_stored (kvs : List (Int × Value)) (k : Int) (v : Value) (y : Int) : valueAt (stored kvs k v) y = if k = y then some v else valueAt kvs y := by
  by_cases hm : kvs.any (fun kv => kv.1 = k) = true
  · have e : stored kvs k v = kvs.map (fun kv => if kv.1 = k then (kv.1, v) else kv) := by unfold stored; rw [if_pos hm]
    rw [e]
    have key : ∀ l : List (Int × Value), valueAt (l.map (fun kv => if kv.1 = k then (kv.1, v) else kv)) y = if k = y then (if l.any (fun kv => kv.1 = k) then some v else none) else valueAt l y := by
      intro l
      induction l with
      | nil =>
        have : valueAt ([] : List (Int × Value)) y = none := rfl
        simp [this]
      | cons p l ih =>
        obtain ⟨a, b⟩ := p
        rw [List.map_cons]
        by_cases ha : a = k
        · subst ha
          rw [if_pos rfl, va_cons]
          by_cases hy : a = y
          · simp [hy]
          · rw [if_neg hy, if_neg hy, ih, if_neg hy, va_cons, if_neg hy]
        · rw [if_neg ha, va_cons, ih]
          by_cases hy : k = y
          · subst hy
            rw [if_pos rfl, if_pos rfl, if_neg ha, List.any_cons, decide_eq_false ha, Bool.false_or]
          · rw [if_neg hy, if_neg hy, va_cons]
    rw [key, if_pos hm]
  · have hn : valueAt kvs k = none := by
      have := valueAt_isSome_eq_any kvs k
      cases q : valueAt kvs k with
      | none => rfl
      | some z => rw [q] at this; exact absurd this.symm hm
    rw [stored_absent hn, va_append]
    by_cases hy : k = y
    · subst hy; simp [hn]
    · simp [hy]
theorem va_stored_self (kvs : List (Int × Value)) (k : Int) (v : Value) : valueAt (stored kvs k v) k = some v := by rw [va_stored, if_pos rfl]
theorem va_without (kvs : List (Int × Value)) (k y : Int) : valueAt (without kvs k) y = if k = y then none else valueAt kvs y := by
  induction kvs with
  | nil =>
    have : valueAt ([] : List (Int × Value)) y = none := rfl
    simp [without, this]
  | cons p kvs ih =>
    obtain ⟨a, b⟩ := p
    have e : without ((a, b) :: kvs) k = if a = k then without kvs k else (a, b) :: without kvs k := by
      unfold without
      by_cases h : a = k <;> simp [h]
    rw [e]
    by_cases h : a = k
    · subst h
      rw [if_pos rfl, ih, va_cons]
      by_cases hy : a = y <;> simp [hy]
    · rw [if_neg h, va_cons, ih, va_cons]
      by_cases hy : k = y
      · subst hy; simp [h]
      · simp [hy]
theorem without_keys (kvs : List (Int × Value)) (k : Int) : (without kvs k).map (·.1) = (kvs.map (·.1)).filter fun y => decide (y ≠ k) := by
  unfold without
  rw [List.filter_map]; rfl
theorem filter_erase {l : List Int} (h : l.Nodup) (k : Int) : (l.filter fun y => decide (y ≠ k)) = l.erase k := by
  rw [h.erase_eq_filter]
  congr 1
  funext y
  by_cases e : y = k <;> simp [e]
theorem stored_len {kvs : List (Int × Value)} {k : Int} {v : Value} (h : valueAt kvs k = none) : (stored kvs k v).length = kvs.length + 1 := by
  rw [stored_absent h]; simp
theorem stored_keys {kvs : List (Int × Value)} {k : Int} {v : Value} (h : valueAt kvs k = none) : (stored kvs k v).map (·.1) = kvs.map (·.1) ++ [k] := by
  rw [stored_absent h]; simp

structure Inv (lru : Bool) (kn : Nat) (asks q loads : List Int) (kvs kvsL : List (Int × Value)) : Prop where
  run : On lru kn asks q loads
  mem : ∀ y, y ∈ kvs.map (·.1) ↔ y ∈ q
  len : kvs.length = q.length
  nd : (kvs.map (·.1)).Nodup
  val : ∀ y v, valueAt kvs y = some v → ∃ j t t', v = .int j t ∧ valueAt kvsL y = some (.int j t')
  lenL : kvsL.length ≤ asks.length
  lenO : loads.length ≤ asks.length
variable {lru : Bool} {kn : Nat} {asks q loads : List Int} {kvs kvs2 kvsL : List (Int × Value)} {x x0 : Int}
theorem Inv.start : Inv lru kn [] [] [] [] [] := by
  refine ⟨.nil, fun _ => Iff.rfl, rfl, List.nodup_nil, fun y v h => ?_, Nat.le_refl _, Nat.le_refl _⟩
  have e : valueAt ([] : List (Int × Value)) y = none := rfl
  rw [e] at h
  cases h
theorem Inv.hit (I : Inv lru kn asks q loads kvs kvsL) {v : Value} (h : valueAt kvs x = some v) (hk : 0 < kn) : Inv lru kn (x :: asks) (if lru then q.erase x ++ [x] else q) loads kvs kvsL := by
  have hx : x ∈ q := (I.mem x).mp (va_some.mp (by rw [h]; rfl))
  have hnd := (I.run.facts hk).1
  refine ⟨I.run.hit hx, fun y => (I.mem y).trans ?_, ?_, I.nd, I.val, Nat.le_succ_of_le I.lenL, Nat.le_succ_of_le I.lenO⟩
  · cases lru with
    | false => exact Iff.rfl
    | true =>
      rw [if_pos rfl, List.mem_append, hnd.mem_erase_iff, List.mem_singleton]
      constructor
      · intro h
        by_cases e : y = x
        · exact .inr e
        · exact .inl ⟨e, h⟩
      · rintro (⟨_, h⟩ | rfl)
        · exact h
        · exact hx
  · rw [I.len]
    cases lru with
    | false => rfl
    | true =>
      rw [if_pos rfl, List.length_append, List.length_erase_of_mem hx]
      have := List.length_pos_of_mem hx
      simp only [List.length_cons, List.length_nil]; omega
theorem Inv.new (I : Inv lru kn asks q loads kvs kvsL) (h : valueAt kvs x = none) (hlt : kvs.length < kn) (j : Int) (t t' : Tok) :
    Inv lru kn (x :: asks) (q ++ [x]) (loads ++ [x]) (stored kvs x (.int j t)) (stored kvsL x (.int j t')) := by
  have hx : x ∉ q := fun hq => va_none.mp h ((I.mem x).mpr hq)
  have hr := I.run.miss hx
  rw [if_pos (by rw [← I.len]; exact hlt)] at hr
  refine ⟨hr, fun y => ?_, ?_, ?_, fun y v hy => ?_, ?_, by simpa using I.lenO⟩
  · rw [stored_keys h, List.mem_append, List.mem_append, I.mem y]
  · rw [stored_len h, I.len]; simp
  · rw [stored_keys h]
    refine List.nodup_append.mpr ⟨I.nd, by simp, ?_⟩
    intro a ha b hb
    rw [List.mem_singleton] at hb
    subst hb
    intro e
    subst e
    exact va_none.mp h ha
  · rw [va_stored] at hy ⊢
    by_cases e : x = y
    · rw [if_pos e] at hy ⊢
      cases hy
      exact ⟨j, t, t', rfl, rfl⟩
    · rw [if_neg e] at hy ⊢
      exact I.val y v hy
  · exact Nat.le_trans (stored_length_le ..) (Nat.succ_le_succ I.lenL)
theorem Inv.full (I : Inv lru kn asks q loads kvs kvsL) (h : valueAt kvs x = none) (hlt : ¬ kvs.length < kn) {rest : List Int} (hq : q = x0 :: rest) (hk : 0 < kn) (j : Int) (t t' : Tok) :
    Inv lru kn (x :: asks) (rest ++ [x]) (loads ++ [x]) (stored (without kvs x0) x (.int j t)) (stored kvsL x (.int j t')) := by
  have hx : x ∉ q := fun hq => va_none.mp h ((I.mem x).mpr hq)
  have hnd := (I.run.facts hk).1
  have hr := I.run.miss hx
  rw [if_neg (by rw [← I.len]; exact hlt), hq] at hr
  rw [hq, List.nodup_cons] at hnd
  have hw : valueAt (without kvs x0) x = none := by rw [va_without]; split <;> simp [h]
  have hmw : ∀ y, y ∈ (without kvs x0).map (·.1) ↔ y ∈ rest := fun y => by
    rw [without_keys, List.mem_filter, I.mem y, hq, List.mem_cons, decide_eq_true_eq]
    constructor
    · rintro ⟨rfl | h, e⟩
      · exact absurd rfl e
      · exact h
    · intro h
      exact ⟨.inr h, fun e => hnd.1 (e ▸ h)⟩
  have hlw : (without kvs x0).length = rest.length := by
    have h1 : (without kvs x0).length = ((without kvs x0).map (·.1)).length := by simp
    have h0 : x0 ∈ kvs.map (·.1) := (I.mem x0).mpr (by rw [hq]; exact .head _)
    rw [h1, without_keys, filter_erase I.nd, List.length_erase_of_mem h0, List.length_map, I.len, hq]; rfl
  refine ⟨hr, fun y => ?_, ?_, ?_, fun y v hy => ?_, ?_, by simpa using I.lenO⟩
  · rw [stored_keys hw, List.mem_append, List.mem_append, hmw y]
  · rw [stored_len hw, hlw]; simp
  · rw [stored_keys hw]
    refine List.nodup_append.mpr ⟨?_, by simp, ?_⟩
    · rw [without_keys]; exact I.nd.filter _
    · intro a ha b hb
      rw [List.mem_singleton] at hb
      subst hb
      intro e
      subst e
      exact va_none.mp hw ha
  · rw [va_stored] at hy ⊢
    by_cases e : x = y
    · rw [if_pos e] at hy ⊢
      cases hy
      exact ⟨j, t, t', rfl, rfl⟩
    · rw [if_neg e] at hy ⊢
      rw [va_without] at hy
      split at hy
      · cases hy
      · exact I.val y v hy
  · exact Nat.le_trans (stored_length_le ..) (Nat.succ_le_succ I.lenL)
theorem Inv.lenq (I : Inv lru kn asks q loads kvs kvsL) (hk : 0 < kn) : kvs.length ≤ kn := by rw [I.len]; exact (I.run.facts hk).2.1

/-- the order as a dict's keys -/
theorem ord_new (h : kvs2.map (·.1) = q) (hx : valueAt kvs2 x = none) (v : Value) : (stored kvs2 x v).map (·.1) = q ++ [x] := by rw [stored_keys hx, h]
theorem ord_head {rest : List Int} (h : kvs2.map (·.1) = q) (hq : q = x0 :: rest) : ∃ v, kvs2[0]? = some (x0, v) ∧ valueAt kvs2 x0 = some v := by
  subst hq
  cases kvs2 with
  | nil => simp at h
  | cons p l =>
    obtain ⟨a, b⟩ := p
    simp only [List.map_cons, List.cons.injEq] at h
    obtain ⟨rfl, h⟩ := h
    exact ⟨b, rfl, by rw [va_cons, if_pos rfl]⟩
theorem ord_full {rest : List Int} (h : kvs2.map (·.1) = q) (hq : q = x0 :: rest) (hnd : q.Nodup) (hx : valueAt kvs2 x = none) (v : Value) :
    valueAt (without kvs2 x0) x = none ∧ (stored (without kvs2 x0) x v).map (·.1) = rest ++ [x] := by
  have hw : valueAt (without kvs2 x0) x = none := by rw [va_without]; split <;> simp [hx]
  refine ⟨hw, ?_⟩
  rw [stored_keys hw, without_keys, h, filter_erase hnd, hq]
  simp
theorem ord_touch (h : kvs2.map (·.1) = q) (hnd : q.Nodup) (v : Value) : (stored (without kvs2 x) x v).map (·.1) = q.erase x ++ [x] := by
  have hw : valueAt (without kvs2 x) x = none := by rw [va_without, if_pos rfl]
  rw [stored_keys hw, without_keys, h, filter_erase hnd]
theorem take_rev {row : List Int} {i : Nat} (h : i < row.length) : (row.take (i + 1)).reverse = row.getD ((0 : Int) + (i : Int)).toNat 0 :: (row.take i).reverse := by
  have e : ((0 : Int) + (i : Int)).toNat = i := by omega
  rw [e, List.take_add_one, List.reverse_append]
  simp [List.getD, List.getElem?_eq_getElem h]

theorem frame_turn {p k u1 u2 : Option Value} {m0 : Str → Option Value} :
    (fun y => if y = Str.ofString "key" then k else if y = Str.ofString "place" then p else (if y = Str.ofString "place" then u1 else if y = Str.ofString "key" then u2 else m0 y)) = fun y => if y = Str.ofString "place" then p else if y = Str.ofString "key" then k else m0 y := by
  funext y
  by_cases h1 : y = Str.ofString "place"
  · have h2 : ¬ y = Str.ofString "key" := by rw [h1]; decide
    rw [if_neg h2, if_pos h1, if_pos h1]
  · by_cases h2 : y = Str.ofString "key"
    · rw [if_pos h2, if_neg h1, if_pos h2]
    · rw [if_neg h2, if_neg h1, if_neg h1, if_neg h1, if_neg h2, if_neg h2]
theorem set_one {zs : List Int} {i : Nat} {x : Int} (h : zs.length = 1) : (zs.set i x).length = 1 := by rw [List.length_set, h]
theorem ints_push {vs : List Value} {ns : List Int} (h : IntsAre vs ns) (x : Int) (t : Tok) : IntsAre (vs.toArray.push (.int x t)).toList (ns ++ [x]) := by
  simpa using IntsAre.append h (.cons x t .nil)
theorem frame_start {m0 : Str → Option Value} (h1 : m0 (Str.ofString "place") = none) (h2 : m0 (Str.ofString "key") = none) : m0 = fun y => if y = Str.ofString "place" then none else if y = Str.ofString "key" then none else m0 y := by
  funext y
  by_cases e1 : y = Str.ofString "place"
  · rw [if_pos e1, e1, h1]
  · rw [if_neg e1]
    by_cases e2 : y = Str.ofString "key"
    · rw [if_pos e2, e2, h2]
    · rw [if_neg e2]

theorem Inv.none2 (I : Inv lru kn asks q loads kvs kvsL) (h2 : kvs2.map (·.1) = q) (h : valueAt kvs x = none) : valueAt kvs2 x = none := by
  rw [va_none, h2]
  exact fun hq => va_none.mp h ((I.mem x).mpr hq)
theorem Inv.some2 (I : Inv lru kn asks q loads kvs kvsL) (h2 : kvs2.map (·.1) = q) {v : Value} (h : valueAt kvs x = some v) : ∃ vo, valueAt kvs2 x = some vo := by
  have hx : x ∈ kvs2.map (·.1) := by rw [h2]; exact (I.mem x).mp (va_some.mp (by rw [h]; rfl))
  exact Option.isSome_iff_exists.mp (va_some.mpr hx)
theorem Inv.some1 (I : Inv lru kn asks q loads kvs kvsL) (hx : x ∈ q) : ∃ v, valueAt kvs x = some v := Option.isSome_iff_exists.mp (va_some.mpr ((I.mem x).mpr hx))
theorem without_none {k : Int} (h : valueAt kvs x = none) : valueAt (without kvs k) x = none := by rw [va_without]; split <;> simp [h]
theorem Inv.len2 (I : Inv lru kn asks q loads kvs kvsL) (h2 : kvs2.map (·.1) = q) : kvs2.length = kvs.length := by rw [I.len, ← h2]; simp

/-- the index of an RRCache: every key at its place in the list -/
structure RIdx (ks : List Int) (kvi : List (Int × Value)) : Prop where
  nd : ks.Nodup
  idx : ∀ z ∈ ks, ∃ (p : Nat) (t : Tok), valueAt kvi z = some (.int (p : Int) t) ∧ ks[p]? = some z
  off : ∀ z, z ∉ ks → valueAt kvi z = none
theorem RIdx.start : RIdx [] [] := ⟨List.nodup_nil, fun _ h => (nomatch h), fun _ _ => rfl⟩
variable {ks : List Int} {kvi : List (Int × Value)}
theorem RIdx.new (R : RIdx ks kvi) (hx : x ∉ ks) (t : Tok) : RIdx (ks ++ [x]) (stored kvi x (.int (ks.length : Nat) t)) := by
  refine ⟨List.nodup_append.mpr ⟨R.nd, by simp, ?_⟩, fun z hz => ?_, fun z hz => ?_⟩
  · intro a ha b hb
    rw [List.mem_singleton] at hb
    subst hb
    intro e
    subst e
    exact hx ha
  · rw [va_stored]
    by_cases e : x = z
    · subst e
      rw [if_pos rfl]
      exact ⟨ks.length, t, rfl, by simp⟩
    · rw [if_neg e]
      have hz' : z ∈ ks := (List.mem_append.mp hz).resolve_right fun h => e (List.mem_singleton.mp h).symm
      obtain ⟨p, t', h1, h2⟩ := R.idx z hz'
      exact ⟨p, t', h1, by rw [List.getElem?_append_left (List.getElem?_eq_some_iff.mp h2).1]; exact h2⟩
  · rw [va_stored]
    rw [List.mem_append, List.mem_singleton, not_or] at hz
    rw [if_neg (fun e => hz.2 e.symm)]
    exact R.off z hz.1
theorem nodup_at {l : List Int} (h : l.Nodup) {i j : Nat} {z : Int} (hi : l[i]? = some z) (hj : l[j]? = some z) : i = j := by
  obtain ⟨li, ei⟩ := List.getElem?_eq_some_iff.mp hi
  obtain ⟨lj, ej⟩ := List.getElem?_eq_some_iff.mp hj
  have hp := List.pairwise_iff_getElem.mp h
  rcases Nat.lt_trichotomy i j with c | c | c
  · exact absurd (ei.trans ej.symm) (hp i j li lj c)
  · exact c
  · exact absurd (ej.trans ei.symm) (hp j i lj li c)
theorem drop_get {l : List Int} {i : Nat} (h : i + 1 < l.length) : l.dropLast[i]? = l[i]? := by
  rw [List.getElem?_dropLast]; rw [if_pos (by omega)]
theorem mem_at {l : List Int} {z : Int} : z ∈ l ↔ ∃ i : Nat, l[i]? = some z := List.mem_iff_getElem?
/-- the last key goes -/
theorem RIdx.last (R : RIdx ks kvi) {y : Int} {p : Nat} (hp : ks[p]? = some y) (hl : p + 1 = ks.length) :
    RIdx ks.dropLast (without kvi y) ∧ ∀ z, z ∈ ks.dropLast ↔ z ∈ ks ∧ z ≠ y := by
  have hm : ∀ z, z ∈ ks.dropLast ↔ z ∈ ks ∧ z ≠ y := fun z => by
    constructor
    · intro hz
      obtain ⟨i, hi⟩ := mem_at.mp hz
      have hlt := (List.getElem?_eq_some_iff.mp hi).1
      rw [List.length_dropLast] at hlt
      rw [drop_get (by omega)] at hi
      refine ⟨mem_at.mpr ⟨i, hi⟩, fun e => ?_⟩
      subst e
      have := nodup_at R.nd hi hp
      omega
    · rintro ⟨hz, hne⟩
      obtain ⟨i, hi⟩ := mem_at.mp hz
      have hlt := (List.getElem?_eq_some_iff.mp hi).1
      have : i ≠ p := fun e => hne (by rw [e, hp] at hi; exact (Option.some.inj hi).symm)
      exact mem_at.mpr ⟨i, by rw [drop_get (by omega)]; exact hi⟩
  refine ⟨⟨R.nd.sublist (List.dropLast_sublist _), fun z hz => ?_, fun z hz => ?_⟩, hm⟩
  · obtain ⟨hz1, hz2⟩ := (hm z).mp hz
    obtain ⟨q, t, h1, h2⟩ := R.idx z hz1
    refine ⟨q, t, by rw [va_without, if_neg (fun e => hz2 e.symm)]; exact h1, ?_⟩
    have hlt := (List.getElem?_eq_some_iff.mp h2).1
    have : q ≠ p := fun e => hz2 (by rw [e, hp] at h2; exact (Option.some.inj h2).symm)
    rw [drop_get (by omega)]; exact h2
  · rw [va_without]
    by_cases e : y = z
    · rw [if_pos e]
    · rw [if_neg e]
      exact R.off z fun h => hz ((hm z).mpr ⟨h, fun e' => e e'.symm⟩)
/-- the last key takes the place of the one that goes -/
theorem RIdx.swap (R : RIdx ks kvi) {y last : Int} {p : Nat} (hp : ks[p]? = some y) (hl : p + 1 ≠ ks.length) (hlast : ks[ks.length - 1]? = some last) (t : Tok) :
    RIdx (ks.set p last).dropLast (stored (without kvi y) last (.int (p : Int) t)) ∧ ∀ z, z ∈ (ks.set p last).dropLast ↔ z ∈ ks ∧ z ≠ y := by
  have hpl := (List.getElem?_eq_some_iff.mp hp).1
  have hly : last ≠ y := fun e => by
    subst e
    have := nodup_at R.nd hlast hp
    omega
  have hget : ∀ i, i + 1 < ks.length → (ks.set p last).dropLast[i]? = if i = p then some last else ks[i]? := fun i hi => by
    rw [drop_get (by rw [List.length_set]; exact hi), List.getElem?_set]
    by_cases e : p = i
    · rw [if_pos e, if_pos (by omega), if_pos e.symm]
    · rw [if_neg e, if_neg (fun h => e h.symm)]
  have hm : ∀ z, z ∈ (ks.set p last).dropLast ↔ z ∈ ks ∧ z ≠ y := fun z => by
    constructor
    · intro hz
      obtain ⟨i, hi⟩ := mem_at.mp hz
      have hlt := (List.getElem?_eq_some_iff.mp hi).1
      rw [List.length_dropLast, List.length_set] at hlt
      rw [hget i (by omega)] at hi
      by_cases e : i = p
      · rw [if_pos e] at hi
        cases hi
        exact ⟨mem_at.mpr ⟨_, hlast⟩, hly⟩
      · rw [if_neg e] at hi
        refine ⟨mem_at.mpr ⟨i, hi⟩, fun e' => ?_⟩
        subst e'
        exact e (nodup_at R.nd hi hp)
    · rintro ⟨hz, hne⟩
      obtain ⟨i, hi⟩ := mem_at.mp hz
      have hlt := (List.getElem?_eq_some_iff.mp hi).1
      have hip : i ≠ p := fun e => hne (by rw [e, hp] at hi; exact (Option.some.inj hi).symm)
      by_cases hil : i + 1 = ks.length
      · have : i = ks.length - 1 := by omega
        rw [this, hlast] at hi
        cases hi
        exact mem_at.mpr ⟨p, by rw [hget p (by omega), if_pos rfl]⟩
      · exact mem_at.mpr ⟨i, by rw [hget i (by omega), if_neg hip]; exact hi⟩
  refine ⟨⟨?_, fun z hz => ?_, fun z hz => ?_⟩, hm⟩
  · refine List.pairwise_iff_getElem.mpr fun i j hi hj hij e => ?_
    rw [List.length_dropLast, List.length_set] at hi hj
    have h1 : (ks.set p last).dropLast[i]? = some ((ks.set p last).dropLast[i]'(by rw [List.length_dropLast, List.length_set]; exact hi)) := List.getElem?_eq_getElem _
    have h2 : (ks.set p last).dropLast[j]? = some ((ks.set p last).dropLast[j]'(by rw [List.length_dropLast, List.length_set]; exact hj)) := List.getElem?_eq_getElem _
    rw [e, ← h2, hget i (by omega), hget j (by omega)] at h1
    have hne : ∀ k, k + 1 < ks.length → k ≠ p → ks[k]? ≠ some last := fun k hk _ e' => by
      have := nodup_at R.nd e' hlast
      omega
    by_cases ei : i = p
    · rw [if_pos ei, if_neg (by omega)] at h1
      exact hne j (by omega) (by omega) h1.symm
    · by_cases ej : j = p
      · rw [if_neg ei, if_pos ej] at h1
        exact hne i (by omega) ei h1
      · rw [if_neg ei, if_neg ej] at h1
        have hi' : i < ks.length := by omega
        have := nodup_at R.nd (List.getElem?_eq_getElem hi') (h1.symm.trans (List.getElem?_eq_getElem hi') )
        omega
  · obtain ⟨hz1, hz2⟩ := (hm z).mp hz
    rw [va_stored]
    by_cases e : last = z
    · rw [if_pos e]
      refine ⟨p, t, rfl, ?_⟩
      rw [hget p (by omega), if_pos rfl, e]
    · rw [if_neg e, va_without, if_neg (fun e' => hz2 e'.symm)]
      obtain ⟨q, t', h1, h2⟩ := R.idx z hz1
      have hlt := (List.getElem?_eq_some_iff.mp h2).1
      have hqp : q ≠ p := fun e' => hz2 (by rw [e', hp] at h2; exact (Option.some.inj h2).symm)
      have hql : q ≠ ks.length - 1 := fun e' => e (by rw [e', hlast] at h2; exact Option.some.inj h2)
      exact ⟨q, t', h1, by rw [hget q (by omega), if_neg hqp]; exact h2⟩
  · have hz' : z ∉ ks ∨ z = y := by
      by_cases e : z = y
      · exact .inr e
      · exact .inl fun h => hz ((hm z).mpr ⟨h, e⟩)
    have hlz : last ≠ z := fun e => hz ((hm z).mpr ⟨by rw [← e]; exact mem_at.mpr ⟨_, hlast⟩, by rw [← e]; exact hly⟩)
    rw [va_stored, if_neg hlz, va_without]
    rcases hz' with h | h
    · split
      · rfl
      · exact R.off z h
    · rw [if_pos h.symm]

structure InvR (hn : Nat) (asks ks loads : List Int) (kvs kvi kvsL : List (Int × Value)) : Prop where
  run : Op hn asks ks loads
  mem : ∀ y, y ∈ kvs.map (·.1) ↔ y ∈ ks
  len : kvs.length = ks.length
  nd : (kvs.map (·.1)).Nodup
  idx : RIdx ks kvi
  lenI : kvi.length ≤ 2 * asks.length
  val : ∀ y v, valueAt kvs y = some v → ∃ j t t', v = .int j t ∧ valueAt kvsL y = some (.int j t')
  lenL : kvsL.length ≤ asks.length
  lenO : loads.length ≤ asks.length
theorem InvR.start {hn : Nat} : InvR hn [] [] [] [] [] [] := by
  refine ⟨.nil, fun _ => Iff.rfl, rfl, List.nodup_nil, .start, Nat.zero_le _, fun y v h => ?_, Nat.le_refl _, Nat.le_refl _⟩
  have e : valueAt ([] : List (Int × Value)) y = none := rfl
  rw [e] at h
  cases h
section
variable {hn : Nat} {kvi kvi' : List (Int × Value)} {ks ks' : List Int}
theorem InvR.lenq (I : InvR hn asks ks loads kvs kvi kvsL) : kvs.length ≤ hn := by rw [I.len]; exact I.run.len
theorem InvR.hit (I : InvR hn asks ks loads kvs kvi kvsL) {v : Value} (h : valueAt kvs x = some v) : InvR hn (x :: asks) ks loads kvs kvi kvsL := by
  have hx : x ∈ ks := (I.mem x).mp (va_some.mp (by rw [h]; rfl))
  have := I.lenI
  exact ⟨I.run.hit hx, I.mem, I.len, I.nd, I.idx, by simp only [List.length_cons]; omega, I.val, Nat.le_succ_of_le I.lenL, Nat.le_succ_of_le I.lenO⟩
theorem InvR.new (I : InvR hn asks ks loads kvs kvi kvsL) (h : valueAt kvs x = none) (hlt : kvs.length < hn) (j : Int) (t t' ti : Tok) :
    InvR hn (x :: asks) (ks ++ [x]) (loads ++ [x]) (stored kvs x (.int j t)) (stored kvi x (.int (ks.length : Nat) ti)) (stored kvsL x (.int j t')) := by
  have hx : x ∉ ks := fun hq => va_none.mp h ((I.mem x).mpr hq)
  have hl := I.len
  have hr : Op hn (x :: asks) (ks ++ [x]) (loads ++ [x]) := I.run.miss hx (fun y hy => by rw [List.mem_append, List.mem_singleton] at hy; exact hy.symm) (by simp) (by simp only [List.length_append, List.length_cons, List.length_nil]; omega)
  refine ⟨hr, fun y => ?_, ?_, ?_, I.idx.new hx ti, ?_, fun y v hy => ?_, ?_, by simpa using I.lenO⟩
  · rw [stored_keys h, List.mem_append, List.mem_append, I.mem y]
  · rw [stored_len h, I.len]; simp
  · rw [stored_keys h]
    refine List.nodup_append.mpr ⟨I.nd, by simp, ?_⟩
    intro a ha b hb
    rw [List.mem_singleton] at hb
    subst hb
    intro e
    subst e
    exact va_none.mp h ha
  · have h1 := stored_length_le kvi x (.int (ks.length : Nat) ti)
    have h2 := I.lenI
    simp only [List.length_cons]; omega
  · rw [va_stored] at hy ⊢
    by_cases e : x = y
    · rw [if_pos e] at hy ⊢
      cases hy
      exact ⟨j, t, t', rfl, rfl⟩
    · rw [if_neg e] at hy ⊢
      exact I.val y v hy
  · exact Nat.le_trans (stored_length_le ..) (Nat.succ_le_succ I.lenL)
theorem InvR.full (I : InvR hn asks ks loads kvs kvi kvsL) (h : valueAt kvs x = none) {y : Int} (hy : y ∈ ks) (R' : RIdx ks' kvi') (hm : ∀ z, z ∈ ks' ↔ z = x ∨ (z ∈ ks ∧ z ≠ y)) (hl : ks'.length = ks.length) (hli : kvi'.length ≤ kvi.length + 2) (j : Int) (t t' : Tok) :
    InvR hn (x :: asks) ks' (loads ++ [x]) (stored (without kvs y) x (.int j t)) kvi' (stored kvsL x (.int j t')) := by
  have hx : x ∉ ks := fun hq => va_none.mp h ((I.mem x).mpr hq)
  have hr : Op hn (x :: asks) ks' (loads ++ [x]) := I.run.miss hx (fun z hz => ((hm z).mp hz).imp id And.left) ((hm x).mpr (.inl rfl)) (by rw [hl]; exact I.run.len)
  have hw : valueAt (without kvs y) x = none := without_none h
  have hmw : ∀ z, z ∈ (without kvs y).map (·.1) ↔ z ∈ ks ∧ z ≠ y := fun z => by
    rw [without_keys, List.mem_filter, I.mem z, decide_eq_true_eq]
  have hpos := List.length_pos_of_mem hy
  have hlw : (without kvs y).length + 1 = ks.length := by
    have h1 : (without kvs y).length = ((without kvs y).map (·.1)).length := by simp
    have h0 : y ∈ kvs.map (·.1) := (I.mem y).mpr hy
    rw [h1, without_keys, filter_erase I.nd, List.length_erase_of_mem h0, List.length_map, I.len]; omega
  refine ⟨hr, fun z => ?_, ?_, ?_, R', ?_, fun z v hz => ?_, ?_, by simpa using I.lenO⟩
  · rw [stored_keys hw, List.mem_append, hmw z, hm z, List.mem_singleton, or_comm]
  · rw [stored_len hw, hlw, hl]
  · rw [stored_keys hw]
    refine List.nodup_append.mpr ⟨?_, by simp, ?_⟩
    · rw [without_keys]; exact I.nd.filter _
    · intro a ha b hb
      rw [List.mem_singleton] at hb
      subst hb
      intro e
      subst e
      exact va_none.mp hw ha
  · have h2 := I.lenI
    simp only [List.length_cons]; omega
  · rw [va_stored] at hz ⊢
    by_cases e : x = z
    · rw [if_pos e] at hz ⊢
      cases hz
      exact ⟨j, t, t', rfl, rfl⟩
    · rw [if_neg e] at hz ⊢
      rw [va_without] at hz
      split at hz
      · cases hz
      · exact I.val z v hz
  · exact Nat.le_trans (stored_length_le ..) (Nat.succ_le_succ I.lenL)
theorem InvR.all (I : InvR hn asks ks loads kvs kvi kvsL) : ∀ y ∈ ks, ∃ v, valueAt kvs y = some v := fun y hy => Option.isSome_iff_exists.mp (va_some.mpr ((I.mem y).mpr hy))
theorem InvR.none (I : InvR hn asks ks loads kvs kvi kvsL) (h : valueAt kvs x = none) : valueAt kvi x = none := I.idx.off x fun hq => va_none.mp h ((I.mem x).mpr hq)
end
end

-- part W0
section
abbrev PR : Program := PySem.Challenge.rw_fc0037_01.row.prog
abbrev AR (D U : Nat) (envs : List Env) : Around := { handled := none, depth := D, frames := some envs, guards := some [], units := U }
abbrev INTS (kvs : List (Int × Value)) (w : World) (o : Obj) : Prop := o.IsDictOf (intKind PR w) kvs

/-- the contract of a def: what it is handed, what it needs of the heap, what it leaves. -/
def Spec (w : World) (D U : Nat) (f : Addr) (args : List Value) (need : List (Addr × Obj)) (post : Value → List (Addr × Obj) → Prop) : Prop :=
  ∀ (p : Program) (loose : List Str) (mean : ExcName → Option Value) (mg mb : Str → Option Value) (envs : List Env) (base g : Heap) (s : Shared) (R : Result → Shared → Prop),
    Below (AR D U envs) base envs g → (hd.heap_39 w.params).In g → Top p loose mean mg mb g → g.StaysIn s.heap → g.objs.size ≤ s.heap.objs.size →
    (∀ q ∈ need, s.heap.get? q.1 = some q.2 ∧ g.get? q.1 = none) →
    (∀ v need' h' tk', post v need' → g.StaysIn h' → (∀ q ∈ need', h'.get? q.1 = some q.2 ∧ g.get? q.1 = none) → R (.ok (.ret v)) { s with heap := h', toks := tk' }) →
    codeAny (model PR w) (AR D U envs) (.call (.ref f) ⟨args, []⟩) R s

def Left (g : Heap) (post : Value → List (Addr × Obj) → Prop) (s : Shared) (v : Value) (s' : Shared) : Prop :=
  ∃ L' m' need' h' tk', s' = { s with heap := h', toks := tk' } ∧ Fr g L' h' m' ∧ News g L' h' need' ∧ post v need'

theorem spec_enter {w : World} {D U : Nat} {f : Addr} {args : List Value} {need : List (Addr × Obj)} {post : Value → List (Addr × Obj) → Prop}
    {name qual : Str} {params : Arguments} {body : List Stmt} {scope : Scope} {dV kV doc pm cdv ct oc : Value} {an od : Option Addr} {osl : Array (Option Value)} {binds : List (Str × Value)}
    (ho : (hd.heap_39 w.params).lookup f = some ⟨oc, od, .func (fnOf name qual params body scope dV kV doc pm an cdv ct), osl⟩) (hcd : codeIn (hd.heap_39 w.params) cdv qual = true) (hroom : D < recursionLimit)
    (hbind : ∀ s : Shared, (hd.heap_39 w.params).In s.heap → BindsTo s (fnOf name qual params body scope dV kV doc pm an cdv ct) ⟨args, []⟩ binds) (hloc : ∀ y ∈ binds, scope.names.lookup y.1 = some .local)
    (h : ∀ p loose mean mg mb envs base g L' h₁ (s : Shared), Fr g L' h₁ (fun y => binds.reverse.lookup y) → News g L' h₁ need → Below (AR D U envs) base envs g → (hd.heap_39 w.params).In g → Top p loose mean mg mb g → (∀ q ∈ need, q.1 < L') →
      wpAny (model PR w) ((AR D U envs).deeper (envOf qual scope L' f cdv)) (execs body (envOf qual scope L' f cdv))
        (fun fl s' => Left g post s (match fl with | .ret v => v | _ => .none) s')
        (fun _ _ => False)
        { s with heap := h₁, toks := s.toks + binds.length })
    (hco : scope.isCoroutine = false) (hgen : scope.isGenerator = false) (hk : scope.kind = .function)
    (hcell : ∀ x ∈ scope.names, x.2 ≠ .cell) : Spec w D U f args need post := by
  intro p loose mean mg mb envs base g s R B X T st sz N ret
  refine codeAny_call_def (fd := fnOf name qual params body scope dV kV doc pm an cdv ct) (body := body) (binds := binds) hroom (st _ _ (X _ _ ho)) rfl (T.nolimit.keeps st) (codeRec_of (X.keeps st) hcd) rfl (hbind s (X.keeps st)) hcell hloc (fun h₁ hns hk₁ => ?_) hco hgen hk
  refine wpAny_mono (h p loose mean mg mb envs base g s.heap.objs.size h₁ s ⟨hns, fun b o e => hk₁ b o (st b o e), sz⟩
    (fun q hq => ⟨hk₁ _ _ (N q hq).1, Nat.ne_of_lt (Heap.lt_size (N q hq).1), (N q hq).2⟩) B X T (fun q hq => Heap.lt_size (N q hq).1)) (fun fl s' hl => ?_) fun _ _ y => y.elim
  obtain ⟨L', m', need', h', tk', rfl, F', N', hp⟩ := hl
  exact ret _ need' h' tk' hp F'.keep fun q hq => ⟨(N' q hq).1, (N' q hq).2.2⟩

theorem spec_use {w : World} {D U : Nat} {f : Addr} {args : List Value} {need rest news : List (Addr × Obj)} {post : Value → List (Addr × Obj) → Prop} (S : Spec w D U f args need post)
    {A A₀ : Around} {E Q : Value → Shared → Prop} {s : Shared} {h₀ base : Heap} {L : Addr} {m mg mb : Str → Option Value} {p : Program} {loose : List Str} {mean : ExcName → Option Value} {env : Env} {outer : List Env}
    (B : Below A₀ base outer h₀) (F : Fr h₀ L s.heap m) (N : News h₀ L s.heap news) (X : (hd.heap_39 w.params).In h₀) (T : Top p loose mean mg mb h₀)
    (hA : A = AR D U (env :: outer)) (hf : env.frame = some L) (hke : env.scope.kind = .function) (hneed : ∀ q ∈ need, q ∈ news) (hrest : ∀ q ∈ rest, q ∈ news ∧ q.1 ∉ need.map (·.1))
    (h : ∀ v need' h' tk', post v need' → Fr h₀ L h' m → News h₀ L h' (need' ++ rest) → (∀ q ∈ need', ∀ r ∈ rest, q.1 ≠ r.1) → Q v { s with heap := h', toks := tk' }) :
    wpAny (model PR w) A (call (.ref f) args) Q E s := by
  subst hA
  have Nn : News h₀ L s.heap need := fun q hq => N q (hneed q hq)
  obtain ⟨FG, BG, st, lv⟩ := groundX (A := AR D U (env :: outer)) (env := env) (R := fun _ _ => True) B F Nn rfl hf hke
  have X' := X.keeps st
  have T' := T.keeps st
  refine wpAny_call (S p loose mean mg mb (env :: outer) base _ s _ BG X' T' (fun b o e => of_hideAll _ e) (Nat.le_of_eq (hideAll_size _ _))
    (fun q hq => ⟨(Nn q hq).1, hideAll_none _ (List.mem_map_of_mem hq)⟩) fun v need' h' tk' hp hs hn => ?_)
  obtain ⟨oL, es, ep, hL, hLd, hLk, hLf⟩ := FG.ns
  have hr : ∀ r ∈ rest, (hideAll s.heap (need.map (·.1))).get? r.1 = some r.2 := fun r hr => hideAll_get _ (N r (hrest r hr).1).1 (hrest r hr).2
  refine h v need' h' tk' hp ⟨⟨oL, es, ep, hs _ _ hL, hLd, hLk, hLf⟩, fun b o e => hs _ _ (st _ _ e), F.above⟩ (fun q hq => ?_) fun q hq r hrm e => ?_
  · rcases List.mem_append.mp hq with hq | hq
    · refine ⟨(hn q hq).1, fun e => ?_, ?_⟩
      · have := (hn q hq).2
        rw [e, hL] at this
        cases this
      · cases hh : h₀.get? q.1 with
        | none => rfl
        | some o =>
          have := (hn q hq).2
          rw [st _ _ hh] at this
          cases this
    · exact ⟨hs _ _ (hr q hq), (N q (hrest q hq).1).2⟩
  · have := (hn q hq).2
    rw [e, hr r hrm] at this
    cases this
theorem is_some {o : Option Value} {v : Value} (h : o = some v) : o.isSome = true := by rw [h]; rfl
theorem is_none {o : Option Value} (h : o = none) : o.isSome = false := by rw [h]; rfl
theorem without_len {kvs : List (Int × Value)} {k : Int} : (without kvs k).length ≤ kvs.length := List.length_filter_le ..

abbrev ent (w : World) (n : String) (t : Tok) (v : Value) : DictEntry := ⟨PyData.keyHash w.params (Str.ofString n), .str (Str.ofString n) t, v⟩
abbrev cacheD (w : World) (t1 t2 t3 t4 t5 : Tok) (a : Nat) (n k : Int) : Obj := dictOf [ent w "_Cache__data" t1 (.ref a), ent w "_Cache__currsize" t2 (.int n t3), ent w "_Cache__maxsize" t4 (.int k t5)] 3
def Keeps (_ : OpenLaw) (_ : Params → Frag) : Prop := True

section
variable {prog : Program} {w : World} {A : Around} {E : Value → Shared → Prop} {s : Shared} {K : Frag} {x C L f I d : Addr} {h₀ : Heap} {m : Str → Option Value} {ox oI : Obj} {od : Option Obj} {news : List (Addr × Obj)} {i n ep : Nat}
theorem my_iter {Q : Value → Shared → Prop} (F : Fr h₀ L s.heap m) (X₀ : K.In h₀) (I : InstAt s.heap x ox C od) (hs : findIn K (.ref C) "__iter__" = some (some (.ref f))) (hf : isFn K (.ref f) = true)
    (h : wpAny (model prog w) A.in1 (call (.ref f) [.ref x]) (OwitIt (model prog w) A.in1 Q E) E s) : wpAny (model prog w) A (call (.builtin "iter") [.ref x]) Q E s := by
  refine Calls.call_function_entry (by decide +kernel) (by decide +kernel) kdk_entry_iter (kdk_args_iter _) ?_
  unfold Builtin.«iter»
  refine wpAny_bind (m := someArgs "iter" 1 2 _) (wpAny_of_eq (a := [Value.ref x]) (by first | rfl | kernel_rfl!) ?_)
  show wpAny _ _ (pyIter (.ref x) >>= _) _ _ _
  refine wpAny_bind (owit_iter F X₀ I hs hf ?_)
  refine wpAny_mono h (fun v s' hv => ?_) fun _ _ e => e
  unfold OwitIt at hv ⊢
  refine wpAny_mono hv (fun r s'' hr => ?_) fun _ _ e => e
  cases r with
  | none => exact hr
  | some g => exact wpAny_pure ⟨_, rfl, hr⟩
theorem my_owit {Q : Value → Shared → Prop} (N : News h₀ L s.heap news) (hp : (I, oI) ∈ news) (hi : KdkIter oI d i n ep) (h : Q (.ref I) s) : OwitIt (model prog w) A Q E (.ref I) s := by
  unfold OwitIt
  have hit := hi.at (N _ hp).1
  exact wpAny_specialOf (name := Str.ofString "__next__") hit.typeIs PySem.F.slot_dict_keyiterator_next.lookup h
end

section
variable {M : Model} {A : Around} {E : Value → Shared → Prop} {s : Shared} {K : Frag} {x C L f : Addr} {h₀ : Heap} {m : Str → Option Value} {ox : Obj} {od : Option Obj} {i : Value}
theorem my_delItem {Q : Unit → Shared → Prop} (F : Fr h₀ L s.heap m) (X₀ : K.In h₀) (I : InstAt s.heap x ox C od) (hq : noSeq K C = true) (hs : findIn K (.ref C) "__delitem__" = some (some (.ref f))) (hf : isFn K (.ref f) = true)
    (h : wpAny M A (call (.ref f) [.ref x, i]) (fun _ s' => Q () s') E s) : wpAny M A (delItem (.ref x) i) Q E s := by
  have X := X₀.keeps F.keep
  unfold delItem sequenceKey
  refine wpAny_holding (wpAny_bind (wpAny_bind (I.type.here ?_)))
  refine wpAny_bind ((anyM_none X hq).here ?_)
  rw [if_pos (show (!false) = true from rfl)]
  exact wpAny_pure (wpAny_bind (special_fn X I hs (beq_iff_eq.mp hf) (wpAny_mono h (fun _ _ z => wpAny_pure z) fun _ _ z => z)))
end
section
variable {prog : Program} {w : World} {A : Around} {E : Value → Shared → Prop} {s : Shared} {K : Frag} {x C L : Addr} {h₀ : Heap} {m : Str → Option Value} {ox : Obj} {es : List DictEntry} {n : Nat} {name : Str}
theorem my_find_nd {a g : Value} (hh : hasDictIn K C = true) (ha : findIn K (.ref C) name = some (some a)) (hn : specialIn K a "__get__" = some (some g)) (ht : takesIn K a = some false) (hc : copiedNames.contains name = false) {od : Obj} (hl : lookIn name od = some none) :
    findObj K C (some od) name = some (.bind g a) := by
  obtain ⟨cd, hc', hd⟩ := any_some hh
  unfold findObj
  have ho : PySem.W.ownOf cd (some od) name = some none := by unfold PySem.W.ownOf; rw [if_pos hd]; exact hl
  rw [hc', Option.bind_some, ha, Option.bind_some]
  simp only [hn, Option.bind_some, ht, ho, hc, Bool.false_and, Bool.false_eq_true, if_false]
theorem my_get_sm {expr : Bool} {Q : Value → Shared → Prop} {p : Addr} {f : Value} {rest : List Value} (F : Fr h₀ L s.heap m) (X₀ : K.In h₀) (I : InstAt s.heap x ox C (some (dictOf es n))) (hg : plainGet K C name = true) (hh : hasDictIn K C = true)
    (ha : findIn K (.ref C) name = some (some (.ref p))) (hn : specialIn K (.ref p) "__get__" = some (some (.builtin "staticmethod.__get__"))) (ht : takesIn K (.ref p) = some false) (hp : recIn K p "staticmethod" = some (f :: rest)) (hv : handedIn f = true)
    (hc : copiedNames.contains name = false) (hl : getL name es = some none) (h : Q f { s with toks := s.toks + 1 }) : wpAny (model prog w) A (getAttr (.ref x) name expr) Q E s :=
  get_bind (X₀.keeps F.keep) I (plainGet_of hg).1 (my_find_nd hh ha hn ht hc hl) (plainGet_of hg).2 (wpAny_call (sm_get (s := { s with toks := s.toks + 1 }) (X₀.keeps F.keep) hp (handed_on hv h)))
end

theorem left_intro {g h' : Heap} {post : Value → List (Addr × Obj) → Prop} {s : Shared} {v : Value} {L' : Addr} {m' : Str → Option Value} {news : List (Addr × Obj)} {tk' : Nat} (F : Fr g L' h' m') (N : News g L' h' news) (need' : List (Addr × Obj)) (hsub : SubL need' news) (hp : post v need') :
    Left g post s v { s with heap := h', toks := tk' } := ⟨L', m', need', h', tk', rfl, F, fun p hp => N p (hsub.mem p hp), hp⟩
abbrev fifoD (w : World) (t1 t2 t3 t4 t5 t6 : Tok) (a b : Nat) (n k : Int) : Obj := dictOf [ent w "_Cache__data" t1 (.ref a), ent w "_Cache__currsize" t2 (.int n t3), ent w "_Cache__maxsize" t4 (.int k t5), ent w "_FIFOCache__order" t6 (.ref b)] 4
abbrev lruD (w : World) (t1 t2 t3 t4 t5 t6 : Tok) (a b : Nat) (n k : Int) : Obj := dictOf [ent w "_Cache__data" t1 (.ref a), ent w "_Cache__currsize" t2 (.int n t3), ent w "_Cache__maxsize" t4 (.int k t5), ent w "_LRUCache__order" t6 (.ref b)] 4
abbrev rrD (w : World) (t1 t2 t3 t4 t5 t6 t7 t8 : Tok) (a f b l : Nat) (n k : Int) : Obj := dictOf [ent w "_Cache__data" t1 (.ref a), ent w "_Cache__currsize" t2 (.int n t3), ent w "_Cache__maxsize" t4 (.int k t5), ent w "_RRCache__choice" t6 (.ref f), ent w "_RRCache__index" t7 (.ref b), ent w "_RRCache__keys" t8 (.ref l)] 6

section
variable {prog : Program} {w : World} {K : Type} [DecidableEq K] {knd : KeyKind prog w K} {A : Around} {E : Value → Shared → Prop} {s : Shared} {h₀ : Heap} {L d : Addr} {news : List (Addr × Obj)} {o : Obj} {kvs : List (K × Value)} {k : K} {key : Value}
theorem my_pop_missing {Q : Value → Shared → Prop} (hh : A.handled = none) (N : News h₀ L s.heap news) (hp : (d, o) ∈ news) (hd : o.IsDictOf knd kvs) (lo : (d == sysModules) = false) (hkey : knd.is k key = true)
    (hpart : (keyPart key).isSome = true) (hl : valueAt kvs k = none)
    (h : ∀ h' e, Heap.NewExc s.heap h' e "KeyError" → E (.ref e) { s with heap := h', toks := s.toks + 1 }) :
    wpAny (model prog w) A (call (.builtin "dict.pop") [.ref d, key]) Q E s :=
  have hD := kda_dict N hp hd
  call_meetsIn PySem.F.slot_dict_pop hD.typeIs PySem.F.entry_dict_pop (PySem.F.args_dict_pop_2 _ _) (meets_dict_pop_missing knd d hkey lo hpart) ⟨hh, kvs, hD, hl, fun h' e hx => h h' e hx⟩
end

theorem ne_int_self {prog : Program} {w : World} {A : Around} {E : Value → Shared → Prop} {s : Shared} {a : Int} {t u : Tok} {Q : Value → Shared → Prop} (h : Q (.bool false) s) : wpAny (model prog w) A (compareOp .NotEq (.int a t) (.int a u)) Q E s :=
  PyProof.Rows.ne_int (by rw [show (a != a) = false from by simp]; exact h)

/-- a def that the call has made: its object is of what is needed. -/
theorem spec_enter_made {w : World} {D U : Nat} {f : Addr} {args : List Value} {need : List (Addr × Obj)} {post : Value → List (Addr × Obj) → Prop}
    {name qual : Str} {params : Arguments} {body : List Stmt} {scope : Scope} {cl : List (Str × Addr)} {doc pm ctv : Value} {c' : Addr} {oc : Obj} {vs : Array Value} {t : Tok} {binds : List (Str × Value)}
    (ho : (f, fnMade name qual params body scope cl doc pm c' ctv) ∈ need) (hoc : (c', oc) ∈ need) (hd1 : oc.data = .fields vs) (hd2 : vs[1]? = some (.str qual t)) (hroom : D < recursionLimit)
    (hbind : ∀ s : Shared, BindsTo s (fnX name qual params body scope cl .none .none doc pm none (.ref c') ctv) ⟨args, []⟩ binds) (hloc : ∀ y ∈ binds, scope.names.lookup y.1 = some .local)
    (h : ∀ p loose mean mg mb envs base g L' h₁ (s : Shared), Fr g L' h₁ (fun y => binds.reverse.lookup y) → News g L' h₁ need → Below (AR D U envs) base envs g → (hd.heap_39 w.params).In g → Top p loose mean mg mb g → (∀ q ∈ need, q.1 < L') →
      wpAny (model PR w) ((AR D U envs).deeper (envX qual scope L' f (.ref c') cl)) (execs body (envX qual scope L' f (.ref c') cl))
        (fun fl s' => Left g post s (match fl with | .ret v => v | _ => .none) s')
        (fun _ _ => False)
        { s with heap := h₁, toks := s.toks + binds.length })
    (hco : scope.isCoroutine = false) (hgen : scope.isGenerator = false) (hk : scope.kind = .function)
    (hcell : ∀ x ∈ scope.names, x.2 ≠ .cell) : Spec w D U f args need post := by
  intro p loose mean mg mb envs base g s R B X T st sz N ret
  refine codeAny_call_def (fd := fnX name qual params body scope cl .none .none doc pm none (.ref c') ctv) (body := body) (binds := binds) hroom (N _ ho).1 rfl (T.nolimit.keeps st) ⟨c', oc, vs, t, rfl, (N _ hoc).1, hd1, hd2⟩ rfl (hbind s) hcell hloc (fun h₁ hns hk₁ => ?_) hco hgen hk
  refine wpAny_mono (h p loose mean mg mb envs base g s.heap.objs.size h₁ s ⟨hns, fun b o e => hk₁ b o (st b o e), sz⟩
    (fun q hq => ⟨hk₁ _ _ (N q hq).1, Nat.ne_of_lt (Heap.lt_size (N q hq).1), (N q hq).2⟩) B X T (fun q hq => Heap.lt_size (N q hq).1)) (fun fl s' hl => ?_) fun _ _ y => y.elim
  obtain ⟨L', m', need', h', tk', rfl, F', N', hp⟩ := hl
  exact ret _ need' h' tk' hp F'.keep fun q hq => ⟨(N' q hq).1, (N' q hq).2.2⟩

def findDef (n : Str) : List Stmt → Option (Arguments × List Stmt × Scope)
  | [] => none
  | .FunctionDef m a b _ _ _ sc _ _ _ :: r => if m == n then some (a, b, sc) else findDef n r
  | _ :: r => findDef n r
def lawParts : Arguments × List Stmt × Scope := (findDef (Str.ofString "law") PySem.Challenge.rw_fc0037_01.prog.main.body).getD default
def choiceParts : Arguments × List Stmt × Scope := (findDef (Str.ofString "choice") lawParts.2.1).getD default
def ChoiceOk (w : World) (f : Nat) (fo : Obj) (cc : Nat) (oc : Obj) (ce : Nat) (co : Obj) (dw l : Nat) : Prop :=
  ∀ (vs : List Value) (ks : List Int) (ep : Nat) (zv : List Value) (zs : List Int) (e3 : Nat), IntsAre vs ks → 0 < ks.length → ks.length ≤ 60 → IntsAre zv zs → zs.length = 1 →
    Spec w 307 22 f [.ref l] [(f, fo), (cc, oc), (ce, co), (dw, W.listOf zv.toArray e3), (l, W.listOf vs.toArray ep)]
      (fun r need => (∃ y ty, y ∈ ks ∧ r = .int y ty) ∧ need = [(f, fo), (cc, oc), (ce, co), (dw, W.listOf zv.toArray e3), (l, W.listOf vs.toArray ep)])

theorem ne_int_eq {prog : Program} {w : World} {A : Around} {E : Value → Shared → Prop} {s : Shared} {a b : Int} {t u : Tok} {Q : Value → Shared → Prop} (e : a = b) (h : Q (.bool false) s) : wpAny (model prog w) A (compareOp .NotEq (.int a t) (.int b u)) Q E s :=
  PyProof.Rows.ne_int (by rw [show (a != b) = false from by simp [e]]; exact h)
theorem ne_int_ne {prog : Program} {w : World} {A : Around} {E : Value → Shared → Prop} {s : Shared} {a b : Int} {t u : Tok} {Q : Value → Shared → Prop} (e : a ≠ b) (h : Q (.bool true) s) : wpAny (model prog w) A (compareOp .NotEq (.int a t) (.int b u)) Q E s :=
  PyProof.Rows.ne_int (by rw [show (a != b) = true from by simp [e]]; exact h)
section
variable {prog : Program} {w : World} {A : Around} {E : Value → Shared → Prop} {s : Shared} {h₀ : Heap} {L D : Addr} {m : Str → Option Value} {news news' : List (Addr × Obj)} {vs : List Value} {ns : List Int} {n : Nat} {x : Int} {t u : Tok}
theorem my_setAt {p : Nat} {Q : Unit → Shared → Prop} (F : Fr h₀ L s.heap m) (N : News h₀ L s.heap news) (U : Upd D (W.listOf vs.toArray n) (W.listOf (vs.set p (.int x u)).toArray n) news news') (hi : IntsAre vs ns) (h1 : p < ns.length) (hz : ns.length ≤ 100)
    (h : ∀ h', Fr h₀ L h' m → News h₀ L h' news' → IntsAre (vs.set p (.int x u)) (ns.set p x) → Q () { s with heap := h' }) :
    wpAny (model prog w) A (setItem (.ref D) (.int (p : Int) t) (.int x u)) Q E s :=
  W.ksa_set (k := (p : Int)) F N U hi (by omega) (by omega) (by omega) fun h' F' N' hi' _ _ => h h' F' N' hi'
theorem my_lastItem {value slice : PySem.Expr} {last : Int} {Q : Value → Shared → Prop} (N : News h₀ L s.heap news) (hm : (D, W.listOf vs.toArray n) ∈ news) (hi : IntsAre vs ns) (hlast : ns[ns.length - 1]? = some last) (h : ∀ t, Q (.int last t) s)
    (hs : subscripted slice false (.ref D) (.int (-1) u) = operate [.ref D, .int (-1) u] (getItem (.ref D) (.int (-1) u)) := by with_unfolding_all rfl) :
    wpAny (model prog w) A (subscriptTail value slice (.ref D) (.int (-1) u)) Q E s := by
  have hp := (List.getElem?_eq_some_iff.mp hlast).1
  refine PyProof.Rows.item_list_ints_negR (k := -1) (PySem.IsL.isList (n := n) (N _ hm).1) hi (by omega) (by omega) (by decide) (fun t => ?_) hs
  have e : ((-1 : Int) + (ns.length : Nat)).toNat = ns.length - 1 := by omega
  rw [e, List.getD_eq_getElem?_getD, hlast]
  exact h t
theorem my_popLast {Q : Value → Shared → Prop} (F : Fr h₀ L s.heap m) (N : News h₀ L s.heap news) (U : Upd D (W.listOf vs.toArray n) (W.listOf vs.dropLast.toArray (n + 1)) news news') (hi : IntsAre vs ns) (hne : 0 < ns.length) (hz : ns.length ≤ 100)
    (h : ∀ h' t, Fr h₀ L h' m → News h₀ L h' news' → IntsAre vs.dropLast ns.dropLast → Q (.int (ns.getLastD 0) t) { s with heap := h' }) : wpAny (model prog w) A (call (.builtin "list.pop") [.ref D]) Q E s :=
  W.kpa_pop F N U hi (by rw [hi.length]; exact hne) (by rw [hi.length, sizeLine_eq]; omega) h
theorem my_lenL {Q : Value → Shared → Prop} (N : News h₀ L s.heap news) (hm : (D, W.listOf vs.toArray n) ∈ news) (hi : IntsAre vs ns) (hz : ns.length ≤ 100) (h : Q (.int (ns.length : Nat) (s.toks + 1)) { s with toks := s.toks + 1 + 1 }) : wpAny (model prog w) A (call (.builtin "len") [.ref D]) Q E s :=
  KM.len_K N hm (n := ns.length) (by rw [List.size_toArray, hi.length]) (by omega) h
end
theorem len_one {kvi : List (Int × Value)} {y x : Int} {v : Value} : (stored (without kvi y) x v).length ≤ kvi.length + 2 := by
  have h1 := stored_length_le (without kvi y) x v
  have h2 : (without kvi y).length ≤ kvi.length := without_len
  omega
theorem len_two {kvi : List (Int × Value)} {y z x : Int} {u v : Value} : (stored (stored (without kvi y) z u) x v).length ≤ kvi.length + 2 := by
  have h1 := stored_length_le (without kvi y) z u
  have h3 := stored_length_le (stored (without kvi y) z u) x v
  have h2 : (without kvi y).length ≤ kvi.length := without_len
  omega
end

-- part WX
section
open PyProof.Rows.TI PyProof.Rows.TT

/-- the ground g with the frames that stand below; hb: what lies under it all. -/
structure Ctx (hb g : Heap) (outer : List Env) (frs : List (Addr × Obj)) : Prop where
  fr : PyProof.Rows.TI.Frs outer frs
  there : ∀ q ∈ frs, g.get? q.1 = some q.2
  no : ∀ q ∈ frs, hb.get? q.1 = none
  st : hb.StaysIn g

structure Und (w : World) (p : Program) (loose : List Str) (mean : ExcName → Option Value) (mg mb : Str → Option Value) (hb : Heap) : Prop where
  x : (hd.heap_39 w.params).In hb
  t : Top p loose mean mg mb hb

def cutTo (h g : Heap) : Heap := ⟨(Array.range g.objs.size).map fun i => if (g.get? i).isSome then (h.objs[i]?).getD { cls := .none, data := .freed } else { cls := .none, data := .freed }, g.life⟩
theorem cutTo_size (h g : Heap) : (cutTo h g).objs.size = g.objs.size := by simp [cutTo]
def flt : Option Obj → Option Obj
  | some ⟨_, _, .freed, _⟩ => none
  | o => o
theorem get_flt (h : Heap) (b : Addr) : h.get? b = flt (h.objs[b]?) := by
  unfold Heap.get? flt; rfl
theorem cutTo_get (h g : Heap) (b : Addr) : (cutTo h g).get? b = if (g.get? b).isSome then h.get? b else none := by
  rw [get_flt (cutTo h g)]
  by_cases hb : b < g.objs.size
  · have e : (cutTo h g).objs[b]? = some (if (g.get? b).isSome then (h.objs[b]?).getD { cls := .none, data := .freed } else { cls := .none, data := .freed }) := by
      simp [cutTo, hb]
    rw [e, get_flt h]
    by_cases hs : (g.get? b).isSome = true
    · rw [if_pos hs, if_pos hs]
      cases h.objs[b]? with
      | none => rfl
      | some o => rfl
    · rw [if_neg hs, if_neg hs]; rfl
  · have hg : g.get? b = none := by
      cases hq : g.get? b with
      | none => rfl
      | some o => exact absurd (Heap.lt_size hq) hb
    have e : (cutTo h g).objs[b]? = none := by simp [cutTo, hb]
    rw [hg, e]; rfl

section
variable {hb g h' base : Heap} {outer : List Env} {frs frs' : List (Addr × Obj)} {A : Around}
theorem rebase (C : Ctx hb g outer frs) (B : Below A base outer g) (SU : PyProof.Rows.TI.SameUp frs frs') (hf : ∀ q ∈ frs', h'.get? q.1 = some q.2)
    (hk : ∀ b o, g.get? b = some o → b ∉ frs.map (·.1) → h'.get? b = some o) :
    ∃ g', g'.objs.size = g.objs.size ∧ Below A base outer g' ∧ Ctx hb g' outer frs' ∧ g'.StaysIn h' ∧ (∀ b, g.get? b = none → g'.get? b = none) ∧ (∀ b o, g.get? b = some o → b ∉ frs.map (·.1) → g'.get? b = some o) := by
  have hoff : ∀ b o, g.get? b = some o → b ∉ frs.map (·.1) → (cutTo h' g).get? b = some o := fun b o e n => by
    rw [cutTo_get, e]; exact hk b o e n
  have hfr : ∀ q ∈ frs', (cutTo h' g).get? q.1 = some q.2 := fun q hq => by
    obtain ⟨p, hp, e⟩ := SU.fwd q hq
    rw [cutTo_get, e, C.there p hp, ← e]; exact hf q hq
  have hbase : ∀ q ∈ frs, base.get? q.1 = none := fun q hq => (B.frames.mem (by rw [C.fr.addrs]; exact List.mem_map_of_mem hq)).1
  have hbase' : ∀ q ∈ frs', base.get? q.1 = none := fun q hq => by
    obtain ⟨p, hp, e⟩ := SU.fwd q hq
    rw [e]; exact hbase p hp
  refine ⟨cutTo h' g, cutTo_size _ _, ⟨B.stack, fun b o e => ?_, (C.fr.up SU).fun fun q hq => ⟨hfr q hq, hbase' q hq⟩⟩, ⟨C.fr.up SU, hfr, fun q hq => ?_, fun b o e => ?_⟩, fun b o e => ?_, fun b e => by rw [cutTo_get, e]; rfl, hoff⟩
  · refine hoff b o (B.stays b o e) fun hm => ?_
    obtain ⟨p, hp, q⟩ := List.mem_map.mp hm
    have := hbase p hp
    rw [q, e] at this; cases this
  · obtain ⟨p, hp, e⟩ := SU.fwd q hq
    rw [e]; exact C.no p hp
  · refine hoff b o (C.st b o e) fun hm => ?_
    obtain ⟨p, hp, q⟩ := List.mem_map.mp hm
    have := C.no p hp
    rw [q, e] at this; cases this
  · rw [cutTo_get] at e
    split at e
    · exact e
    · cases e
end

def SpecX (w : World) (D U : Nat) (f : Addr) (args : List Value) (need : List (Addr × Obj)) (post : Value → List (Addr × Obj) → Prop) : Prop :=
  ∀ (p : Program) (loose : List Str) (mean : ExcName → Option Value) (mg mb : Str → Option Value) (envs : List Env) (frs : List (Addr × Obj)) (base hb g : Heap) (s : Shared) (R : Result → Shared → Prop),
    Below (AR D U envs) base envs g → (hd.heap_39 w.params).In hb → Top p loose mean mg mb hb → Ctx hb g envs frs → g.StaysIn s.heap → g.objs.size ≤ s.heap.objs.size →
    (∀ q ∈ need, s.heap.get? q.1 = some q.2 ∧ g.get? q.1 = none) →
    (∀ v need' g' frs' h' tk', post v need' → Ctx hb g' envs frs' → PyProof.Rows.TI.SameUp frs frs' → g'.StaysIn h' → (∀ b, g.get? b = none → g'.get? b = none) → (∀ b o, g.get? b = some o → b ∉ frs.map (·.1) → g'.get? b = some o) →
      (∀ q ∈ need', h'.get? q.1 = some q.2 ∧ g.get? q.1 = none) → R (.ok (.ret v)) { s with heap := h', toks := tk' }) →
    codeAny (model PR w) (AR D U envs) (.call (.ref f) ⟨args, []⟩) R s

def LeftX (hb g : Heap) (envs : List Env) (frs : List (Addr × Obj)) (post : Value → List (Addr × Obj) → Prop) (s : Shared) (v : Value) (s' : Shared) : Prop :=
  ∃ L' m' need' g' frs' h' tk', s' = { s with heap := h', toks := tk' } ∧ Ctx hb g' envs frs' ∧ PyProof.Rows.TI.SameUp frs frs' ∧ (∀ b, g.get? b = none → g'.get? b = none) ∧ (∀ b o, g.get? b = some o → b ∉ frs.map (·.1) → g'.get? b = some o) ∧
    Fr g' L' h' m' ∧ (∀ q ∈ need', h'.get? q.1 = some q.2 ∧ g.get? q.1 = none) ∧ post v need'

theorem specx_enter {w : World} {D U : Nat} {f : Addr} {args : List Value} {need : List (Addr × Obj)} {post : Value → List (Addr × Obj) → Prop}
    {name qual : Str} {params : Arguments} {body : List Stmt} {scope : Scope} {dV kV doc pm cdv ct oc : Value} {an od : Option Addr} {osl : Array (Option Value)} {binds : List (Str × Value)}
    (ho : (hd.heap_39 w.params).lookup f = some ⟨oc, od, .func (fnOf name qual params body scope dV kV doc pm an cdv ct), osl⟩) (hcd : codeIn (hd.heap_39 w.params) cdv qual = true) (hroom : D < recursionLimit)
    (hbind : ∀ s : Shared, (hd.heap_39 w.params).In s.heap → BindsTo s (fnOf name qual params body scope dV kV doc pm an cdv ct) ⟨args, []⟩ binds) (hloc : ∀ y ∈ binds, scope.names.lookup y.1 = some .local)
    (h : ∀ p loose mean mg mb envs frs base hb g L' h₁ (s : Shared), Fr g L' h₁ (fun y => binds.reverse.lookup y) → News g L' h₁ need → Below (AR D U envs) base envs g → (hd.heap_39 w.params).In g → Top p loose mean mg mb g →
      Und w p loose mean mg mb hb → Ctx hb g envs frs → (∀ q ∈ need, q.1 < L') →
      wpAny (model PR w) ((AR D U envs).deeper (envOf qual scope L' f cdv)) (execs body (envOf qual scope L' f cdv))
        (fun fl s' => LeftX hb g envs frs post s (match fl with | .ret v => v | _ => .none) s')
        (fun _ _ => False)
        { s with heap := h₁, toks := s.toks + binds.length })
    (hco : scope.isCoroutine = false) (hgen : scope.isGenerator = false) (hk : scope.kind = .function)
    (hcell : ∀ x ∈ scope.names, x.2 ≠ .cell) : SpecX w D U f args need post := by
  intro p loose mean mg mb envs frs base hb g s R B X T C st sz N ret
  have Xg := X.keeps C.st
  have Tg := T.keeps C.st
  refine codeAny_call_def (fd := fnOf name qual params body scope dV kV doc pm an cdv ct) (body := body) (binds := binds) hroom (st _ _ (Xg _ _ ho)) rfl (Tg.nolimit.keeps st) (codeRec_of (Xg.keeps st) hcd) rfl (hbind s (Xg.keeps st)) hcell hloc (fun h₁ hns hk₁ => ?_) hco hgen hk
  refine wpAny_mono (h p loose mean mg mb envs frs base hb g s.heap.objs.size h₁ s ⟨hns, fun b o e => hk₁ b o (st b o e), sz⟩
    (fun q hq => ⟨hk₁ _ _ (N q hq).1, Nat.ne_of_lt (Heap.lt_size (N q hq).1), (N q hq).2⟩) B Xg Tg ⟨X, T⟩ C (fun q hq => Heap.lt_size (N q hq).1)) (fun fl s' hl => ?_) fun _ _ y => y.elim
  obtain ⟨L', m', need', g', frs', h', tk', rfl, C', SU, hno, hoff, F', N', hp⟩ := hl
  exact ret _ need' g' frs' h' tk' hp C' SU F'.keep hno hoff N'

theorem leftx_intro {hb g g' h' : Heap} {envs : List Env} {frs frs' : List (Addr × Obj)} {post : Value → List (Addr × Obj) → Prop} {s : Shared} {v : Value} {L' : Addr} {m' : Str → Option Value} {news : List (Addr × Obj)} {tk' : Nat}
    (C' : Ctx hb g' envs frs') (SU : PyProof.Rows.TI.SameUp frs frs') (hno : ∀ b, g.get? b = none → g'.get? b = none) (hno' : ∀ b, g'.get? b = none → g.get? b = none) (hoff : ∀ b o, g.get? b = some o → b ∉ frs.map (·.1) → g'.get? b = some o)
    (F : Fr g' L' h' m') (N : News g' L' h' news) (need' : List (Addr × Obj)) (hsub : SubL need' news) (hp : post v need') :
    LeftX hb g envs frs post s v { s with heap := h', toks := tk' } := ⟨L', m', need', g', frs', h', tk', rfl, C', SU, hno, hoff, F, fun p hp => ⟨(N p (hsub.mem p hp)).1, hno' _ (N p (hsub.mem p hp)).2.2⟩, hp⟩

theorem specx_use {w : World} {D U : Nat} {f : Addr} {args : List Value} {need rest news frs : List (Addr × Obj)} {post : Value → List (Addr × Obj) → Prop} (S : SpecX w D U f args need post)
    {A A₀ : Around} {E Q : Value → Shared → Prop} {s : Shared} {hb g base : Heap} {L : Addr} {m mg mb : Str → Option Value} {p : Program} {loose : List Str} {mean : ExcName → Option Value} {env : Env} {outer : List Env}
    (B : Below A₀ base outer g) (F : Fr g L s.heap m) (N : News g L s.heap news) (X : (hd.heap_39 w.params).In hb) (T : Top p loose mean mg mb hb) (C : Ctx hb g outer frs)
    (hA : A = AR D U (env :: outer)) (hf : env.frame = some L) (hke : env.scope.kind = .function) (hneed : ∀ q ∈ need, q ∈ news) (hrest : ∀ q ∈ rest, q ∈ news ∧ q.1 ∉ need.map (·.1))
    (h : ∀ v need' g' frs' h' tk', post v need' → Below A₀ base outer g' → Fr g' L h' m → News g' L h' (need' ++ rest) → (hd.heap_39 w.params).In g' → Top p loose mean mg mb g' → Ctx hb g' outer frs' → PyProof.Rows.TI.SameUp frs frs' →
      (∀ b, g.get? b = none → g'.get? b = none) → (∀ b, g'.get? b = none → g.get? b = none) → (∀ b o, g.get? b = some o → b ∉ frs.map (·.1) → g'.get? b = some o) → (∀ q ∈ need', ∀ r ∈ rest, q.1 ≠ r.1) → Q v { s with heap := h', toks := tk' }) :
    wpAny (model PR w) A (call (.ref f) args) Q E s := by
  subst hA
  have Nn : News g L s.heap need := fun q hq => N q (hneed q hq)
  obtain ⟨FG, BG, st, lv⟩ := groundX (A := AR D U (env :: outer)) (env := env) (R := fun _ _ => True) B F Nn rfl hf hke
  obtain ⟨oL, es, ep, hL, hLd, hLk, hLf⟩ := FG.ns
  have hLs : s.heap.get? L = some oL := of_hideAll _ hL
  have hlt : ∀ b o, g.get? b = some o → b ≠ L := fun b o e q => absurd (Nat.lt_of_lt_of_le (Heap.lt_size e) F.above) (by rw [q]; exact Nat.lt_irrefl _)
  -- the ground of the call: all but what it needs; under it: that less the frames
  let G := hideAll s.heap (need.map (·.1))
  let HB := hideAll G (L :: frs.map (·.1))
  have hbG : ∀ b o, hb.get? b = some o → HB.get? b = some o := fun b o e => by
    refine hideAll_get _ (st b o (C.st b o e)) fun hm => ?_
    rcases List.mem_cons.mp hm with q | hm
    · exact hlt b o (C.st b o e) q
    · obtain ⟨r, hr, q⟩ := List.mem_map.mp hm
      have := C.no r hr
      rw [q, e] at this; cases this
  have CX : Ctx HB G (env :: outer) ((L, oL) :: frs) := by
    refine ⟨⟨by rw [hke]; decide, hf, ⟨es, ep, hLd⟩, C.fr⟩, fun q hq => ?_, fun q hq => ?_, fun b o e => of_hideAll _ e⟩
    · rcases List.mem_cons.mp hq with rfl | hq
      · exact hL
      · exact st _ _ (C.there q hq)
    · refine hideAll_none _ ?_
      rcases List.mem_cons.mp hq with rfl | hq
      · exact .head _
      · exact .tail _ (List.mem_map_of_mem hq)
  have XB := X.keeps hbG
  have TB := T.keeps hbG
  refine wpAny_call (S p loose mean mg mb (env :: outer) ((L, oL) :: frs) base HB G s _ BG XB TB CX (fun b o e => of_hideAll _ e) (Nat.le_of_eq (hideAll_size _ _))
    (fun q hq => ⟨(Nn q hq).1, hideAll_none _ (List.mem_map_of_mem hq)⟩) fun v need' g'' frs'' h' tk' hp C'' SU hs hno hoff hn => ?_)
  -- the frames as they stand now
  cases frs'' with
  | nil => exact False.elim SU
  | cons qL frs' =>
    obtain ⟨eL, ⟨sl, oL'⟩, SU'⟩ := SU
    have hf' : ∀ q ∈ qL :: frs', h'.get? q.1 = some q.2 := fun q hq => hs _ _ (C''.there q hq)
    have hL' : h'.get? L = some { oL with slots := sl } := by
      have := hf' qL (.head _)
      rw [eL, oL'] at this
      exact this
    have hmem : ∀ b, b ∈ ((L, oL) :: frs).map (·.1) → b = L ∨ b ∈ frs.map (·.1) := fun b hm => List.mem_cons.mp hm
    have keepG : ∀ b o, g.get? b = some o → b ∉ frs.map (·.1) → h'.get? b = some o := fun b o e n => hs _ _ (hoff b o (st b o e) fun hm => by
      rcases hmem b hm with q | q
      · exact hlt b o e q
      · exact n q)
    obtain ⟨g', gsz, B', C', hs', gno, goff⟩ := rebase C B SU' (fun q hq => hf' q (.tail _ hq)) keepG
    have gno' : ∀ b, g'.get? b = none → g.get? b = none := fun b e => by
      cases hq : g.get? b with
      | none => rfl
      | some o =>
        by_cases hm : b ∈ frs.map (·.1)
        · obtain ⟨r, hr, q⟩ := List.mem_map.mp hm
          obtain ⟨sl', hb'⟩ := SU'.back r hr
          have := C'.there _ hb'
          rw [show (r.1, ({ r.2 with slots := sl' } : Obj)).1 = b from q, e] at this
          cases this
        · rw [goff b o hq hm] at e; cases e
    have hr : ∀ r ∈ rest, G.get? r.1 = some r.2 := fun r hr => hideAll_get _ (N r (hrest r hr).1).1 (hrest r hr).2
    have hroff : ∀ r ∈ rest, r.1 ∉ ((L, oL) :: frs).map (·.1) := fun r hr hm => by
      rcases hmem _ hm with q | q
      · exact (N r (hrest r hr).1).2.1 q
      · obtain ⟨x, hx, q⟩ := List.mem_map.mp q
        have h1 := C.there x hx
        rw [q, (N r (hrest r hr).1).2.2] at h1; cases h1
    refine h v need' g' frs' h' tk' hp B' ⟨⟨_, es, ep, hL', hLd, hLk, hLf⟩, hs', by rw [gsz]; exact F.above⟩ (fun q hq => ?_) (X.keeps C'.st) (T.keeps C'.st) C' SU' gno gno' goff fun q hq r hrm e => ?_
    · rcases List.mem_append.mp hq with hq | hq
      · refine ⟨(hn q hq).1, fun e => ?_, gno _ ?_⟩
        · have := (hn q hq).2
          rw [e] at this
          have h2 : G.get? L = some oL := hL
          rw [h2] at this
          cases this
        · cases hh : g.get? q.1 with
          | none => rfl
          | some o =>
            have h1 := (hn q hq).2
            have h2 : G.get? q.1 = some o := st _ _ hh
            rw [h2] at h1
            cases h1
      · exact ⟨hs _ _ (hoff _ _ (hr q hq) (hroff q hq)), (N q (hrest q hq).1).2.1, gno _ (N q (hrest q hq).1).2.2⟩
    · have h1 := (hn q hq).2
      rw [e, hr r hrm] at h1
      cases h1

section
variable {prog : Program} {w : World} {A₀ : Around} {E : Value → Shared → Prop} {s' : Shared} {hb g h base : Heap} {L a e : Addr} {m : Str → Option Value} {name : Str} {scope : Scope} {cd : Value} {X : String} {l : List Env} {frs new : List (Addr × Obj)}
theorem my_noted {Q : Unit → Shared → Prop} (hfr : A₀.frames = some l) (C : Ctx hb g l frs) (hx : Heap.NewExc h s'.heap e X) (F : Fr g L h m) (N : News g L h new)
    (k : ∀ h' frs', PyProof.Rows.TI.SameUp frs frs' → PyProof.Rows.TT.HeldN (gone g (frs.map (·.1))) L h' m e X (new ++ frs') → Q () { s' with heap := h' }) (hk : scope.kind = .function := by rfl) :
    wpAny (model prog w) (A₀.deeper (envOf name scope L a cd)) (noteFrame (.ref e) (envOf name scope L a cd)) Q E s' := by
  have gsz : (gone g (frs.map (·.1))).objs.size = g.objs.size := by
    generalize frs.map (·.1) = l
    induction l with
    | nil => rfl
    | cons a l ih => exact (Heap.SameBut.update (gone g l) a _).1.trans ih
  have F' : Fr (gone g (frs.map (·.1))) L h m := ⟨F.ns, fun b o e => F.keep b o (gone_some e).2, by rw [gsz]; exact F.above⟩
  have N' : News (gone g (frs.map (·.1))) L h (new ++ frs) := fun q hq => by
    rcases List.mem_append.mp hq with hq | hq
    · refine ⟨(N q hq).1, (N q hq).2.1, ?_⟩
      cases hh : (gone g (frs.map (·.1))).get? q.1 with
      | none => rfl
      | some o =>
        have h1 := (N q hq).2.2
        rw [(gone_some hh).2] at h1; cases h1
    · exact ⟨F.keep _ _ (C.there q hq), Nat.ne_of_lt (Nat.lt_of_lt_of_le (Heap.lt_size (C.there q hq)) F.above), gone_none (List.mem_map_of_mem hq)⟩
  refine PyProof.Rows.TLg.noted_newA (new := new) hfr C.fr hx F' N' (fun p hp hm => ?_) (fun h' frs' SU _ H => k h' frs' SU H) hk
  rcases List.mem_cons.mp hm with q | hm
  · exact (N p hp).2.1 q
  · obtain ⟨r, hr, q⟩ := List.mem_map.mp hm
    have h1 := C.there r hr
    rw [q, (N p hp).2.2] at h1; cases h1

theorem my_clause {K : Frag} {mg mb : Str → Option Value} {p : Program} {loose : List Str} {mean : ExcName → Option Value} {Q : Flow → Shared → Prop} {frs' : List (Addr × Obj)} {fl : Value} {x : Str} {np pos : Pos} {b₀ : Stmt} {suite : List Stmt} {rest : List ExceptHandler}
    (H : PyProof.Rows.TT.HeldNA (gone g (frs.map (·.1))) L s'.heap m e X (new ++ frs') fl) (C : Ctx hb g l frs) (SU : PyProof.Rows.TI.SameUp frs frs') (B : Below A₀ base l g) (Xb : K.In hb) (Tb : Top p loose mean mg mb hb) (hab : g.objs.size ≤ L) (Nn : ∀ q ∈ new, g.get? q.1 = none)
    (hkn : nsIn K mainGlobals x = some none) (hv : bootBuiltins x = some (.type x.toString))
    (k : ∀ g' h', Below A₀ base l g' → Ctx hb g' l frs' → Fr g' L h' m → News g' L h' new → K.In g' → Top p loose mean mg mb g' → (∀ b, g.get? b = none → g'.get? b = none) → (∀ b, g'.get? b = none → g.get? b = none) → (∀ b o, g.get? b = some o → b ∉ frs.map (·.1) → g'.get? b = some o) →
      wpAny (model prog w) ((A₀.deeper (envOf name scope L a cd)).mark (some (.ref e))) (execs (b₀ :: suite) (envOf name scope L a cd)) Q E { s' with heap := h' })
    (h3 : subB X (.type x.toString) = some true := by decide +kernel) (h1 : subB x.toString (.type "BaseException") = some true := by decide +kernel)
    (h2 : subB ((Manifest.find? x.toString).elim "type" fun y => y.metatype) (.type "tuple") = some false := by decide +kernel) (hn : x ≠ "__name__" := by decide)
    (hk : scope.kind = .function := by rfl) (hxk : (envOf name scope L a cd).kindOf x = some .globalImplicit := by rfl) (hdb : (x == ("__debug__" : Str)) = false := by decide)
    (hE : PassesOwnAt (model prog w) ((A₀.deeper (envOf name scope L a cd)).mark (some (.ref e))) (A₀.deeper (envOf name scope L a cd)) (envOf name scope L a cd) E := by passes_own) :
    wpAny (model prog w) (A₀.deeper (envOf name scope L a cd)) (handleBy (.ref e) (envOf name scope L a cd) (.ExceptHandler (some (.Name x np)) none (b₀ :: suite) pos :: rest)) Q E s' := by
  have hbg : ∀ b o, hb.get? b = some o → (gone g (frs.map (·.1))).get? b = some o := fun b o e => by
    refine (gone_get fun hm => ?_).trans (C.st b o e)
    obtain ⟨r, hr, q⟩ := List.mem_map.mp hm
    have := C.no r hr
    rw [q, e] at this; cases this
  refine wpAny_handleBy_builtin (X := X) (T := x.toString) (b := true) (isSubtype_of_subB h1) (isSubtype_of_subB h2) (isSubtype_of_subB h3)
    (wpAny_passesOwnAt hE (name_B H.held.fr (Xb.keeps hbg) (topRead_of (Tb.keeps hbg)) hkn hv hn ⟨rfl, H.isA, ?_⟩ hk hxk hdb))
  rw [if_pos rfl]
  refine H.lands fun h' F' N' => wpAny_passesOwnAt hE ?_
  obtain ⟨g', gsz, B', C', hs', gno, goff⟩ := rebase C B SU (fun q hq => (N' q (List.mem_append_right _ hq)).1) (fun b o e n => F'.keep b o ((gone_get n).trans e))
  have gno' : ∀ b, g'.get? b = none → g.get? b = none := fun b e => by
    cases hq : g.get? b with
    | none => rfl
    | some o =>
      by_cases hm : b ∈ frs.map (·.1)
      · obtain ⟨r, hr, q⟩ := List.mem_map.mp hm
        obtain ⟨sl', hb'⟩ := SU.back r hr
        have := C'.there _ hb'
        rw [show (r.1, ({ r.2 with slots := sl' } : Obj)).1 = b from q, e] at this
        cases this
      · rw [goff b o hq hm] at e; cases e
  exact k g' h' B' C' ⟨F'.ns, hs', by rw [gsz]; exact hab⟩ (fun q hq => ⟨(N' q (List.mem_append_left _ hq)).1, (N' q (List.mem_append_left _ hq)).2.1, gno _ (Nn q hq)⟩) (Xb.keeps C'.st) (Tb.keeps C'.st) gno gno' goff
end

theorem news_none {g h : Heap} {L : Addr} {new : List (Addr × Obj)} (N : News g L h new) : ∀ q ∈ new, g.get? q.1 = none := fun q hq => (N q hq).2.2
def Hold (P : Prop) : Prop := P
theorem hold_in {P : Prop} (h : Hold P) : P := h

def NeAll (a : Nat) : List (Addr × Obj) → Prop
  | [] => True
  | q :: r => (@Ne Nat a q.1) ∧ NeAll a r
def RestL (need news : List (Addr × Obj)) : List (Addr × Obj) → Prop
  | [] => True
  | p :: r => p ∈ news ∧ NeAll p.1 need ∧ RestL need news r
theorem NeAll.off {a : Nat} : ∀ {l : List (Addr × Obj)}, NeAll a l → a ∉ l.map (·.1)
  | [], _, h => nomatch h
  | q :: r, x, h => by
    rcases List.mem_cons.mp h with e | h
    · exact x.1 e
    · exact NeAll.off x.2 h
theorem RestL.all {need news : List (Addr × Obj)} : ∀ {rest : List (Addr × Obj)}, RestL need news rest → ∀ q ∈ rest, q ∈ news ∧ q.1 ∉ need.map (·.1)
  | [], _, _, h => nomatch h
  | p :: r, x, q, h => by
    rcases List.mem_cons.mp h with rfl | h
    · exact ⟨x.1, x.2.1.off⟩
    · exact RestL.all x.2.2 q h
def Apart (l r : List (Addr × Obj)) : Prop := ∀ q ∈ l, ∀ p ∈ r, q.1 ≠ p.1

section
variable {prog : Program} {w : World} {A A₀ : Around} {E : Value → Shared → Prop} {s : Shared} {hb g h base : Heap} {L : Addr} {m : Str → Option Value} {outer : List Env} {frs frs' new : List (Addr × Obj)} {K : Frag} {mg mb : Str → Option Value} {p : Program} {loose : List Str} {mean : ExcName → Option Value}
theorem gone_size (g : Heap) (l : List Addr) : (gone g l).objs.size = g.objs.size := by
  induction l with
  | nil => rfl
  | cons a l ih => exact (Heap.SameBut.update (gone g l) a _).1.trans ih
theorem down (C : Ctx hb g outer frs) (F : Fr g L h m) (N : News g L h new) : Fr (gone g (frs.map (·.1))) L h m ∧ News (gone g (frs.map (·.1))) L h (new ++ frs) := by
  refine ⟨⟨F.ns, fun b o e => F.keep b o (gone_some e).2, by rw [gone_size]; exact F.above⟩, fun q hq => ?_⟩
  rcases List.mem_append.mp hq with hq | hq
  · refine ⟨(N q hq).1, (N q hq).2.1, ?_⟩
    cases hh : (gone g (frs.map (·.1))).get? q.1 with
    | none => rfl
    | some o =>
      have h1 := (N q hq).2.2
      rw [(gone_some hh).2] at h1; cases h1
  · exact ⟨F.keep _ _ (C.there q hq), Nat.ne_of_lt (Nat.lt_of_lt_of_le (Heap.lt_size (C.there q hq)) F.above), gone_none (List.mem_map_of_mem hq)⟩
theorem up (C : Ctx hb g outer frs) (B : Below A base outer g) (hab : g.objs.size ≤ L) (Xb : K.In hb) (Tb : Top p loose mean mg mb hb) (F : Fr (gone g (frs.map (·.1))) L h m) (N : News (gone g (frs.map (·.1))) L h (new ++ frs')) (SU : PyProof.Rows.TI.SameUp frs frs') (Nn : ∀ q ∈ new, g.get? q.1 = none) :
    ∃ g', Below A base outer g' ∧ Ctx hb g' outer frs' ∧ Fr g' L h m ∧ News g' L h new ∧ K.In g' ∧ Top p loose mean mg mb g' ∧ (∀ b, g.get? b = none → g'.get? b = none) ∧ (∀ b, g'.get? b = none → g.get? b = none) ∧ (∀ b o, g.get? b = some o → b ∉ frs.map (·.1) → g'.get? b = some o) := by
  obtain ⟨g', gsz, B', C', hs', gno, goff⟩ := rebase C B SU (fun q hq => (N q (List.mem_append_right _ hq)).1) (fun b o e n => F.keep b o ((gone_get n).trans e))
  refine ⟨g', B', C', ⟨F.ns, hs', by rw [gsz]; exact hab⟩, fun q hq => ⟨(N q (List.mem_append_left _ hq)).1, (N q (List.mem_append_left _ hq)).2.1, gno _ (Nn q hq)⟩, Xb.keeps C'.st, Tb.keeps C'.st, gno, fun b e => ?_, goff⟩
  cases hq : g.get? b with
  | none => rfl
  | some o =>
    by_cases hm : b ∈ frs.map (·.1)
    · obtain ⟨r, hr, q⟩ := List.mem_map.mp hm
      obtain ⟨sl', hb'⟩ := SU.back r hr
      have := C'.there _ hb'
      rw [show (r.1, ({ r.2 with slots := sl' } : Obj)).1 = b from q, e] at this
      cases this
    · rw [goff b o hq hm] at e; cases e

def TurnEndX (hb g₁ : Heap) (outer : List Env) (frs₁ : List (Addr × Obj)) (L : Addr) (s₁ : Shared) (I : Addr) (it : Obj) (rest : (Str → Option Value) → List (Addr × Obj) → Prop) (s₂ : Shared) : Prop :=
  ∃ h' tk' m' news' g₂ frs₂, s₂ = { s₁ with heap := h', toks := tk' } ∧ Ctx hb g₂ outer frs₂ ∧ PyProof.Rows.TI.SameUp frs₁ frs₂ ∧ (∀ b, g₁.get? b = none → g₂.get? b = none) ∧ (∀ b, g₂.get? b = none → g₁.get? b = none) ∧ (∀ b o, g₁.get? b = some o → b ∉ frs₁.map (·.1) → g₂.get? b = some o) ∧
    Fr g₂ L h' m' ∧ News g₂ L h' ((I, it) :: news') ∧ (∀ p ∈ news', p.1 ≠ I) ∧ rest m' news'
def TurnX (hb g₁ : Heap) (outer : List Env) (frs₁ : List (Addr × Obj)) (L : Addr) (s₁ : Shared) (I : Addr) (it : Obj) (rest : (Str → Option Value) → List (Addr × Obj) → Prop) (Q : Flow → Shared → Prop) (f : Flow) (s₂ : Shared) : Prop :=
  match f with
  | .ret v => Q (.ret v) s₂
  | .brk => Q .next s₂
  | _ => TurnEndX hb g₁ outer frs₁ L s₁ I it rest s₂
theorem turnEnd_intro {g₁ g₂ h' : Heap} {frs₁ frs₂ news : List (Addr × Obj)} {s₁ : Shared} {I : Addr} {it : Obj} {rest : (Str → Option Value) → List (Addr × Obj) → Prop} {m' : Str → Option Value} {tk' : Nat} (C' : Ctx hb g₂ outer frs₂) (SU : PyProof.Rows.TI.SameUp frs₁ frs₂)
    (no : ∀ b, g₁.get? b = none → g₂.get? b = none) (no' : ∀ b, g₂.get? b = none → g₁.get? b = none) (off : ∀ b o, g₁.get? b = some o → b ∉ frs₁.map (·.1) → g₂.get? b = some o) (F : Fr g₂ L h' m') (N : News g₂ L h' news) (news' : List (Addr × Obj)) (hI : (I, it) ∈ news) (sub : SubL news' news)
    (hne : NeAll I news') (r : rest m' news') : TurnEndX hb g₁ outer frs₁ L s₁ I it rest { s₁ with heap := h', toks := tk' } :=
  ⟨h', tk', m', news', g₂, frs₂, rfl, C', SU, no, no', off, F, fun q hq => by
    rcases List.mem_cons.mp hq with rfl | hq
    · exact N _ hI
    · exact N _ (sub.mem q hq), fun q hq e => hne.off (by rw [← e]; exact List.mem_map_of_mem hq), r⟩

theorem loop_x {env : Env} {x : Str} {body : List Stmt} {Q : Flow → Shared → Prop} {r : Addr} {a₀ b₀ : Int} {t₀ u₀ v₀ : Tok} {n : Nat} {m₀ : Str → Option Value} {news₀ : List (Addr × Obj)} (J : Nat → (Str → Option Value) → List (Addr × Obj) → Prop)
    (C : Ctx hb g outer frs) (B : Below A₀ base outer g) (Xb : K.In hb) (Tb : Top p loose mean mg mb hb) (F : Fr g env.locals s.heap m₀) (N : News g env.locals s.heap news₀)
    (hh : A.handled = none) (hr : IsRange s.heap r a₀ b₀ 1 t₀ u₀ v₀) (hsmall : Builtin.Range.small a₀ b₀ 1 = true) (hn : Builtin.Range.rangeSize a₀ b₀ 1 = (n : Int)) (hj : J 0 m₀ news₀)
    (turn : ∀ I i m₁ news₁ t h tk g₁ frs₁, (∀ p ∈ news₀, p.1 < I) → i < n → J i m₁ news₁ → Below A₀ base outer g₁ → K.In g₁ → Top p loose mean mg mb g₁ → Ctx hb g₁ outer frs₁ →
      Fr g₁ env.locals h (fun y => if y = x then some (.int (a₀ + (i : Int)) t) else m₁ y) → News g₁ env.locals h ((I, itR (a₀ + ((i + 1 : Nat) : Int)) ((n : Int) - ((i + 1 : Nat) : Int))) :: news₁) →
      wpAny (model prog w) A (execs body env) (TurnX hb g₁ outer frs₁ env.locals { s with heap := h, toks := tk } I (itR (a₀ + ((i + 1 : Nat) : Int)) ((n : Int) - ((i + 1 : Nat) : Int))) (J (i + 1)) Q) E { s with heap := h, toks := tk })
    (done : ∀ m₁ news₁ h tk g₁ frs₁, J n m₁ news₁ → Below A₀ base outer g₁ → K.In g₁ → Top p loose mean mg mb g₁ → Ctx hb g₁ outer frs₁ → PyProof.Rows.TI.SameUp frs frs₁ → (∀ b, g.get? b = none → g₁.get? b = none) → (∀ b, g₁.get? b = none → g.get? b = none) → (∀ b o, g.get? b = some o → b ∉ frs.map (·.1) → g₁.get? b = some o) →
      Fr g₁ env.locals h m₁ → News g₁ env.locals h news₁ → Q .next { s with heap := h, toks := tk }) :
    wpAny (model prog w) A (pyIter (.ref r)) (fun it s₂ => LoopAtV prog w A (gone g (frs.map (·.1))) env x body Q E it s₂) E s := by
  obtain ⟨F0, N0⟩ := down C F N
  refine iter_rangeUnr hh hr hsmall hn F0 N0 fun I hI => ?_
  have hI' : ∀ p ∈ news₀, p.1 < I := fun p hp => hI p (List.mem_append_left _ hp)
  have hIf : ∀ q ∈ frs, q.1 < I := fun q hq => hI q (List.mem_append_right _ hq)
  have Nn : ∀ q ∈ news₀, g.get? q.1 = none := fun q hq => (N q hq).2.2
  suffices H : ∀ k i m₁ news₁ frs₁, i + k = n → PyProof.Rows.TI.SameUp frs frs₁ → (∀ q ∈ news₁, g.get? q.1 = none) → J i m₁ news₁ →
      RangeRest prog w A E (gone g (frs.map (·.1))) env x body Q s I a₀ n k i m₁ (news₁ ++ frs₁) from H n 0 m₀ news₀ frs (by omega) (PyProof.Rows.TI.SameUp.refl _) Nn hj
  intro k
  induction k with
  | zero =>
    intro i m₁ news₁ frs₁ hi SU Nn hJ
    have : i = n := by omega
    subst this
    refine RangeRest.zero fun h tk F N => ?_
    obtain ⟨g', B', C', F', N', X', T', no, no', off⟩ := up C B (by have := F0.above; rw [gone_size] at this; exact this) Xb Tb F N SU Nn
    exact done m₁ news₁ h tk g' frs₁ hJ B' X' T' C' SU no no' off F' N'
  | succ k ih =>
    intro i m₁ news₁ frs₁ hi SU Nn hJ
    refine RangeRest.succ fun t h tk F N => ?_
    have N2 : News (gone g (frs.map (·.1))) env.locals h (((I, itR (a₀ + ((i + 1 : Nat) : Int)) ((n : Int) - ((i + 1 : Nat) : Int))) :: news₁) ++ frs₁) := N
    have hIg : g.get? I = none := by
      cases hq : g.get? I with
      | none => rfl
      | some o =>
        have hn' : I ∉ frs.map (·.1) := fun hm => by
          obtain ⟨q, hq, e⟩ := List.mem_map.mp hm
          exact absurd (hIf q hq) (by rw [e]; exact Nat.lt_irrefl _)
        have h1 := (N2 _ (List.mem_append_left _ (.head _))).2.2
        rw [gone_get hn', hq] at h1
        cases h1
    obtain ⟨g', B', C', F', N', X', T', no, no', off⟩ := up C B (by have := F0.above; rw [gone_size] at this; exact this) Xb Tb F N2 SU (fun q hq => by
      rcases List.mem_cons.mp hq with rfl | hq
      · exact hIg
      · exact Nn q hq)
    refine wpAny_mono (turn I i m₁ news₁ t h tk g' frs₁ hI' (by omega) hJ B' X' T' C' F' N') (fun f s₂ hp => ?_) fun _ _ e => e
    have fin : TurnEndX hb g' outer frs₁ env.locals { s with heap := h, toks := tk } I (itR (a₀ + ((i + 1 : Nat) : Int)) ((n : Int) - ((i + 1 : Nat) : Int))) (J (i + 1)) s₂ →
        UnrEnd (gone g (frs.map (·.1))) env.locals { s with heap := h, toks := tk } I (itR (a₀ + ((i + 1 : Nat) : Int)) ((n : Int) - ((i + 1 : Nat) : Int))) (RangeRest prog w A E (gone g (frs.map (·.1))) env x body Q s I a₀ n k (i + 1)) s₂ := by
      rintro ⟨h', tk', m', news', g₂, frs₂, rfl, C₂, SU₂, no2, no2', off2, F₂, N₂, hne, hJ'⟩
      have SU' := SU.trans SU₂
      have addr : frs₁.map (·.1) = frs.map (·.1) := by rw [← (C.fr.up SU).addrs, ← C.fr.addrs]
      have F₃ : Fr (gone g (frs.map (·.1))) env.locals h' m' := ⟨F₂.ns, fun b o e => by
        obtain ⟨e1, e2⟩ := gone_some e
        exact F₂.keep b o (off2 b o (off b o e2 e1) (by rw [addr]; exact e1)), F0.above⟩
      have Nn' : ∀ q ∈ news', g.get? q.1 = none := fun q hq => no' _ (no2' _ (N₂ q (.tail _ hq)).2.2)
      have toN : ∀ q : Addr × Obj, g.get? q.1 = none → (gone g (frs.map (·.1))).get? q.1 = none := fun (q : Addr × Obj) e => by
        cases hh : (gone g (frs.map (·.1))).get? q.1 with
        | none => rfl
        | some o => rw [(gone_some hh).2] at e; cases e
      refine ⟨h', tk', m', news' ++ frs₂, rfl, F₃, fun q hq => ?_, fun q hq => ?_, ih (i + 1) m' news' frs₂ (by omega) SU' Nn' hJ'⟩
      · rcases List.mem_cons.mp hq with rfl | hq
        · exact ⟨(N₂ _ (.head _)).1, (N₂ _ (.head _)).2.1, toN _ hIg⟩
        · rcases List.mem_append.mp hq with hq | hq
          · exact ⟨(N₂ q (.tail _ hq)).1, (N₂ q (.tail _ hq)).2.1, toN _ (Nn' q hq)⟩
          · obtain ⟨z, hz, e⟩ := SU'.fwd q hq
            refine ⟨F₂.keep _ _ (C₂.there q hq), ?_, ?_⟩
            · exact Nat.ne_of_lt (Nat.lt_of_lt_of_le (Heap.lt_size (C₂.there q hq)) F₂.above)
            · rw [e]; exact gone_none (List.mem_map_of_mem hz)
      · rcases List.mem_append.mp hq with hq | hq
        · exact hne q hq
        · obtain ⟨z, hz, e⟩ := SU'.fwd q hq
          rw [e]; exact Nat.ne_of_lt (hIf z hz)
    cases f with
    | ret v => exact hp
    | brk => exact hp
    | next => exact fin hp
    | cont => exact fin hp
end

theorem for_x {prog : Program} {w : World} {A : Around} {s : Shared} {hb g : Heap} {outer : List Env} {frs : List (Addr × Obj)} (_ : Ctx hb g outer frs) {E : Value → Shared → Prop} {Q : Flow → Shared → Prop} {x : Str} {px pos : Pos} {iter : Expr} {body : List Stmt} {env : Env} (hx : env.kindOf x = some .local)
    (hp : (env.scope.kind == .class || (env.scope.kind == .module && env.locals != env.globals)) = false)
    (h : wpAny (model prog w) A (eval iter env) (fun xv s₁ => wpAny (model prog w) A (pyIter xv) (fun it s₂ => LoopAtV prog w A (PyProof.Rows.TI.gone g (frs.map (·.1))) env x body Q E it s₂) E s₁) E s)
    (hs : ∀ x, foldedSetIterable iter env x = pure x := by intro _; rfl)
    (hE : PassesOwn (model prog w) A env E := by passes_own) :
    wpAny (model prog w) A (exec (.For (.Name x px) iter body [] pos) env) Q E s := For_invV _ hx hp h hs hE
theorem hold_choice {w w' : World} {f : Nat} {fo : Obj} {cc : Nat} {oc : Obj} {ce : Nat} {co : Obj} {dw l : Nat} {prog : Program} {A : Around} {Q E : Value → Shared → Prop} {s : Shared} (_h : ChoiceOk w' f fo cc oc ce co dw l) (h : Hold (wpAny (model prog w) A (call (.ref f) [.ref l]) Q E s)) : wpAny (model prog w) A (call (.ref f) [.ref l]) Q E s := h
def FnObj (o : Obj) : Prop := ∃ oc od fd sl, o = ⟨oc, od, .func fd, sl⟩
theorem fnAt_of {h₀ h : Heap} {L q : Addr} {o : Obj} {news : List (Addr × Obj)} (N : News h₀ L h news) (hm : (q, o) ∈ news) (hf : FnObj o) : W.FnAt q h := by
  obtain ⟨oc, od, fd, sl, rfl⟩ := hf
  exact ⟨oc, od, fd, sl, (N _ hm).1⟩
theorem fnObj_made {fname fqual : Str} {fparams : Arguments} {fbody : List Stmt} {fscope : Scope} {fcl : List (Str × Addr)} {fdoc fpm : Value} {cc : Addr} {fctv : Value} : FnObj (fnMade fname fqual fparams fbody fscope fcl fdoc fpm cc fctv) := ⟨_, _, _, _, rfl⟩
theorem hold_range {M : Model} {A : Around} {Q E : Value → Shared → Prop} {s : Shared} {r : Addr} {a b : Int} {t u v : Tok} (_h : IsRange s.heap r a b 1 t u v) (h : Hold (wpAny M A (pyIter (.ref r)) Q E s)) : wpAny M A (pyIter (.ref r)) Q E s := h
theorem news_tail {g h : Heap} {L : Addr} {x : Addr × Obj} {l : List (Addr × Obj)} (N : News g L h (x :: l)) : News g L h l := fun p hp => N p (.tail _ hp)
end

-- part LW
section
def LtAll (n : Nat) : List (Addr × Obj) → Prop
  | [] => True
  | q :: r => (@LT.lt Nat _ q.1 n) ∧ LtAll n r
def MidQ (g : Heap) (L : Addr) (m : Str → Option Value) (news : List (Addr × Obj)) (s : Shared) (fl : Flow) (s' : Shared) : Prop :=
  fl = .next ∧ ∃ (nl : Nat) (nv : List Value) (ns : List Int) (en : Nat) (pk r hh : Int) (tp tr th : Tok) (h' : Heap) (tk' : Nat), s' = { s with heap := h', toks := tk' } ∧
    Fr g L h' (fun y => if y = Str.ofString "less" then some (.int hh th) else if y = Str.ofString "room" then some (.int r tr) else if y = Str.ofString "numbers" then some (.ref nl) else if y = Str.ofString "pick" then some (.int pk tp) else m y) ∧
    News g L h' ((nl, W.listOf nv.toArray en) :: news) ∧ LtAll nl news ∧ IntsAre nv ns ∧ 1 ≤ ns.length ∧ ns.length ≤ 12 ∧ 1 ≤ hh ∧ hh ≤ r ∧ r ≤ 4
theorem law_join {M : Model} {A : Around} {E : Value → Shared → Prop} {Q : Flow → Shared → Prop} {s : Shared} {env : Env} {s1 s2 s3 s4 : Stmt} {rest : List Stmt} {g : Heap} {L : Addr} {m : Str → Option Value} {news : List (Addr × Obj)}
    (_F : Fr g L s.heap m) (_N : News g L s.heap news)
    (h1 : wpAny M A (execs [s1, s2, s3, s4] env) (MidQ g L m news s) E s)
    (h2 : ∀ (nl : Nat) (nv : List Value) (ns : List Int) (en : Nat) (pk r hh : Int) (tp tr th : Tok) (h' : Heap) (tk' : Nat),
      Fr g L h' (fun y => if y = Str.ofString "less" then some (.int hh th) else if y = Str.ofString "room" then some (.int r tr) else if y = Str.ofString "numbers" then some (.ref nl) else if y = Str.ofString "pick" then some (.int pk tp) else m y) →
      News g L h' ((nl, W.listOf nv.toArray en) :: news) → LtAll nl news → IntsAre nv ns → 1 ≤ ns.length → ns.length ≤ 12 → 1 ≤ hh → hh ≤ r → r ≤ 4 → wpAny M A (execs rest env) Q E { s with heap := h', toks := tk' }) :
    wpAny M A (execs (s1 :: s2 :: s3 :: s4 :: rest) env) Q E s := by
  have key : ∀ s', MidQ g L m news s .next s' → wpAny M A (execs rest env) Q E s' := fun s' hm => by
    obtain ⟨_, nl, nv, ns, en, pk, r, hh, tp, tr, th, h', tk', rfl, a1, a2, a3, a4, a5, a6, a7, a8, a9⟩ := hm
    exact h2 nl nv ns en pk r hh tp tr th h' tk' a1 a2 a3 a4 a5 a6 a7 a8 a9
  have gen : ∀ (l : List Stmt) (Γ : PySem.Ctx) (p) (s' : Shared), Γ.In A → Sem.wp M Γ (execs l env) (fun a _ s' => MidQ g L m news s a s') (fun e _ s' => E e s') p s' → Sem.wp M Γ (execs (l ++ rest) env) (fun a _ s' => Q a s') (fun e _ s' => E e s') p s' := fun l => by
    induction l with
    | nil =>
      intro Γ p s' hΓ h
      have h' : MidQ g L m news s .next s' := h
      exact key s' h' Γ p hΓ
    | cons a l ih =>
      intro Γ p s' hΓ h
      rw [execs_cons, Sem.wp_bind'] at h
      rw [List.cons_append, execs_cons, Sem.wp_bind']
      refine Sem.wp_mono M Γ _ (fun f p' s' h' => ?_) (fun _ _ _ h' => h') _ _ h
      cases f with
      | next => exact ih Γ p' s' hΓ h'
      | _ => exact absurd (show MidQ g L m news s _ s' from h').1 (by intro e; cases e)
  exact fun Γ p hΓ => gen [s1, s2, s3, s4] Γ p s hΓ (h1 Γ p hΓ)

theorem law_use {w : World} {D U : Nat} {f : Addr} {args : List Value} {need rest news : List (Addr × Obj)} {post : Value → List (Addr × Obj) → Prop} (S : SpecX w D U f args need post)
    {A A₀ : Around} {E Q : Value → Shared → Prop} {s : Shared} {g base : Heap} {L : Addr} {m mg mb : Str → Option Value} {p : Program} {loose : List Str} {mean : ExcName → Option Value} {env : Env}
    (B : Below A₀ base [] g) (F : Fr g L s.heap m) (N : News g L s.heap news) (X : (hd.heap_39 w.params).In g) (T : Top p loose mean mg mb g)
    (hA : A = AR D U [env]) (hf : env.frame = some L) (hke : env.scope.kind = .function) (hneed : ∀ q ∈ need, q ∈ news) (hrest : ∀ q ∈ rest, q ∈ news ∧ q.1 ∉ need.map (·.1))
    (h : ∀ v need' h' tk', post v need' → Fr g L h' m → News g L h' (need' ++ rest) → (∀ q ∈ need', ∀ r ∈ rest, q.1 ≠ r.1) → Q v { s with heap := h', toks := tk' }) :
    wpAny (model PR w) A (call (.ref f) args) Q E s :=
  specx_use (frs := []) (hb := g) S B F N X T ⟨trivial, fun _ h => (nomatch h), fun _ h => (nomatch h), fun _ _ h => h⟩ hA hf hke hneed hrest
    fun v need' g' frs' h' tk' hp _ F' N' _ _ _ _ gno gno2 goff hap => h v need' h' tk' hp ⟨F'.ns, fun b o e => F'.keep b o (goff b o e (fun h => nomatch h)), F.above⟩ (fun q hq => ⟨(N' q hq).1, (N' q hq).2.1, gno2 _ (N' q hq).2.2⟩) hap

theorem no_zero {x : Int} (h : 1 + x.fmod 4 = 0) : False := by
  have := fmod_lo x (n := 4) (by omega); omega
theorem room_lo (x : Int) : 1 ≤ 1 + x.fmod 4 := by have := fmod_lo x (n := 4) (by omega); omega
theorem room_hi (x : Int) : 1 + x.fmod 4 ≤ 4 := by have := fmod_hi x (n := 4) (by omega); omega
theorem less_lo (x y : Int) : 1 ≤ 1 + y.fmod (1 + x.fmod 4) := by have := fmod_lo y (n := 1 + x.fmod 4) (by have := room_lo x; omega); omega
theorem less_hi (x y : Int) : 1 + y.fmod (1 + x.fmod 4) ≤ 1 + x.fmod 4 := by have := fmod_hi y (n := 1 + x.fmod 4) (by have := room_lo x; omega); omega

theorem Op.nil_of {h : Nat} {pre c l : List Int} (H : Op h pre c l) : l = [] → c = [] ∧ pre = [] := by
  induction H with
  | nil => exact fun _ => ⟨rfl, rfl⟩
  | hit _ hx ih => intro e; rw [(ih e).1] at hx; cases hx
  | miss _ _ _ _ _ _ => intro e; simp at e
section
variable {prog : Program} {w : World} {A : Around} {E : Value → Shared → Prop} {s : Shared} {h₀ : Heap} {L a b : Addr} {news : List (Addr × Obj)} {vs : List Value} {ns : List Int} {n k : Nat}
theorem my_eqNil {Q : Value → Shared → Prop} (N : News h₀ L s.heap news) (ha : (a, W.listOf vs.toArray n) ∈ news) (hi : IntsAre vs ns) (hne : ns ≠ []) (hb : (b, W.listOf (List.toArray []) k) ∈ news) (hu : A.units + 64 < cLine) (h : Q (.bool false) s) :
    wpAny (model prog w) A (compareOp .Eq (.ref a) (.ref b)) Q E s :=
  W.eq_intsK (PySem.IsL.isList (n := n) (N _ ha).1) hi (PySem.IsL.isList (n := k) (N _ hb).1) .nil hu (by rw [decide_eq_false hne]; exact h)
end

/-- after the row was served the other way. -/
def Mid2 (g : Heap) (L : Addr) (m : Str → Option Value) (tb kh : Nat) (s : Shared) (fl : Flow) (s' : Shared) : Prop :=
  fl = .next ∧ ∃ (lo rw dr dw : Nat) (co : Obj) (lvs rvs dvs zv : List Value) (oloads oq row draws zs : List Int) (e e1 e2 e3 : Nat) (vc : Value) (ps : Array Value) (h' : Heap) (tk' : Nat), s' = { s with heap := h', toks := tk' } ∧
    Fr g L h' (fun y => if y = Str.ofString "other" then some (.ref lo) else if y = Str.ofString "choice" then some vc else if y = Str.ofString "draws" then some (.ref dr) else if y = Str.ofString "row" then some (.ref rw) else m y) ∧
    News g L h' [(lo, W.listOf (List.toArray lvs) e), (rw, W.listOf (List.toArray rvs) e1), (dr, W.listOf (List.toArray dvs) e2), (dw, W.listOf (List.toArray zv) e3), (L + 1, co), (tb, W.tabObj ps)] ∧
    IntsAre rvs row ∧ IntsAre dvs draws ∧ draws.length = row.length ∧ 1 ≤ row.length ∧ row.length ≤ 12 ∧ IntsAre lvs oloads ∧ Op kh row.reverse oq oloads ∧ IntsAre zv zs ∧ zs.length = 1 ∧ co.data = .cell (some (.ref dw)) ∧
    rw ≠ dr ∧ rw < dw ∧ dr < dw ∧ (L + 1 : Nat) ≠ rw ∧ (L + 1 : Nat) ≠ dr ∧ (L + 1 : Nat) < dw ∧ tb < (L + 1 : Nat) ∧ tb ≠ rw ∧ tb ≠ dr ∧ rw < lo ∧ dr < lo ∧ dw < lo ∧ (L + 1 : Nat) ≠ lo ∧ tb ≠ lo
theorem seq_join {M : Model} {A : Around} {E : Value → Shared → Prop} {Q : Flow → Shared → Prop} {s : Shared} {env : Env} {s1 s2 s3 s4 s5 s6 : Stmt} {rest : List Stmt} {P : Flow → Shared → Prop} (hP : ∀ fl s', P fl s' → fl = .next)
    (h1 : wpAny M A (execs [s1, s2, s3, s4, s5, s6] env) P E s) (h2 : ∀ s', P .next s' → wpAny M A (execs rest env) Q E s') : wpAny M A (execs (s1 :: s2 :: s3 :: s4 :: s5 :: s6 :: rest) env) Q E s := by
  have gen : ∀ (l : List Stmt) (Γ : PySem.Ctx) (p) (s' : Shared), Γ.In A → Sem.wp M Γ (execs l env) (fun a _ s' => P a s') (fun e _ s' => E e s') p s' → Sem.wp M Γ (execs (l ++ rest) env) (fun a _ s' => Q a s') (fun e _ s' => E e s') p s' := fun l => by
    induction l with
    | nil =>
      intro Γ p s' hΓ h
      have h' : P .next s' := h
      exact h2 s' h' Γ p hΓ
    | cons a l ih =>
      intro Γ p s' hΓ h
      rw [execs_cons, Sem.wp_bind'] at h
      rw [List.cons_append, execs_cons, Sem.wp_bind']
      refine Sem.wp_mono M Γ _ (fun f p' s' h' => ?_) (fun _ _ _ h' => h') _ _ h
      cases f with
      | next => exact ih Γ p' s' hΓ h'
      | _ => exact absurd (hP _ s' h') (by intro e; cases e)
  exact fun Γ p hΓ => gen [s1, s2, s3, s4, s5, s6] Γ p s hΓ (h1 Γ p hΓ)
theorem law_join2 {M : Model} {A : Around} {E : Value → Shared → Prop} {Q : Flow → Shared → Prop} {s : Shared} {env : Env} {s1 s2 s3 s4 s5 s6 : Stmt} {rest : List Stmt} {g : Heap} {L : Addr} {m : Str → Option Value} (kh : Nat)
    (_F : Fr g L s.heap m)
    (h1 : wpAny M A (execs [s1, s2, s3, s4, s5, s6] env) (Mid2 g L m 1023 kh s) E s)
    (h2 : ∀ (lo rw dr dw : Nat) (co : Obj) (lvs rvs dvs zv : List Value) (oloads oq row draws zs : List Int) (e e1 e2 e3 : Nat) (vc : Value) (ps : Array Value) (h' : Heap) (tk' : Nat),
      Fr g L h' (fun y => if y = Str.ofString "other" then some (.ref lo) else if y = Str.ofString "choice" then some vc else if y = Str.ofString "draws" then some (.ref dr) else if y = Str.ofString "row" then some (.ref rw) else m y) →
      News g L h' [(lo, W.listOf (List.toArray lvs) e), (rw, W.listOf (List.toArray rvs) e1), (dr, W.listOf (List.toArray dvs) e2), (dw, W.listOf (List.toArray zv) e3), (L + 1, co), (1023, W.tabObj ps)] →
      IntsAre rvs row → IntsAre dvs draws → draws.length = row.length → 1 ≤ row.length → row.length ≤ 12 → IntsAre lvs oloads → Op kh row.reverse oq oloads → IntsAre zv zs → zs.length = 1 → co.data = .cell (some (.ref dw)) →
      rw ≠ dr → rw < dw → dr < dw → (L + 1 : Nat) ≠ rw → (L + 1 : Nat) ≠ dr → (L + 1 : Nat) < dw → 1023 < (L + 1 : Nat) → 1023 ≠ rw → 1023 ≠ dr → rw < lo → dr < lo → dw < lo → (L + 1 : Nat) ≠ lo → 1023 ≠ lo → wpAny M A (execs rest env) Q E { s with heap := h', toks := tk' }) :
    wpAny M A (execs (s1 :: s2 :: s3 :: s4 :: s5 :: s6 :: rest) env) Q E s :=
  seq_join (P := Mid2 g L m 1023 kh s) (fun _ _ h => h.1) h1 fun s' hm => by
    obtain ⟨_, lo, rw, dr, dw, co, lvs, rvs, dvs, zv, oloads, oq, row, draws, zs, e, e1, e2, e3, vc, ps, h', tk', rfl, a1, a2, b1, b2, b3, b4, b5, b6, b7, b8, b9, b10, c1, c2, c3, c4, c5, c6, c7, c8, c9, c10, c11, c12, c13, c14⟩ := hm
    exact h2 lo rw dr dw co lvs rvs dvs zv oloads oq row draws zs e e1 e2 e3 vc ps h' tk' a1 a2 b1 b2 b3 b4 b5 b6 b7 b8 b9 b10 c1 c2 c3 c4 c5 c6 c7 c8 c9 c10 c11 c12 c13 c14
def findFor : List Stmt → List Stmt
  | [] => []
  | .For _ _ b _ _ :: _ => b
  | _ :: r => findFor r
def forBody : List Stmt := findFor lawParts.2.1
def forTail : List Stmt := forBody.drop 1
abbrev lawEnv (sc : Scope) (L fa : Addr) (cd : Value) : Env := PyProof.Rows.envOfC (Str.ofString "law") sc L fa cd
abbrev lawMap (m0 : Str → Option Value) (other row draws : Nat) (vc : Value) (kh kr : Nat) (th tr : Tok) : Str → Option Value := fun y =>
  if y = Str.ofString "other" then some (.ref other) else if y = Str.ofString "choice" then some vc else if y = Str.ofString "draws" then some (.ref draws) else if y = Str.ofString "row" then some (.ref row) else
  if y = Str.ofString "less" then some (.int (kh : Int) th) else if y = Str.ofString "room" then some (.int (kr : Int) tr) else m0 y
abbrev turnMap (m1 : Str → Option Value) (u1 u2 u3 u4 : Option Value) : Str → Option Value := fun y =>
  if y = Str.ofString "rounds" then u1 else if y = Str.ofString "first" then u2 else if y = Str.ofString "loads" then u3 else if y = Str.ofString "cache" then u4 else m1 y
def TailQ (g : Heap) (L : Addr) (m1 : Str → Option Value) (news : List (Addr × Obj)) (s : Shared) (fl : Flow) (s' : Shared) : Prop :=
  fl = .next ∧ ∃ (u1 u2 u3 u4 : Option Value) (h' : Heap) (tk' : Nat), s' = { s with heap := h', toks := tk' } ∧ Fr g L h' (turnMap m1 u1 u2 u3 u4) ∧ News g L h' news

theorem firstMet_nodup {ns : List Int} (h : ns.Nodup) : ∀ i, i ≤ ns.length → PyProof.Rows.firstMet (fun i => ns.getD i 0) i = ns.take i
  | 0, _ => rfl
  | i + 1, hi => by
    have hlt : i < ns.length := hi
    rw [PyProof.Rows.firstMet_succ, firstMet_nodup h i (Nat.le_of_lt hlt), List.take_succ, List.getElem?_eq_getElem hlt, List.getD_eq_getElem?_getD, List.getElem?_eq_getElem hlt]
    have hn : ¬ ns[i] ∈ ns.take i := fun hm => by
      obtain ⟨j, hj⟩ := mem_at.mp hm
      have hjl := (List.getElem?_eq_some_iff.mp hj).1
      rw [List.length_take] at hjl
      rw [List.getElem?_take, if_pos (by omega)] at hj
      have := nodup_at h hj (List.getElem?_eq_getElem hlt)
      omega
    unfold PyProof.Rows.step_dedup
    simp [hn]
section
variable {prog : Program} {w : World} {A : Around} {E : Value → Shared → Prop} {s : Shared} {h₀ : Heap} {L D : Addr} {m : Str → Option Value} {news : List (Addr × Obj)} {vs : List Value} {ns : List Int} {n : Nat}
theorem my_setNodup {Q : Value → Shared → Prop} (F : Fr h₀ L s.heap m) (N : News h₀ L s.heap news) (hh : A.handled = none) (hm : (D, W.listOf vs.toArray n) ∈ news) (hi : IntsAre vs ns) (hnd : ns.Nodup) (hb : ns.length ≤ 100)
    (h : ∀ (d : Addr) h' (tk : Nat) o S, Fr h₀ L h' m → News h₀ L h' ((d, o) :: news) → (∀ p ∈ news, p.1 < d) → o.SetObjOf (PySem.intKind prog w) S ns.length → Q (.ref d) { s with heap := h', toks := tk }) :
    wpAny (model prog w) A (call (.type "set") [.ref D]) Q E s := by
  have hl' : s.heap.IsList D vs.toArray := PySem.IsL.isList (n := n) (N _ hm).1
  have hvn : vs.length = ns.length := IntsAre.length hi
  have hsz : vs.toArray.size = vs.length := List.size_toArray
  refine PySem.call_set_list (items := vs.toArray) (ns := ns) hh hl' (by simpa using hi) (by rw [hsz, hvn]; unfold scanBound; omega) fun h' tk hS hk => ?_
  rw [hsz, hvn, firstMet_nodup hnd _ (Nat.le_refl _), List.take_length] at hS
  obtain ⟨o, ho, hso⟩ := hS.objOf
  obtain ⟨oL, _, _, hL, _⟩ := F.ns
  have hLlt : L < s.heap.objs.size := Heap.lt_size hL
  refine h _ h' tk o _ ⟨F.ns.at' fun o' e => hk L o' hLlt e, fun b o' e => hk b o' (Heap.lt_size (F.keep b o' e)) (F.keep b o' e), F.above⟩ (fun p hp => ?_) (fun p hp => Heap.lt_size (N p hp).1) hso
  rcases List.mem_cons.mp hp with rfl | hp
  · refine ⟨ho, Nat.ne_of_gt hLlt, ?_⟩
    cases hq : h₀.get? s.heap.objs.size with
    | none => rfl
    | some o' => exact absurd (Heap.lt_size (F.keep _ _ hq)) (Nat.lt_irrefl _)
  · exact ⟨hk _ _ (Heap.lt_size (N p hp).1) (N p hp).1, (N p hp).2.1, (N p hp).2.2⟩
end

theorem no_less {ll ol kh kr : Nat} (h1 : 1 ≤ ll) (h2 : kh ≤ kr) (h3 : 1 ≤ kr) (hb : (ll - 1) % kr + 1 + (kr + 1 - kh) * ((ll - ((ll - 1) % kr + 1)) / kr) ≤ ol)
    (h : (ol : Int) < ((ll : Int) - 1).fmod kr + 1 + ((kr : Int) - kh + 1) * ((ll : Int) - (((ll : Int) - 1).fmod kr + 1)).fdiv kr) : False := by
  have e1 : (ll : Int) - 1 = ((ll - 1 : Nat) : Int) := by omega
  have hm : (ll - 1) % kr < kr := Nat.mod_lt _ h3
  have hle : (ll - 1) % kr + 1 ≤ ll := by have := Nat.mod_le (ll - 1) kr; omega
  have e2 : ((ll : Int) - 1).fmod kr = (((ll - 1) % kr : Nat) : Int) := by
    rw [e1, Int.fmod_eq_emod_of_nonneg _ (Int.natCast_nonneg _)]; exact (Int.natCast_emod _ _).symm
  have e3 : (ll : Int) - (((ll : Int) - 1).fmod kr + 1) = ((ll - ((ll - 1) % kr + 1) : Nat) : Int) := by rw [e2]; omega
  have e4 : ((ll : Int) - (((ll : Int) - 1).fmod kr + 1)).fdiv kr = (((ll - ((ll - 1) % kr + 1)) / kr : Nat) : Int) := by
    rw [e3, Int.fdiv_eq_ediv_of_nonneg _ (Int.natCast_nonneg _)]; exact (Int.natCast_ediv _ _).symm
  have e5 : (kr : Int) - kh + 1 = ((kr + 1 - kh : Nat) : Int) := by omega
  rw [e4, e2, e5] at h
  have hb' : (((ll - 1) % kr + 1 + (kr + 1 - kh) * ((ll - ((ll - 1) % kr + 1)) / kr) : Nat) : Int) ≤ ol := Int.ofNat_le.mpr hb
  rw [Int.natCast_add, Int.natCast_mul] at hb'
  have e6 : (((ll - 1) % kr + 1 : Nat) : Int) = (((ll - 1) % kr : Nat) : Int) + 1 := by omega
  rw [e6] at hb'
  exact absurd h (Int.not_lt.mpr hb')
theorem fr_norm {g h : Heap} {L : Addr} {m1 : Str → Option Value} {u1 u2 u3 u4 a1 a2 a3 a4 : Option Value}
    (F : Fr g L h (fun y => if y = Str.ofString "rounds" then a1 else if y = Str.ofString "first" then a2 else if y = Str.ofString "loads" then a3 else if y = Str.ofString "cache" then a4 else turnMap m1 u1 u2 u3 u4 y)) : Fr g L h (turnMap m1 a1 a2 a3 a4) := by
  have e : (fun y => if y = Str.ofString "rounds" then a1 else if y = Str.ofString "first" then a2 else if y = Str.ofString "loads" then a3 else if y = Str.ofString "cache" then a4 else turnMap m1 u1 u2 u3 u4 y) = turnMap m1 a1 a2 a3 a4 := by
    funext y
    by_cases e1 : y = Str.ofString "rounds"
    · rw [if_pos e1]; show _ = ite _ _ _; rw [if_pos e1]
    · by_cases e2 : y = Str.ofString "first"
      · rw [if_neg e1, if_pos e2]; show _ = ite _ _ _; rw [if_neg e1, if_pos e2]
      · by_cases e3 : y = Str.ofString "loads"
        · rw [if_neg e1, if_neg e2, if_pos e3]; show _ = ite _ _ _; rw [if_neg e1, if_neg e2, if_pos e3]
        · by_cases e4 : y = Str.ofString "cache"
          · rw [if_neg e1, if_neg e2, if_neg e3, if_pos e4]; show _ = ite _ _ _; rw [if_neg e1, if_neg e2, if_neg e3, if_pos e4]
          · rw [if_neg e1, if_neg e2, if_neg e3, if_neg e4]; show ite _ _ _ = ite _ _ _; rw [if_neg e1, if_neg e2, if_neg e3, if_neg e4, if_neg e1, if_neg e2, if_neg e3, if_neg e4]
  rw [← e]; exact F

theorem On.len_le {lru : Bool} {k : Nat} {pre q l : List Int} (H : On lru k pre q l) : l.length ≤ pre.length := by
  induction H with
  | nil => exact Nat.le_refl _
  | hit _ _ ih => exact Nat.le_succ_of_le ih
  | miss _ _ ih => simpa using ih
theorem Op.len_le {h : Nat} {pre c l : List Int} (H : Op h pre c l) : l.length ≤ pre.length := by
  induction H with
  | nil => exact Nat.le_refl _
  | hit _ _ ih => exact Nat.le_succ_of_le ih
  | miss _ _ _ _ _ ih => simpa using ih
def forHead : Stmt := forBody.headD (.Pass default)
theorem seq_one {M : Model} {A : Around} {E : Value → Shared → Prop} {Q : Flow → Shared → Prop} {s : Shared} {env : Env} {s1 : Stmt} {rest : List Stmt} {P : Flow → Shared → Prop} (hP : ∀ fl s', P fl s' → fl = .next)
    (h1 : wpAny M A (execs [s1] env) P E s) (h2 : ∀ s', P .next s' → wpAny M A (execs rest env) Q E s') : wpAny M A (execs (s1 :: rest) env) Q E s := by
  intro Γ p hΓ
  have h := h1 Γ p hΓ
  rw [execs_cons, Sem.wp_bind'] at h
  rw [execs_cons, Sem.wp_bind']
  refine Sem.wp_mono M Γ _ (fun f p' s' h' => ?_) (fun _ _ _ h' => h') _ _ h
  cases f with
  | next => exact h2 s' (show P .next s' from h') Γ p' hΓ
  | _ => exact absurd (hP _ s' h') (by intro e; cases e)
def StopHere : Prop := True
theorem hold_mark {P : Prop} (_ : StopHere) (h : Hold P) : P := h
end
-- LINES
local macro_rules | `(tactic| walk_at "my fact") => `(tactic| first | assumption | rfl | decide)
local macro_rules | `(tactic| walk_at "my some") => `(tactic| first | exact Option.isSome_iff_exists.mpr ⟨_, by assumption⟩ | (simp only [*, Option.isSome]; done))
local macro_rules | `(tactic| walk_at "my size") => `(tactic| (rw [sizeLine_eq]; first | omega | exact Nat.le_trans without_len (by omega) | exact Nat.le_trans (stored_length_le _ _ _) (by omega)))
local macro_rules | `(tactic| walk_at "compareOp In int ref") => `(tactic| (k_here; kdg_here; k_dflt (first
  | refine kda_in (knd := PySem.intKind _ _) (by k_asm) (by k_mem) (by k_asm) (by k_asm) (intKind_is _ _ _ _) true (by exact is_some (by assumption)) ?_
  | refine kda_in (knd := PySem.intKind _ _) (by k_asm) (by k_mem) (by k_asm) (by k_asm) (intKind_is _ _ _ _) false (by exact is_none (by assumption)) ?_)))
local macro_rules | `(tactic| walk_at "compareOp NotIn int ref") => `(tactic| (k_here; kdg_here; k_dflt (first
  | refine kdg_notin (knd := PySem.intKind _ _) (by k_asm) (by k_mem) (by k_asm) (by k_asm) (intKind_is _ _ _ _) true (by exact is_some (by assumption)) ?_
  | refine kdg_notin (knd := PySem.intKind _ _) (by k_asm) (by k_mem) (by k_asm) (by k_asm) (intKind_is _ _ _ _) false (by exact is_none (by assumption)) ?_); (try dsimp only [Bool.not_true, Bool.not_false])))
local macro_rules | `(tactic| walk_at "subscriptTail") => `(tactic| (k_here; kda_here; k_dflt (
  (with_reducible show wpAny _ _ (subscriptTail _ _ (Value.ref _) (Value.int _ _)) _ _ _); refine kda_item (knd := PySem.intKind _ _) (by k_asm) (by k_mem) (by k_asm) (intKind_is _ _ _ _) (by assumption) ?_)))
local macro_rules | `(tactic| walk_at "setItem ref int") => `(tactic| (k_here; kda_here; k_dflt (refine' kda_set (knd := PySem.intKind _ _) ?F ?N ?U ?d (intKind_is _ _ _ _) ?z ?_; (case F => k_asm); (case N => k_asm); (case U => k_updF); (case d => k_asm); (case z => walk_at "my size")); intro h' o' F' N' hd'; (try dsimp only at N')))
local macro_rules | `(tactic| walk_at "my enter") => `(tactic| ((case k6 => k_is); (case k7 => k_is); (case k8 => decide); (case k9 => first | exact fun _ _ => BindsTo.of_eq rfl | exact fun _ hX => binds_K hX rfl (by k_is) rfl rfl rfl); (case c5 => decide); (case kB => exact locs rfl); (case c2 => exact rfl); (case c3 => exact rfl); (case c4 => exact rfl); k_whole; intro p loose mean mg mb envs base g L h s F N B X T l; k_lt l; (try dsimp only [List.length_cons, List.length_nil, List.reverse_cons, List.reverse_nil, List.nil_append, List.cons_append, AR] at *); (try k_fold)))
local macro_rules | `(tactic| walk_at "getItem ref int") => `(tactic| (k_here; kda_here; k_dflt (refine kdt_getItem (knd := PySem.intKind _ _) (by k_asm) (by k_mem) (by k_asm) (intKind_is _ _ _ _) (by assumption) ?_)))
local macro_rules | `(tactic| walk_at "WhlIf") => `(tactic| first | (refine WhlIf.yes (decide_eq_true (by omega)) ?_) | (refine WhlIf.no (decide_eq_false (by omega)) ?_))
local macro_rules | `(tactic| walk_at "call builtin:iter") => `(tactic| (k_here; (with_reducible show wpAny _ _ (call (Value.builtin "iter") [Value.ref _]) _ _ _); k_dflt (refine' my_iter ?F ?X ?I ?hs ?hf ?_; (case F => k_asm); (case X => k_asm); (case I => k_inst); (case hs => k_is); (case hf => k_is); k_whole)))
local macro_rules | `(tactic| walk_at "OwitIt") => `(tactic| (k_dflt (refine' my_owit ?N ?p ?i ?_; (case N => k_asm); (case p => k_mem); (case i => k_asm); k_whole)))
local macro_rules | `(tactic| walk_at "call builtin:next") => `(tactic| (k_here; (with_reducible show wpAny _ _ (call (Value.builtin "next") [Value.ref _]) _ _ _); k_dflt (
  (refine' kdk_next (knd := PySem.intKind _ _) ?F ?N ?U ?i ?a ?p ?x ?_; (case F => k_asm); (case N => k_asm); (case U => k_updF); (case i => k_asm); (case a => k_asm); (case p => k_mem); (case x => assumption); intro h' o' y' hk' F' N' hi'; obtain ⟨t', ey'⟩ := PySem.Value.isInt_shape hk'; subst ey')); (try dsimp only at N')))
local macro_rules | `(tactic| walk_at "delItem ref int") => `(tactic| (k_here; kda_here; k_dflt (refine' kob_del (knd := PySem.intKind _ _) ?F ?N ?U ?d (intKind_is _ _ _ _) ?l ?z ?_; (case F => k_asm); (case N => k_asm); (case U => k_updF); (case d => k_asm); (case l => exact is_some (by assumption)); (case z => walk_at "my size")); intro h' o' F' N' hd'; (try dsimp only at N')))
local macro_rules | `(tactic| walk_at "call builtin:dict.pop") => `(tactic| (k_here; kda_here; k_dflt (
  ((with_reducible show wpAny _ _ (call (Value.builtin "dict.pop") [Value.ref _, Value.int _ _]) _ _ _); refine' kob_pop (knd := PySem.intKind _ _) (more := []) ?F ?N ?U ?d (intKind_is _ _ _ _) (.inl rfl) (by rfl) (PySem.F.args_dict_pop_2 _ _) ?l ?z ?_; (case F => k_asm); (case N => k_asm); (case U => k_updF); (case d => k_asm); (case l => assumption); (case z => walk_at "my size"))); intro h' o' F' N' hd'; (try dsimp only at N')))
local macro_rules | `(tactic| walk_at "delItem ref") => `(tactic| (k_here; (with_reducible show wpAny _ _ (delItem (Value.ref _) _) _ _ _); k_dflt (refine' my_delItem ?F ?X ?I ?hQ ?hS ?hF ?_; (case F => k_asm); (case X => k_asm); (case I => k_inst); (case hS => k_is); (case hF => k_is); (case hQ => k_is); k_whole)))
local macro_rules | `(tactic| walk_at "getAttr ref") => `(tactic| (k_here; (with_reducible show wpAny _ _ (getAttr (Value.ref _) (PySem.Str.ofString "getsizeof") _) _ _ _); k_dflt (refine' my_get_sm ?k1 ?k2 ?k3 ?k4 ?k5 ?k6 ?k7 ?k8 ?k9 ?k10 ?k11 ?k12 ?_; (case k1 => k_asm); (case k2 => k_asm); (case k3 => k_inst); (case k4 => k_is); (case k5 => k_is); (case k6 => k_is); (case k7 => k_is); (case k8 => k_is); (case k9 => k_is); (case k10 => k_handed); (case k11 => decide +kernel); (case k12 => k_get); k_whole)))
local macro_rules | `(tactic| walk_at "call builtin:dict.pop") => `(tactic| (k_here; kda_here; k_dflt (
  ((with_reducible show wpAny _ _ (call (Value.builtin "dict.pop") [Value.ref _, Value.int _ _]) _ _ _); refine' my_pop_missing (knd := PySem.intKind _ _) ?H ?N ?M ?d ?o (intKind_is _ _ _ _) (by rfl) ?l ?_; (case H => exact rfl); (case N => k_asm); (case M => k_mem); (case d => k_asm); (case o => k_asm); (case l => assumption))); intro h' e' x'))
local macro_rules | `(tactic| walk_at "eval Name") => `(tactic| (k_here; (with_reducible show wpAny _ _ (eval (Expr.Name (PySem.Str.ofString "draw") _) _) _ _ _); k_dflt (refine' nameX_F ?N ?c ?m ?d ?_ ?a ?b; (case b => rfl); (case a => rfl); (case N => k_asm); (case c => rfl); (case m => k_mem); (case d => k_asm); k_whole)))
-- XLINES
local macro_rules | `(tactic| walk_at "noteFrame ref") => `(tactic| (k_here; (with_reducible rename Ctx _ _ _ _ => cX); (with_reducible rename Heap.NewExc _ _ _ _ => xX); (refine my_noted (by rfl) cX xX (by assumption) (by assumption) ?_); clear xX; intro h' frs' tiU' tiH'; have tiHH' := PyProof.Rows.TT.HeldNA.held tiH'))
local macro_rules | `(tactic| walk_at "handleBy") => `(tactic| (k_here; (with_reducible rename Ctx _ _ _ _ => cX); (with_reducible rename PyProof.Rows.TT.HeldNA _ _ _ _ _ _ _ _ => ttN); (with_reducible rename PyProof.Rows.TI.SameUp _ _ => suX); (with_reducible show wpAny _ _ (handleBy _ _ (ExceptHandler.ExceptHandler (some (Expr.Name _ _)) none _ _ :: _)) _ _ _); k_dflt ((refine' my_clause ttN cX suX ?kB ?kX ?kT ?kA ?kN ?kK ?kV ?_; (case kB => assumption); (case kX => exact Und.x (by assumption)); (case kT => exact Und.t (by assumption)); (case kA => exact Fr.above (by assumption)); (case kN => exact news_none (by assumption)); (case kK => k_is); (case kV => first | boot_by_name | boot_fast))); clear ttN; (try (with_reducible rename HeldAt _ _ _ _ _ _ _ => ttH; clear ttH)); intro g' h' B' C' F' N' X' T' gno' gno2' goff'))
local macro_rules | `(tactic| walk_at "call ref") => `(tactic| ((first | (with_reducible show wpAny _ _ (call (Value.ref 944) _) _ _ _) | (with_reducible show wpAny _ _ (call (Value.ref 915) _) _ _ _) | (with_reducible show wpAny _ _ (call (Value.ref 794) _) _ _ _) | (with_reducible show wpAny _ _ (call (Value.ref 1021) _) _ _ _)); refine hold_in ?_))
local macro_rules | `(tactic| walk_at "my enterX") => `(tactic| ((case k6 => k_is); (case k7 => k_is); (case k8 => decide); (case k9 => first | exact fun _ _ => BindsTo.of_eq rfl | exact fun _ hX => binds_K hX rfl (by k_is) rfl rfl rfl); (case c5 => decide); (case kB => exact locs rfl); (case c2 => exact rfl); (case c3 => exact rfl); (case c4 => exact rfl); k_whole; intro p loose mean mg mb envs frs base hb g L h s F N B X T U C l; k_lt l; (try dsimp only [List.length_cons, List.length_nil, List.reverse_cons, List.reverse_nil, List.nil_append, List.cons_append, AR] at *); (try k_fold)))
local macro_rules | `(tactic| walk_at "my ne") => `(tactic| first | exact True.intro | (refine And.intro (by k_ne) ?_; walk_at "my ne"))
local macro_rules | `(tactic| walk_at "my rest") => `(tactic| first | exact True.intro | (refine And.intro (by k_mem) (And.intro (by walk_at "my ne") ?_); walk_at "my rest"))
local macro_rules | `(tactic| walk_at "my subL") => `(tactic| k_subL)
local macro_rules | `(tactic| walk_at "my usex") => `(tactic| ((case kA => exact rfl); (case kf => exact rfl); (case kk => exact rfl); (case kF => assumption); (case kN => assumption); (case kB => assumption); (case kC => assumption); (case kX => exact Und.x (by assumption)); (case kT => exact Und.t (by assumption)); (case kn => exact SubL.mem (by k_subL)); (case kr => exact RestL.all (by walk_at "my rest"))))
local macro_rules | `(tactic| walk_at "my use") => `(tactic| ((case kA => exact rfl); (case kf => exact rfl); (case kk => exact rfl); (case kF => assumption); (case kN => assumption); (case kB => assumption); (case kX => assumption); (case kT => assumption); (case kn => exact SubL.mem (by k_subL)); (case kr => exact RestL.all (by walk_at "my rest"))))
local macro_rules | `(tactic| walk_at "exec For Name Call cons nil") => `(tactic| (refine hold_in ?_))
local macro_rules | `(tactic| walk_at "pyIter ref") => `(tactic| ((with_reducible show wpAny _ _ (pyIter (Value.ref _)) (fun it s₂ => LoopAtV _ _ _ _ _ _ _ _ _ it s₂) _ _); with_reducible refine hold_range (by with_reducible assumption) ?_))
local macro_rules | `(tactic| walk_at "call builtin:dict.get") => `(tactic| (k_here; kda_here; k_dflt (refine kdg_get1 (knd := PySem.intKind _ _) (by k_asm) (by k_mem) (by k_asm) (by k_asm) (intKind_is _ _ _ _) (some _) (by first | assumption | exact va_stored_self _ _ _) ?_); (try dsimp only [Option.getD])))
local macro_rules | `(tactic| walk_at "call builtin:len") => `(tactic| (k_here; kda_here; (with_reducible show wpAny _ _ (call (Value.builtin "len") [Value.ref _]) _ _ _); k_dflt (refine kda_len (knd := PySem.intKind _ _) (by k_asm) (by k_mem) (by k_asm) (by k_asm) (by omega) ?_)))
local macro_rules | `(tactic| walk_at "compareOp NotEq int int") => `(tactic| (k_here; (first | with_reducible refine ne_int_self ?_ | refine ne_int_eq (by omega) ?_ | refine ne_int_ne (by omega) ?_)))
local macro_rules | `(tactic| walk_at "call builtin:list.append") => `(tactic| (k_here; (with_reducible show wpAny _ _ (call (Value.builtin _) [Value.ref _, _]) _ _ _); k_dflt (refine' append_K ?k1 ?k2 ?k3 ?_ ?z; (case k1 => k_asm); (case k2 => k_asm); (case k3 => k_upd); (case z => (rw [sizeLine_eq, List.size_toArray]; (try simp only [List.length_dropLast, List.length_set]); omega)); k_whole); intro h' F' N'; (try k_sweep)))
local macro_rules | `(tactic| walk_at "callWith ref") => `(tactic| (k_here; (with_reducible show wpAny _ _ (callWith _ (Value.ref _) [] (backTo _ (starEach [Expr.Name (PySem.Str.ofString "keys") _] _)) []) _ _ _); k_dflt (refine' callWith_F ?k1 ?_; (case k1 => exact fnAt_of (by k_asm) (by k_mem) (by with_reducible assumption)); k_whole)))
local macro_rules | `(tactic| walk_at "setItem ref int") => `(tactic| (k_here; (with_reducible show wpAny _ _ (setItem (Value.ref _) (Value.int (@Nat.cast Int _ _) _) (Value.int _ _)) _ _ _); k_dflt (refine' my_setAt ?F ?N ?U ?i ?l ?z ?_; (case F => k_asm); (case N => k_asm); (case U => k_upd); (case i => with_reducible assumption); (case l => omega); (case z => omega); k_whole); intro h' F' N' hi'; (try dsimp only at N')))
local macro_rules | `(tactic| walk_at "subscriptTail") => `(tactic| (k_here; (with_reducible show wpAny _ _ (subscriptTail _ _ (Value.ref _) (Value.int (-1) _)) _ _ _); k_dflt (refine' my_lastItem ?N ?m ?i ?l ?_ ?r; (case N => k_asm); (case m => k_mem); (case i => with_reducible assumption); (case l => assumption); (case r => with_unfolding_all rfl); k_whole); intro _))
local macro_rules | `(tactic| walk_at "call builtin:list.pop") => `(tactic| (k_here; (with_reducible show wpAny _ _ (call (Value.builtin _) [Value.ref _]) _ _ _); k_dflt (refine' my_popLast ?F ?N ?U ?i ?l ?z ?_; (case F => k_asm); (case N => k_asm); (case U => k_upd); (case i => with_reducible assumption); (case l => (try simp only [List.length_set]); omega); (case z => (try simp only [List.length_set]); omega); k_whole); intro h' t' F' N' hi'; (try dsimp only at N')))
local macro_rules | `(tactic| walk_at "call ref") => `(tactic| ((with_reducible show wpAny _ _ (call (Value.ref _) [Value.ref _]) _ _ _); with_reducible refine hold_choice (by with_reducible assumption) ?_))
local macro_rules | `(tactic| walk_at "FnAt") => `(tactic| (k_dflt (exact fnAt_of (by k_asm) (by k_mem) (by with_reducible assumption))))
local macro_rules | `(tactic| walk_at "call builtin:len") => `(tactic| (k_here; (with_reducible show wpAny _ _ (call (Value.builtin "len") [Value.ref _]) _ _ _); k_dflt (refine' my_lenL ?N ?m ?i ?z ?_; (case N => k_asm); (case m => k_mem); (case i => (kpa_letter; with_reducible assumption)); (case z => (try simp only [List.length_dropLast, List.length_set]); omega); k_whole)))
local macro_rules | `(tactic| walk_at "compareOp Eq ref ref") => `(tactic| (k_here; (with_reducible show wpAny _ _ (compareOp CmpOp.Eq (Value.ref _) (Value.ref _)) _ _ _); k_dflt (refine' my_eqNil ?N ?a ?i ?ne ?b ?u ?_; (case N => k_asm); (case a => k_mem); (case i => (kpa_letter; with_reducible assumption)); (case ne => with_reducible assumption); (case b => k_mem); (case u => units_room); k_whole)))
local macro_rules | `(tactic| walk_at "call type:set cons nil") => `(tactic| (k_here; (with_reducible show wpAny _ _ (call (Value.type "set") [Value.ref _]) _ _ _); k_dflt (refine' my_setNodup ?F ?N ?h ?m ?i ?d ?z ?_; (case F => k_asm); (case N => k_asm); (case h => exact rfl); (case m => k_mem); (case i => (kpa_letter; with_reducible assumption)); (case d => with_reducible assumption); (case z => omega); k_whole); intro d' h' tk' o' S' F' N' l1 hs'; (try k_lt l1)))
local macro_rules | `(tactic| walk_at "pyIter ref") => `(tactic| (refine hold_mark (by with_reducible assumption) ?_))
local macro_rules | `(tactic| walk_at "compareOp IsNot ref ref") => `(tactic| ((with_reducible show wpAny _ _ (compareOp CmpOp.IsNot (Value.ref _) (Value.ref _)) _ _ _); with_reducible refine wpAny_isNot_ref_self ?_))
local macro_rules | `(tactic| walk_at "exec While") => `(tactic| (k_here; k_dflt (refine whl_start 100 ?_)))
local macro_rules | `(tactic| walk_at "getMethod ref") => `(tactic| (k_here; (with_reducible show wpAny _ _ (getMethod (Value.ref _) (PySem.Str.ofString "_RRCache__choice") _) _ _ _); k_dflt (refine' kmu_own ?k1 ?k2 ?k3 ?k4 ?k5 ?_; (case k1 => k_asm); (case k2 => k_asm); (case k3 => k_inst); (case k4 => k_is); (case k5 => k_is); k_whole)))
local macro_rules | `(tactic| walk_at "eval Name") => `(tactic| (k_here; k_dflt (first | (refine' nameX_L ?F ?v ?_ ?a ?b; (case F => k_asm); (case a => rfl); (case b => rfl); (case v => rfl); k_whole) | (refine' nameX_K ?F ?X ?T ?e ?_ ?a ?b; (case F => k_asm); (case X => k_asm); (case T => k_asm); (case a => rfl); (case b => rfl); (case e => k_is); k_whole))))
-- END LINES

-- part X_cache_hit
section
example : Keeps PySem.Challenge.rw_fc0037_01 hd.heap_39 := by
  w_top off
  k_fill
  trivial
theorem cache_hit (w : World) (c d a : Nat) (o : Obj) (kvs : List (Int × Value)) (x i n k x0 : Int) (v v0 vo : Value) (t u t1 t2 t3 t4 t5 : Tok)
    (ho : o.IsDictOf (PySem.intKind PR w) kvs) (la : (a == sysModules) = false) (hdc : d < c) (hca : c < a) (hsz : kvs.length ≤ 100) (hv : valueAt kvs x = some v) :
    Spec w 303 10 794 [.ref c, .int x t, .int i u] [(c, instObj 830 d), (d, cacheD w t1 t2 t3 t4 t5 a n k), (a, o)]
      (fun r need => r = v ∧ need = [(c, instObj 830 d), (d, cacheD w t1 t2 t3 t4 t5 a n k), (a, o)]) := by
  refine' spec_enter (binds := [(Str.ofString "self", .ref c), (Str.ofString "key", .int x t), (Str.ofString "default", .int i u)]) ?k6 ?k7 ?k8 ?k9 ?kB ?_ ?c2 ?c3 ?c4 ?c5
  walk_at "my enter"
  k_steps
  dsimp only
  exact left_intro (by assumption) (by assumption) [(c, _), (d, _), (a, _)] (by k_subL) ⟨rfl, rfl⟩
end

-- part X_cache_new
section
theorem cache_new (w : World) (c d a : Nat) (o : Obj) (kvs : List (Int × Value)) (x i n k x0 : Int) (v v0 vo : Value) (t u t1 t2 t3 t4 t5 : Tok)
    (ho : o.IsDictOf (PySem.intKind PR w) kvs) (la : (a == sysModules) = false) (hdc : d < c) (hca : c < a) (hsz : kvs.length ≤ 100) (hv : valueAt kvs x = none) (hk : 1 ≤ k) (hk2 : k ≤ 100) (hn : n + 1 ≤ k) (hn0 : 0 ≤ n) :
    Spec w 303 10 794 [.ref c, .int x t, .int i u] [(c, instObj 830 d), (d, cacheD w t1 t2 t3 t4 t5 a n k), (a, o)]
      (fun r need => r = .int i u ∧ ∃ t3 o n', need = [(c, instObj 830 d), (d, cacheD w t1 t2 t3 t4 t5 a n' k), (a, o)] ∧ o.IsDictOf (PySem.intKind PR w) (stored kvs x (.int i u)) ∧ n' = n + 1) := by
  refine' spec_enter (binds := [(Str.ofString "self", .ref c), (Str.ofString "key", .int x t), (Str.ofString "default", .int i u)]) ?k6 ?k7 ?k8 ?k9 ?kB ?_ ?c2 ?c3 ?c4 ?c5
  walk_at "my enter"
  k_steps
  dsimp only
  exact left_intro (by assumption) (by assumption) [(c, _), (d, _), (a, _)] (by k_subL) ⟨rfl, _, _, _, rfl, by assumption, by omega⟩
end

-- part X_cache_full
section
theorem cache_full (w : World) (c d a : Nat) (o : Obj) (kvs : List (Int × Value)) (x i n k x0 : Int) (v v0 vo : Value) (t u t1 t2 t3 t4 t5 : Tok)
    (ho : o.IsDictOf (PySem.intKind PR w) kvs) (la : (a == sysModules) = false) (hdc : d < c) (hca : c < a) (hsz : kvs.length ≤ 100) (hv : valueAt kvs x = none) (hk : 1 ≤ k) (hk2 : k ≤ 100) (h0 : kvs[0]? = some (x0, v0)) (hv0 : valueAt kvs x0 = some v0) (hvx : valueAt (without kvs x0) x = none) :
    Spec w 303 10 794 [.ref c, .int x t, .int i u] [(c, instObj 830 d), (d, cacheD w t1 t2 t3 t4 t5 a k k), (a, o)]
      (fun r need => r = .int i u ∧ ∃ t3 o n', need = [(c, instObj 830 d), (d, cacheD w t1 t2 t3 t4 t5 a n' k), (a, o)] ∧ o.IsDictOf (PySem.intKind PR w) (stored (without kvs x0) x (.int i u)) ∧ n' = k) := by
  refine' spec_enter (binds := [(Str.ofString "self", .ref c), (Str.ofString "key", .int x t), (Str.ofString "default", .int i u)]) ?k6 ?k7 ?k8 ?k9 ?kB ?_ ?c2 ?c3 ?c4 ?c5
  walk_at "my enter"
  k_steps
  dsimp only
  exact left_intro (by assumption) (by assumption) [(c, _), (d, _), (a, _)] (by k_subL) ⟨rfl, _, _, _, rfl, by assumption, by omega⟩
end

-- part X_fifo_hit
section
theorem fifo_hit (w : World) (c d a b : Nat) (o o2 : Obj) (kvs kvs2 : List (Int × Value)) (x i n k x0 : Int) (v v0 vo : Value) (t u t1 t2 t3 t4 t5 t6 : Tok)
    (ho : o.IsDictOf (PySem.intKind PR w) kvs) (la : (a == sysModules) = false) (hdc : d < c) (hca : c < a) (hsz : kvs.length ≤ 100) (ho2 : o2.IsDictOf (PySem.intKind PR w) kvs2) (lb : (b == sysModules) = false) (hab : a < b) (hsz2 : kvs2.length ≤ 100) (hv : valueAt kvs x = some v) :
    Spec w 303 10 794 [.ref c, .int x t, .int i u] [(c, instObj 882 d), (d, fifoD w t1 t2 t3 t4 t5 t6 a b n k), (a, o), (b, o2)]
      (fun r need => r = v ∧ need = [(c, instObj 882 d), (d, fifoD w t1 t2 t3 t4 t5 t6 a b n k), (a, o), (b, o2)]) := by
  refine' spec_enter (binds := [(Str.ofString "self", .ref c), (Str.ofString "key", .int x t), (Str.ofString "default", .int i u)]) ?k6 ?k7 ?k8 ?k9 ?kB ?_ ?c2 ?c3 ?c4 ?c5
  walk_at "my enter"
  k_steps
  dsimp only
  exact left_intro (by assumption) (by assumption) [(c, _), (d, _), (a, _), (b, _)] (by k_subL) ⟨rfl, rfl⟩
end

-- part X_fifo_new
section
theorem fifo_new (w : World) (c d a b : Nat) (o o2 : Obj) (kvs kvs2 : List (Int × Value)) (x i n k x0 : Int) (v v0 vo : Value) (t u t1 t2 t3 t4 t5 t6 : Tok)
    (ho : o.IsDictOf (PySem.intKind PR w) kvs) (la : (a == sysModules) = false) (hdc : d < c) (hca : c < a) (hsz : kvs.length ≤ 100) (ho2 : o2.IsDictOf (PySem.intKind PR w) kvs2) (lb : (b == sysModules) = false) (hab : a < b) (hsz2 : kvs2.length ≤ 100) (hv : valueAt kvs x = none) (hk : 1 ≤ k) (hk2 : k ≤ 100) (hv2 : valueAt kvs2 x = none) (hn : n + 1 ≤ k) (hn0 : 0 ≤ n) :
    Spec w 303 10 794 [.ref c, .int x t, .int i u] [(c, instObj 882 d), (d, fifoD w t1 t2 t3 t4 t5 t6 a b n k), (a, o), (b, o2)]
      (fun r need => r = .int i u ∧ ∃ t3 o o2 n', need = [(c, instObj 882 d), (d, fifoD w t1 t2 t3 t4 t5 t6 a b n' k), (a, o), (b, o2)] ∧ o.IsDictOf (PySem.intKind PR w) (stored kvs x (.int i u)) ∧ o2.IsDictOf (PySem.intKind PR w) (stored kvs2 x .none) ∧ n' = n + 1) := by
  refine' spec_enter (binds := [(Str.ofString "self", .ref c), (Str.ofString "key", .int x t), (Str.ofString "default", .int i u)]) ?k6 ?k7 ?k8 ?k9 ?kB ?_ ?c2 ?c3 ?c4 ?c5
  walk_at "my enter"
  k_steps
  dsimp only
  exact left_intro (by assumption) (by assumption) [(c, _), (d, _), (a, _), (b, _)] (by k_subL) ⟨rfl, _, _, _, _, rfl, by assumption, by assumption, by omega⟩
end

-- part X_fifo_full
section
theorem fifo_full (w : World) (c d a b : Nat) (o o2 : Obj) (kvs kvs2 : List (Int × Value)) (x i n k x0 : Int) (v v0 vo : Value) (t u t1 t2 t3 t4 t5 t6 : Tok)
    (ho : o.IsDictOf (PySem.intKind PR w) kvs) (la : (a == sysModules) = false) (hdc : d < c) (hca : c < a) (hsz : kvs.length ≤ 100) (ho2 : o2.IsDictOf (PySem.intKind PR w) kvs2) (lb : (b == sysModules) = false) (hab : a < b) (hsz2 : kvs2.length ≤ 100) (hv : valueAt kvs x = none) (hk : 1 ≤ k) (hk2 : k ≤ 100) (hv2 : valueAt kvs2 x = none) (h0 : kvs2[0]? = some (x0, vo)) (hv0 : valueAt kvs x0 = some v0) (hvx : valueAt (without kvs x0) x = none) (hvo : valueAt kvs2 x0 = some vo) (hvx2 : valueAt (without kvs2 x0) x = none) :
    Spec w 303 10 794 [.ref c, .int x t, .int i u] [(c, instObj 882 d), (d, fifoD w t1 t2 t3 t4 t5 t6 a b k k), (a, o), (b, o2)]
      (fun r need => r = .int i u ∧ ∃ t3 o o2 n', need = [(c, instObj 882 d), (d, fifoD w t1 t2 t3 t4 t5 t6 a b n' k), (a, o), (b, o2)] ∧ o.IsDictOf (PySem.intKind PR w) (stored (without kvs x0) x (.int i u)) ∧ o2.IsDictOf (PySem.intKind PR w) (stored (without kvs2 x0) x .none) ∧ n' = k) := by
  refine' spec_enter (binds := [(Str.ofString "self", .ref c), (Str.ofString "key", .int x t), (Str.ofString "default", .int i u)]) ?k6 ?k7 ?k8 ?k9 ?kB ?_ ?c2 ?c3 ?c4 ?c5
  walk_at "my enter"
  k_steps
  dsimp only
  exact left_intro (by assumption) (by assumption) [(c, _), (d, _), (a, _), (b, _)] (by k_subL) ⟨rfl, _, _, _, _, rfl, by assumption, by assumption, by omega⟩
end

-- part X_lru_touch
section
theorem lru_touch (w : World) (c d a b : Nat) (o2 : Obj) (kvs2 : List (Int × Value)) (x n k : Int) (t t1 t2 t3 t4 t5 t6 : Tok)
    (hdc : d < c) (hca : c < a) (ho2 : o2.IsDictOf (PySem.intKind PR w) kvs2) (lb : (b == sysModules) = false) (hab : a < b) (hsz2 : kvs2.length ≤ 100) (hv2 : valueAt kvs2 x = none) :
    SpecX w 305 16 944 [.ref c, .int x t] [(c, instObj 947 d), (d, lruD w t1 t2 t3 t4 t5 t6 a b n k), (b, o2)]
      (fun r need => ∃ o2, need = [(c, instObj 947 d), (d, lruD w t1 t2 t3 t4 t5 t6 a b n k), (b, o2)] ∧ o2.IsDictOf (PySem.intKind PR w) (stored kvs2 x .none)) := by
  refine' specx_enter (binds := [(Str.ofString "self", .ref c), (Str.ofString "key", .int x t)]) ?k6 ?k7 ?k8 ?k9 ?kB ?_ ?c2 ?c3 ?c4 ?c5
  walk_at "my enterX"
  k_steps
  dsimp only
  exact leftx_intro (by assumption) (by assumption) (by assumption) (by assumption) (by assumption) (by assumption) (by assumption) [(c, _), (d, _), (b, _)] (by k_subL) ⟨_, rfl, by assumption⟩
end

-- part X_lru_set_new
section
theorem lru_set_new (w : World) (c d a b : Nat) (o o2 : Obj) (kvs kvs2 : List (Int × Value)) (x i n k x0 : Int) (v v0 vo : Value) (t u t1 t2 t3 t4 t5 t6 : Tok)
    (hdc : d < c) (hca : c < a) (ho : o.IsDictOf (PySem.intKind PR w) kvs) (la : (a == sysModules) = false) (hsz : kvs.length ≤ 100) (ho2 : o2.IsDictOf (PySem.intKind PR w) kvs2) (lb : (b == sysModules) = false) (hab : a < b) (hsz2 : kvs2.length ≤ 100) (hv : valueAt kvs x = none) (hk : 1 ≤ k) (hk2 : k ≤ 100) (hv2 : valueAt kvs2 x = none) (hn : n + 1 ≤ k) (hn0 : 0 ≤ n) :
    SpecX w 304 13 915 [.ref c, .int x t, .int i u] [(c, instObj 947 d), (d, lruD w t1 t2 t3 t4 t5 t6 a b n k), (a, o), (b, o2)]
      (fun r need => ∃ t3 o o2 n', need = [(c, instObj 947 d), (d, lruD w t1 t2 t3 t4 t5 t6 a b n' k), (a, o), (b, o2)] ∧ o.IsDictOf (PySem.intKind PR w) (stored kvs x (.int i u)) ∧ o2.IsDictOf (PySem.intKind PR w) (stored kvs2 x .none) ∧ n' = n + 1) := by
  refine' specx_enter (binds := [(Str.ofString "self", .ref c), (Str.ofString "key", .int x t), (Str.ofString "value", .int i u), (Str.ofString "cache_setitem", .ref 735)]) ?k6 ?k7 ?k8 ?k9 ?kB ?_ ?c2 ?c3 ?c4 ?c5
  walk_at "my enterX"
  k_steps
  unfold Hold
  refine' specx_use (rest := [(a, _)]) (lru_touch w c d a b _ kvs2 x _ k t t1 _ _ t4 t5 t6 hdc hca ?h2 lb hab ?hs ?hv) ?kB ?kF ?kN ?kX ?kT ?kC ?kA ?kf ?kk ?kn ?kr ?_
  walk_at "my usex"
  case h2 => assumption
  case hs => first | assumption | exact Nat.le_trans without_len hsz2
  case hv => assumption
  rintro v need' g' frs' h' tk' ⟨o2', rfl, hd2'⟩ B' F' N' X' T' C' SU' gno gno2 goff hap
  (try dsimp only [List.cons_append, List.nil_append] at N')
  k_steps
  dsimp only
  exact leftx_intro (by assumption) (by assumption) (by assumption) (by assumption) (by assumption) (by assumption) (by assumption) [(c, _), (d, _), (a, _), (b, _)] (by k_subL) ⟨_, _, _, _, rfl, by assumption, by assumption, by omega⟩
end

-- part X_lru_set_full
section
theorem lru_set_full (w : World) (c d a b : Nat) (o o2 : Obj) (kvs kvs2 : List (Int × Value)) (x i n k x0 : Int) (v v0 vo : Value) (t u t1 t2 t3 t4 t5 t6 : Tok)
    (hdc : d < c) (hca : c < a) (ho : o.IsDictOf (PySem.intKind PR w) kvs) (la : (a == sysModules) = false) (hsz : kvs.length ≤ 100) (ho2 : o2.IsDictOf (PySem.intKind PR w) kvs2) (lb : (b == sysModules) = false) (hab : a < b) (hsz2 : kvs2.length ≤ 100) (hv : valueAt kvs x = none) (hk : 1 ≤ k) (hk2 : k ≤ 100) (hv2 : valueAt kvs2 x = none) (h0 : kvs2[0]? = some (x0, vo)) (hv0 : valueAt kvs x0 = some v0) (hvx : valueAt (without kvs x0) x = none) (hvo : valueAt kvs2 x0 = some vo) (hvx2 : valueAt (without kvs2 x0) x = none) :
    SpecX w 304 13 915 [.ref c, .int x t, .int i u] [(c, instObj 947 d), (d, lruD w t1 t2 t3 t4 t5 t6 a b k k), (a, o), (b, o2)]
      (fun r need => ∃ t3 o o2 n', need = [(c, instObj 947 d), (d, lruD w t1 t2 t3 t4 t5 t6 a b n' k), (a, o), (b, o2)] ∧ o.IsDictOf (PySem.intKind PR w) (stored (without kvs x0) x (.int i u)) ∧ o2.IsDictOf (PySem.intKind PR w) (stored (without kvs2 x0) x .none) ∧ n' = k) := by
  refine' specx_enter (binds := [(Str.ofString "self", .ref c), (Str.ofString "key", .int x t), (Str.ofString "value", .int i u), (Str.ofString "cache_setitem", .ref 735)]) ?k6 ?k7 ?k8 ?k9 ?kB ?_ ?c2 ?c3 ?c4 ?c5
  walk_at "my enterX"
  k_steps
  unfold Hold
  refine' specx_use (rest := [(a, _)]) (lru_touch w c d a b _ (without kvs2 x0) x _ k t t1 _ _ t4 t5 t6 hdc hca ?h2 lb hab ?hs ?hv) ?kB ?kF ?kN ?kX ?kT ?kC ?kA ?kf ?kk ?kn ?kr ?_
  walk_at "my usex"
  case h2 => assumption
  case hs => first | assumption | exact Nat.le_trans without_len hsz2
  case hv => assumption
  rintro v need' g' frs' h' tk' ⟨o2', rfl, hd2'⟩ B' F' N' X' T' C' SU' gno gno2 goff hap
  (try dsimp only [List.cons_append, List.nil_append] at N')
  k_steps
  dsimp only
  exact leftx_intro (by assumption) (by assumption) (by assumption) (by assumption) (by assumption) (by assumption) (by assumption) [(c, _), (d, _), (a, _), (b, _)] (by k_subL) ⟨_, _, _, _, rfl, by assumption, by assumption, by omega⟩
end

-- part X_lru_hit
section
theorem lru_hit (w : World) (c d a b : Nat) (o o2 : Obj) (kvs kvs2 : List (Int × Value)) (x i n k x0 : Int) (v v0 vo : Value) (t u t1 t2 t3 t4 t5 t6 : Tok)
    (ho : o.IsDictOf (PySem.intKind PR w) kvs) (la : (a == sysModules) = false) (hdc : d < c) (hca : c < a) (hsz : kvs.length ≤ 100) (ho2 : o2.IsDictOf (PySem.intKind PR w) kvs2) (lb : (b == sysModules) = false) (hab : a < b) (hsz2 : kvs2.length ≤ 100) (hv : valueAt kvs x = some v) (hv2 : valueAt kvs2 x = some vo) :
    Spec w 303 10 794 [.ref c, .int x t, .int i u] [(c, instObj 947 d), (d, lruD w t1 t2 t3 t4 t5 t6 a b n k), (a, o), (b, o2)]
      (fun r need => r = v ∧ ∃ o2, need = [(c, instObj 947 d), (d, lruD w t1 t2 t3 t4 t5 t6 a b n k), (a, o), (b, o2)] ∧ o2.IsDictOf (PySem.intKind PR w) (stored (without kvs2 x) x vo)) := by
  refine' spec_enter (binds := [(Str.ofString "self", .ref c), (Str.ofString "key", .int x t), (Str.ofString "default", .int i u)]) ?k6 ?k7 ?k8 ?k9 ?kB ?_ ?c2 ?c3 ?c4 ?c5
  walk_at "my enter"
  k_steps
  dsimp only
  exact left_intro (by assumption) (by assumption) [(c, _), (d, _), (a, _), (b, _)] (by k_subL) ⟨rfl, _, rfl, by assumption⟩
end

-- part X_lru_new
section
theorem lru_new (w : World) (c d a b : Nat) (o o2 : Obj) (kvs kvs2 : List (Int × Value)) (x i n k x0 : Int) (v v0 vo : Value) (t u t1 t2 t3 t4 t5 t6 : Tok)
    (hdc : d < c) (hca : c < a) (ho : o.IsDictOf (PySem.intKind PR w) kvs) (la : (a == sysModules) = false) (hsz : kvs.length ≤ 100) (ho2 : o2.IsDictOf (PySem.intKind PR w) kvs2) (lb : (b == sysModules) = false) (hab : a < b) (hsz2 : kvs2.length ≤ 100) (hv : valueAt kvs x = none) (hk : 1 ≤ k) (hk2 : k ≤ 100) (hv2 : valueAt kvs2 x = none) (hn : n + 1 ≤ k) (hn0 : 0 ≤ n) :
    SpecX w 303 10 794 [.ref c, .int x t, .int i u] [(c, instObj 947 d), (d, lruD w t1 t2 t3 t4 t5 t6 a b n k), (a, o), (b, o2)]
      (fun r need => r = .int i u ∧ ∃ t3 o o2 n', need = [(c, instObj 947 d), (d, lruD w t1 t2 t3 t4 t5 t6 a b n' k), (a, o), (b, o2)] ∧ o.IsDictOf (PySem.intKind PR w) (stored kvs x (.int i u)) ∧ o2.IsDictOf (PySem.intKind PR w) (stored kvs2 x .none) ∧ n' = n + 1) := by
  refine' specx_enter (binds := [(Str.ofString "self", .ref c), (Str.ofString "key", .int x t), (Str.ofString "default", .int i u)]) ?k6 ?k7 ?k8 ?k9 ?kB ?_ ?c2 ?c3 ?c4 ?c5
  walk_at "my enterX"
  k_steps
  unfold Hold
  refine' specx_use (rest := []) (lru_set_new w c d a b o o2 kvs kvs2 x i n k x0 v v0 vo t u t1 t2 t3 t4 t5 t6 hdc hca ho la hsz ho2 lb hab hsz2 hv hk hk2 hv2 hn hn0) ?kB ?kF ?kN ?kX ?kT ?kC ?kA ?kf ?kk ?kn ?kr ?_
  walk_at "my usex"
  rintro v need' g' frs' h' tk' ⟨t3', o', o2', n', rfl, hd', hd2', hn'⟩ B' F' N' X' T' C' SU' gno gno2 goff hap
  (try dsimp only [List.cons_append, List.nil_append] at N')
  k_steps
  dsimp only
  exact leftx_intro (by assumption) (by assumption) (by assumption) (by assumption) (by assumption) (by assumption) (by assumption) [(c, _), (d, _), (a, _), (b, _)] (by k_subL) ⟨rfl, _, _, _, _, rfl, by assumption, by assumption, by omega⟩
end

-- part X_lru_full
section
theorem lru_full (w : World) (c d a b : Nat) (o o2 : Obj) (kvs kvs2 : List (Int × Value)) (x i n k x0 : Int) (v v0 vo : Value) (t u t1 t2 t3 t4 t5 t6 : Tok)
    (hdc : d < c) (hca : c < a) (ho : o.IsDictOf (PySem.intKind PR w) kvs) (la : (a == sysModules) = false) (hsz : kvs.length ≤ 100) (ho2 : o2.IsDictOf (PySem.intKind PR w) kvs2) (lb : (b == sysModules) = false) (hab : a < b) (hsz2 : kvs2.length ≤ 100) (hv : valueAt kvs x = none) (hk : 1 ≤ k) (hk2 : k ≤ 100) (hv2 : valueAt kvs2 x = none) (h0 : kvs2[0]? = some (x0, vo)) (hv0 : valueAt kvs x0 = some v0) (hvx : valueAt (without kvs x0) x = none) (hvo : valueAt kvs2 x0 = some vo) (hvx2 : valueAt (without kvs2 x0) x = none) :
    SpecX w 303 10 794 [.ref c, .int x t, .int i u] [(c, instObj 947 d), (d, lruD w t1 t2 t3 t4 t5 t6 a b k k), (a, o), (b, o2)]
      (fun r need => r = .int i u ∧ ∃ t3 o o2 n', need = [(c, instObj 947 d), (d, lruD w t1 t2 t3 t4 t5 t6 a b n' k), (a, o), (b, o2)] ∧ o.IsDictOf (PySem.intKind PR w) (stored (without kvs x0) x (.int i u)) ∧ o2.IsDictOf (PySem.intKind PR w) (stored (without kvs2 x0) x .none) ∧ n' = k) := by
  refine' specx_enter (binds := [(Str.ofString "self", .ref c), (Str.ofString "key", .int x t), (Str.ofString "default", .int i u)]) ?k6 ?k7 ?k8 ?k9 ?kB ?_ ?c2 ?c3 ?c4 ?c5
  walk_at "my enterX"
  k_steps
  unfold Hold
  refine' specx_use (rest := []) (lru_set_full w c d a b o o2 kvs kvs2 x i n k x0 v v0 vo t u t1 t2 t3 t4 t5 t6 hdc hca ho la hsz ho2 lb hab hsz2 hv hk hk2 hv2 h0 hv0 hvx hvo hvx2) ?kB ?kF ?kN ?kX ?kT ?kC ?kA ?kf ?kk ?kn ?kr ?_
  walk_at "my usex"
  rintro v need' g' frs' h' tk' ⟨t3', o', o2', n', rfl, hd', hd2', hn'⟩ B' F' N' X' T' C' SU' gno gno2 goff hap
  (try dsimp only [List.cons_append, List.nil_append] at N')
  k_steps
  dsimp only
  exact leftx_intro (by assumption) (by assumption) (by assumption) (by assumption) (by assumption) (by assumption) (by assumption) [(c, _), (d, _), (a, _), (b, _)] (by k_subL) ⟨rfl, _, _, _, _, rfl, by assumption, by assumption, by omega⟩
end

-- part X_rr_hit
section
theorem rr_hit (w : World) (c d a b l f : Nat) (o oi : Obj) (kvs kvi : List (Int × Value)) (vs : List Value) (ks : List Int) (ep : Nat) (x i n k : Int) (v : Value) (t u t1 t2 t3 t4 t5 t6 t7 t8 : Tok)
    (hdc : d < c) (hca : c < a) (hab : a < b) (hbl : b < l) (ho : o.IsDictOf (PySem.intKind PR w) kvs) (la : (a == sysModules) = false) (hsz : kvs.length ≤ 100) (hoi : oi.IsDictOf (PySem.intKind PR w) kvi) (lb : (b == sysModules) = false) (hszi : kvi.length ≤ 100) (hvs : IntsAre vs ks) (hks : ks.length ≤ 100) (hv : valueAt kvs x = some v) :
    Spec w 303 10 794 [.ref c, .int x t, .int i u] [(c, instObj 1005 d), (d, rrD w t1 t2 t3 t4 t5 t6 t7 t8 a f b l n k), (a, o), (b, oi), (l, listOf vs.toArray ep)]
      (fun r need => r = v ∧ need = [(c, instObj 1005 d), (d, rrD w t1 t2 t3 t4 t5 t6 t7 t8 a f b l n k), (a, o), (b, oi), (l, listOf vs.toArray ep)]) := by
  refine' spec_enter (binds := [(Str.ofString "self", .ref c), (Str.ofString "key", .int x t), (Str.ofString "default", .int i u)]) ?k6 ?k7 ?k8 ?k9 ?kB ?_ ?c2 ?c3 ?c4 ?c5
  walk_at "my enter"
  k_steps
  dsimp only
  exact left_intro (by assumption) (by assumption) [(c, _), (d, _), (a, _), (b, _), (l, _)] (by k_subL) ⟨rfl, rfl⟩
end

-- part X_rr_new
section
theorem rr_new (w : World) (c d a b l f : Nat) (o oi : Obj) (kvs kvi : List (Int × Value)) (vs : List Value) (ks : List Int) (ep : Nat) (x i n k : Int) (v : Value) (t u t1 t2 t3 t4 t5 t6 t7 t8 : Tok)
    (hdc : d < c) (hca : c < a) (hab : a < b) (hbl : b < l) (ho : o.IsDictOf (PySem.intKind PR w) kvs) (la : (a == sysModules) = false) (hsz : kvs.length ≤ 100) (hoi : oi.IsDictOf (PySem.intKind PR w) kvi) (lb : (b == sysModules) = false) (hszi : kvi.length ≤ 100) (hvs : IntsAre vs ks) (hks : ks.length ≤ 100) (hv : valueAt kvs x = none) (hvi : valueAt kvi x = none) (hk : 1 ≤ k) (hk2 : k ≤ 100) (hn : n + 1 ≤ k) (hn0 : 0 ≤ n) :
    Spec w 303 10 794 [.ref c, .int x t, .int i u] [(c, instObj 1005 d), (d, rrD w t1 t2 t3 t4 t5 t6 t7 t8 a f b l n k), (a, o), (b, oi), (l, listOf vs.toArray ep)]
      (fun r need => r = .int i u ∧ ∃ t3 o oi vs' ep' n' ti, need = [(c, instObj 1005 d), (d, rrD w t1 t2 t3 t4 t5 t6 t7 t8 a f b l n' k), (a, o), (b, oi), (l, listOf vs'.toArray ep')] ∧ o.IsDictOf (PySem.intKind PR w) (stored kvs x (.int i u)) ∧ oi.IsDictOf (PySem.intKind PR w) (stored kvi x (.int (ks.length : Nat) ti)) ∧ IntsAre vs' (ks ++ [x]) ∧ n' = n + 1) := by
  refine' spec_enter (binds := [(Str.ofString "self", .ref c), (Str.ofString "key", .int x t), (Str.ofString "default", .int i u)]) ?k6 ?k7 ?k8 ?k9 ?kB ?_ ?c2 ?c3 ?c4 ?c5
  walk_at "my enter"
  k_steps
  dsimp only
  exact left_intro (by assumption) (by assumption) [(c, _), (d, _), (a, _), (b, _), (l, W.listOf (vs.toArray.push (.int x t)).toList.toArray _)] (by k_subL) ⟨rfl, _, _, _, (vs.toArray.push (.int x t)).toList, _, _, _, rfl, by assumption, by assumption, by simpa using IntsAre.append hvs (.cons x t .nil), by omega⟩
end

-- part X_choice
section
theorem mem_getD {n' ks : List Int} (p : n'.Perm ks) (hk : 0 < ks.length) (z : Int) : n'.getD (z.fmod (ks.length : Nat)).toNat 0 ∈ ks := by
  have h1 := fmod_lo z (n := (ks.length : Nat)) (by omega)
  have h2 := fmod_hi z (n := (ks.length : Nat)) (by omega)
  have hlt : (z.fmod (ks.length : Nat)).toNat < n'.length := by rw [p.length_eq]; omega
  refine p.mem_iff.mp ?_
  rw [List.getD_eq_getElem?_getD, List.getElem?_eq_getElem hlt]
  exact List.getElem_mem hlt
theorem choice_ok (w : World) (f cc ce dw l : Nat) (qual : Str) (doc pm ctv : Value) (oc co : Obj) (vs₁ : Array Value) (t₁ : Tok)
    (hd1 : oc.data = .fields vs₁) (hd2 : vs₁[1]? = some (.str qual t₁)) (hco : co.data = .cell (some (.ref dw))) (h1 : dw < cc) (h2 : cc < f) (h3 : f < l) (h4 : ce < dw) :
    ChoiceOk w f (fnMade (Str.ofString "choice") qual choiceParts.1 choiceParts.2.1 choiceParts.2.2 [(Str.ofString "draw", ce)] doc pm cc ctv) cc oc ce co dw l := by
  intro vs ks ep zv zs e3 hvs hk0 hk1 hzv hzs
  generalize hc : choiceParts = cP
  conv at hc => lhs; whnf
  subst hc
  dsimp only
  refine' spec_enter_made (binds := [(Str.ofString "held", .ref l)]) (.head _) (.tail _ (.head _)) hd1 hd2 (by decide) ?k9 ?kB ?_ ?c2 ?c3 ?c4 ?c5
  case k9 => exact fun _ => BindsTo.of_eq rfl
  case c5 => decide +kernel
  case kB => exact locs rfl
  case c2 => exact rfl
  case c3 => exact rfl
  case c4 => exact rfl
  intro p loose mean mg mb envs base g L h s F N B X T lw
  k_lt lw
  (try dsimp only [List.length_cons, List.length_nil, List.reverse_cons, List.reverse_nil, List.nil_append, List.cons_append, AR] at *)
  k_steps
  (with_reducible rename List.Perm _ _ => hp)
  exact left_intro (by assumption) (by assumption) [(f, _), (cc, _), (ce, _), (dw, _), (l, _)] (by k_subL) ⟨⟨_, _, mem_getD hp hk0 _, rfl⟩, rfl⟩
end

-- part X_rr_full
section
theorem rr_full (w : World) (c d a b l f cc ce dw : Nat) (o oi oc co fo : Obj) (kvs kvi : List (Int × Value)) (vs zv : List Value) (ks zs : List Int) (ep e3 : Nat) (x i k : Int) (t u t1 t2 t3 t4 t5 t6 t7 t8 : Tok)
    (h4 : ce < dw) (h1 : dw < cc) (h2 : cc < f) (h3 : f < d) (hdc : d < c) (hca : c < a) (hab : a < b) (hbl : b < l) (ho : o.IsDictOf (PySem.intKind PR w) kvs) (la : (a == sysModules) = false) (hsz : kvs.length ≤ 60) (hoi : oi.IsDictOf (PySem.intKind PR w) kvi) (lb : (b == sysModules) = false) (hszi : kvi.length ≤ 60) (hvs : IntsAre vs ks) (hks : (ks.length : Int) = k) (hv : valueAt kvs x = none) (hvi : valueAt kvi x = none) (hk : 1 ≤ k) (hk2 : k ≤ 60)
    (hzv : IntsAre zv zs) (hzs : zs.length = 1) (R : RIdx ks kvi) (hall : ∀ y ∈ ks, ∃ v, valueAt kvs y = some v)
    (hfn : FnObj fo) (hch : ChoiceOk w f (fo) cc oc ce co dw l) :
    Spec w 303 10 794 [.ref c, .int x t, .int i u] [(c, instObj 1005 d), (d, rrD w t1 t2 t3 t4 t5 t6 t7 t8 a f b l k k), (a, o), (b, oi), (l, listOf vs.toArray ep), (f, fo), (cc, oc), (ce, co), (dw, listOf zv.toArray e3)]
      (fun r need => r = .int i u ∧ ∃ y t3 o oi vs' ks' kvi' ep' n', y ∈ ks ∧ need = [(c, instObj 1005 d), (d, rrD w t1 t2 t3 t4 t5 t6 t7 t8 a f b l n' k), (a, o), (b, oi), (l, listOf vs'.toArray ep'), (f, fo), (cc, oc), (ce, co), (dw, listOf zv.toArray e3)] ∧ o.IsDictOf (PySem.intKind PR w) (stored (without kvs y) x (.int i u)) ∧ oi.IsDictOf (PySem.intKind PR w) kvi' ∧ IntsAre vs' ks' ∧ n' = k ∧ RIdx ks' kvi' ∧ (∀ z, z ∈ ks' ↔ z = x ∨ (z ∈ ks ∧ z ≠ y)) ∧ ks'.length = ks.length ∧ kvi'.length ≤ kvi.length + 2) := by
  refine' spec_enter (binds := [(Str.ofString "self", .ref c), (Str.ofString "key", .int x t), (Str.ofString "default", .int i u)]) ?k6 ?k7 ?k8 ?k9 ?kB ?_ ?c2 ?c3 ?c4 ?c5
  walk_at "my enter"
  k_steps
  unfold Hold
  refine' spec_use (rest := [(c, _), (d, _), (a, _), (b, _)]) (hch vs ks ep zv zs e3 hvs (by omega) (by omega) hzv hzs) ?kB ?kF ?kN ?kX ?kT ?kA ?kf ?kk ?kn ?kr ?_
  walk_at "my use"
  rintro v need' h' tk' ⟨⟨y, ty, hy, rfl⟩, rfl⟩ F' N' hap
  (try dsimp only [List.cons_append, List.nil_append] at N')
  obtain ⟨vy, hvy⟩ := hall y hy
  obtain ⟨pl, tp, hpi, hpk⟩ := R.idx y hy
  have hpl := (List.getElem?_eq_some_iff.mp hpk).1
  have hvl := hvs.length
  have hxy : x ≠ y := fun e => by rw [e, hvy] at hv; cases hv
  have hxk : x ∉ ks := fun h => by
    obtain ⟨v, hv'⟩ := hall x h
    rw [hv] at hv'; cases hv'
  have hvx := without_none (k := y) hv
  have hvi1 := without_none (k := y) hvi
  have hwl : (without kvs y).length ≤ 60 := Nat.le_trans without_len hsz
  have hwi : (without kvi y).length ≤ 60 := Nat.le_trans without_len hszi
  obtain ⟨last, hlast⟩ : ∃ last, ks[ks.length - 1]? = some last := ⟨_, List.getElem?_eq_getElem (by omega)⟩
  by_cases hpe : pl + 1 = ks.length
  · k_steps
    dsimp only
    obtain ⟨R1, R2⟩ := R.last hpk hpe
    have hx1 : x ∉ ks.dropLast := fun h => hxk ((R2 x).mp h).1
    exact left_intro (by assumption) (by assumption) [(c, _), (d, _), (a, _), (b, _), (l, W.listOf (vs.dropLast.toArray.push (.int x t)).toList.toArray _), (f, _), (cc, _), (ce, _), (dw, _)] (by k_subL) ⟨rfl, y, _, _, _, (vs.dropLast.toArray.push (.int x t)).toList, ks.dropLast ++ [x], _, _, _, hy, rfl, by assumption, by assumption, ints_push (by assumption) _ _, by omega, R1.new hx1 _, fun z => by rw [List.mem_append, List.mem_singleton, R2, or_comm], by simp only [List.length_append, List.length_dropLast, List.length_cons, List.length_nil]; omega, len_one⟩
  · have hlx : last ≠ x := fun e => hxk (by rw [← e]; exact mem_at.mpr ⟨_, hlast⟩)
    have hvi2 : valueAt (stored (without kvi y) last (.int (pl : Int) tp)) x = none := by rw [va_stored, if_neg hlx]; exact hvi1
    k_steps
    dsimp only
    obtain ⟨R1, R2⟩ := R.swap hpk hpe hlast tp
    have hx1 : x ∉ (ks.set pl last).dropLast := fun h => hxk ((R2 x).mp h).1
    exact left_intro (by assumption) (by assumption) [(c, _), (d, _), (a, _), (b, _), (l, W.listOf ((List.set vs pl (.int last _)).dropLast.toArray.push (.int x t)).toList.toArray _), (f, _), (cc, _), (ce, _), (dw, _)] (by k_subL) ⟨rfl, y, _, _, _, _, (ks.set pl last).dropLast ++ [x], _, _, _, hy, rfl, by assumption, by assumption, ints_push (by assumption) _ _, by omega, R1.new hx1 _, fun z => by rw [List.mem_append, List.mem_singleton, R2, or_comm], by simp only [List.length_append, List.length_dropLast, List.length_set, List.length_cons, List.length_nil]; omega, len_two⟩
end

-- part X_serve_cache
section
theorem serve_cache (w : World) (c d a rw dr dw : Nat) (o : Obj) (rvs dvs : List Value) (row draws : List Int) (e1 e2 e3 kn : Nat) (zv : List Value) (zs : List Int) (t1 t2 t3 t4 t5 : Tok)
    (hdc : d < c) (hca : c < a) (ho : o.IsDictOf (PySem.intKind PR w) []) (la : (a == sysModules) = false) (hk : 1 ≤ kn) (hk2 : kn ≤ 100) (hrv : IntsAre rvs row) (hdv : IntsAre dvs draws) (hlen : draws.length = row.length) (hlen2 : row.length ≤ 12) (hzv : IntsAre zv zs) (hzs : zs.length = 1)
    (h1 : rw ≠ dr) (h2 : dr < dw) (h2r : rw < dw) (h3 : dw < d) :
    SpecX w 302 7 1021 [.ref c, .ref rw, .ref dr, .ref dw] [(c, instObj 830 d), (d, cacheD w t1 t2 t3 t4 t5 a 0 (kn : Int)), (a, o), (rw, W.listOf rvs.toArray e1), (dr, W.listOf dvs.toArray e2), (dw, W.listOf zv.toArray e3)]
      (fun r need => ∃ lo lvs loads q e zv zs e3, r = .ref lo ∧ need = [(lo, W.listOf (List.toArray lvs) e), (rw, W.listOf rvs.toArray e1), (dr, W.listOf dvs.toArray e2), (dw, W.listOf (List.toArray zv) e3)] ∧ IntsAre lvs loads ∧ On false kn row.reverse q loads ∧ IntsAre zv zs ∧ zs.length = 1 ∧ rw < lo ∧ dr < lo ∧ dw < lo) := by
  refine' specx_enter (binds := [(Str.ofString "cache", .ref c), (Str.ofString "row", .ref rw), (Str.ofString "draws", .ref dr), (Str.ofString "draw", .ref dw)]) ?k6 ?k7 ?k8 ?k9 ?kB ?_ ?c2 ?c3 ?c4 ?c5
  walk_at "my enterX"
  k_steps
  unfold Hold
  refine for_x (by assumption) rfl rfl ?_
  k_steps
  unfold Hold
  rename_i lAll lo h1' l1' h2' ld h3' oL0 lo' hs' fs' hi' fi' l2' h4' F4' N4' h5' tk5' t1' u1' v1' hr F5 N5 hkeep
  clear fs' fi' hs'
  refine' loop_x (n := row.length) (fun i m₁ news₁ => (∃ u1 u2 : Option Value, m₁ = fun y => if y = Str.ofString "place" then u1 else if y = Str.ofString "key" then u2 else
        if y = Str.ofString "loaded" then some (Value.ref ld) else if y = Str.ofString "loads" then some (Value.ref lo) else
        List.lookup y [(Str.ofString "cache", Value.ref c), (Str.ofString "row", Value.ref rw), (Str.ofString "draws", Value.ref dr), (Str.ofString "draw", Value.ref dw)].reverse) ∧
      ∃ (t3' : Tok) (o' oL : Obj) (kvs kvsL : List (Int × Value)) (q loads : List Int) (lvs : List Value) (e e' : Nat) (zv' : List Value) (zs' : List Int) (n' : Int),
        news₁ = [(ld, oL), (lo, W.listOf lvs.toArray e), (c, instObj 830 d), (d, cacheD w t1 t2 t3' t4 t5 a n' (kn : Int)), (a, o'), (rw, W.listOf rvs.toArray e1), (dr, W.listOf dvs.toArray e2), (dw, W.listOf zv'.toArray e')] ∧
        o'.IsDictOf (PySem.intKind PR w) kvs ∧ oL.IsDictOf (PySem.intKind PR w) kvsL ∧ IntsAre lvs loads ∧ Inv false kn (row.take i).reverse q loads kvs kvsL ∧ kvs.map (·.1) = q ∧ n' = (kvs.length : Nat) ∧ IntsAre zv' zs' ∧ zs'.length = 1)
    ?C ?B ?X ?T ?F ?N rfl hr ?small ?hn ?hj ?turn ?done
  case C => assumption
  case B => assumption
  case X => exact Und.x (by assumption)
  case T => exact Und.t (by assumption)
  case F => assumption
  case N => assumption
  case small => exact small_one (by omega) (by omega) (by omega) (by omega)
  case hn => rw [rangeSize_nat]; omega
  case hj => exact ⟨⟨none, none, frame_start rfl rfl⟩, _, o, oL0, [], [], [], [], [], _, _, _, _, _, rfl, ho, hi', .nil, .start, rfl, rfl, hzv, hzs⟩
  case done =>
    intro m₁ news₁ h tk g₁ frs₁ hJ B1 X1 T1 C1 SU1 no1 no2 off1 F1 N1
    obtain ⟨⟨u1, u2, rfl⟩, t3', o', oL, kvs, kvsL, q, loads, lvs, e, e', zv', zs', n', rfl, ho', hoL, hlv, hInv, hord, hn', hzv', hzs'⟩ := hJ
    k_steps
    dsimp only
    exact leftx_intro C1 SU1 no1 no2 off1 (by assumption) (by assumption) [(lo, _), (rw, _), (dr, _), (dw, _)] (by k_subL) ⟨lo, lvs, loads, q, _, zv', zs', _, rfl, rfl, hlv, by have := hInv.run; rwa [List.take_length] at this, hzv', hzs', by omega, by omega, by omega⟩
  case turn =>
    intro I i m₁ news₁ t h tk g₁ frs₁ hI hi hJ B1 X1 T1 C1 F1 N1
    obtain ⟨⟨u1, u2, rfl⟩, t3', o', oL, kvs, kvsL, q, loads, lvs, e, e', zv', zs', n', rfl, ho', hoL, hlv, hInv, hord, hn', hzv', hzs'⟩ := hJ
    k_lt hI
    have hlq := hInv.lenq (by omega)
    have hlL := hInv.lenL
    have hlO := hInv.lenO
    have hlv2 := hlv.length
    rw [List.length_reverse, List.length_take] at hlL hlO
    rcases hv : valueAt kvs (row.getD ((0 : Int) + (i : Int)).toNat 0) with _ | v
    · by_cases hfull : kvs.length < kn
      · k_steps
        unfold Hold
        refine' spec_use (rest := [(ld, _), (lo, _), (rw, _), (dr, _), (dw, _), (I, _)]) (cache_new w c d a o' kvs _ _ n' (kn : Int) 0 .none .none .none _ _ t1 t2 t3' t4 t5 ho' la hdc hca (by omega) hv (by omega) (by omega) (by omega) (by omega)) ?kB ?kF ?kN ?kX ?kT ?kA ?kf ?kk ?kn ?kr ?_
        walk_at "my use"
        rintro v' need' h' tk' ⟨rfl, t3'', o'', n'', rfl, hd', hn''⟩ F' N' hap
        (try dsimp only [List.cons_append, List.nil_append] at N')
        have hl2 := stored_len (v := .int (0 + (i : Int)) t) hv
        k_steps
        refine turnEnd_intro C1 (PyProof.Rows.TI.SameUp.refl _) (fun _ h => h) (fun _ h => h) (fun _ _ h _ => h) (by assumption) (by assumption) [(ld, _), (lo, _), (c, _), (d, _), (a, _), (rw, _), (dr, _), (dw, _)] (by k_mem) (by k_subL) (by walk_at "my ne") ?_
        exact ⟨⟨_, _, frame_turn⟩, _, _, _, _, _, _, _, _, _, _, _, _, _, rfl, hd', by assumption, IntsAre.append hlv (.cons _ _ .nil), by rw [take_rev hi]; exact hInv.new hv hfull _ _ _, ord_new hord hv _, by omega, by assumption, set_one hzs'⟩
      · obtain ⟨x0, rest, hq⟩ : ∃ x0 rest, q = x0 :: rest := by
          cases q with
          | nil => rw [hInv.len] at hfull; simp at hfull; omega
          | cons x0 rest => exact ⟨x0, rest, rfl⟩
        obtain ⟨v0, hh0, hv0⟩ := ord_head hord hq
        obtain ⟨hvx, hord'⟩ := ord_full hord hq (hInv.run.facts (by omega)).1 hv (.int (0 + (i : Int)) t)
        have hI2 := hInv.full hv hfull hq (by omega) (0 + (i : Int)) t t
        have hkk : n' = (kn : Int) := by omega
        subst hkk
        k_steps
        unfold Hold
        refine' spec_use (rest := [(ld, _), (lo, _), (rw, _), (dr, _), (dw, _), (I, _)]) (cache_full w c d a o' kvs _ _ 0 (kn : Int) x0 .none v0 .none _ _ t1 t2 t3' t4 t5 ho' la hdc hca (by omega) hv (by omega) (by omega) hh0 hv0 hvx) ?kB ?kF ?kN ?kX ?kT ?kA ?kf ?kk ?kn ?kr ?_
        walk_at "my use"
        rintro v' need' h' tk' ⟨rfl, t3'', o'', n'', rfl, hd', hn''⟩ F' N' hap
        (try dsimp only [List.cons_append, List.nil_append] at N')
        have hl2 := hI2.lenq (by omega)
        k_steps
        refine turnEnd_intro C1 (PyProof.Rows.TI.SameUp.refl _) (fun _ h => h) (fun _ h => h) (fun _ _ h _ => h) (by assumption) (by assumption) [(ld, _), (lo, _), (c, _), (d, _), (a, _), (rw, _), (dr, _), (dw, _)] (by k_mem) (by k_subL) (by walk_at "my ne") ?_
        exact ⟨⟨_, _, frame_turn⟩, _, _, _, _, _, _, _, _, _, _, _, _, _, rfl, hd', by assumption, IntsAre.append hlv (.cons _ _ .nil), by rw [take_rev hi]; exact hI2, hord', by have := hI2.len; have := hInv.len; rw [hq] at this; simp at *; omega, by assumption, set_one hzs'⟩
    · obtain ⟨j, tj, tj', rfl, hvL⟩ := hInv.val _ _ hv
      k_steps
      unfold Hold
      refine' spec_use (rest := [(ld, _), (lo, _), (rw, _), (dr, _), (dw, _), (I, _)]) (cache_hit w c d a o' kvs _ _ _ _ 0 _ .none .none _ _ t1 t2 t3' t4 t5 ho' la hdc hca (by omega) hv) ?kB ?kF ?kN ?kX ?kT ?kA ?kf ?kk ?kn ?kr ?_
      walk_at "my use"
      rintro v' need' h' tk' ⟨rfl, rfl⟩ F' N' hap
      (try dsimp only [List.cons_append, List.nil_append] at N')
      k_steps
      refine turnEnd_intro C1 (PyProof.Rows.TI.SameUp.refl _) (fun _ h => h) (fun _ h => h) (fun _ _ h _ => h) (by assumption) (by assumption) [(ld, _), (lo, _), (c, _), (d, _), (a, _), (rw, _), (dr, _), (dw, _)] (by k_mem) (by k_subL) (by walk_at "my ne") ?_
      exact ⟨⟨_, _, frame_turn⟩, _, _, _, _, _, _, _, _, _, _, _, _, _, rfl, ho', hoL, hlv, by rw [take_rev hi]; exact hInv.hit hv (by omega), hord, hn', by assumption, set_one hzs'⟩
end

-- part X_serve_fifo
section
theorem serve_fifo (w : World) (c d a b rw dr dw : Nat) (o o2 : Obj) (rvs dvs : List Value) (row draws : List Int) (e1 e2 e3 kn : Nat) (zv : List Value) (zs : List Int) (t1 t2 t3 t4 t5 t6 : Tok)
    (hdc : d < c) (hca : c < a) (hab : a < b) (ho : o.IsDictOf (PySem.intKind PR w) []) (la : (a == sysModules) = false) (ho2 : o2.IsDictOf (PySem.intKind PR w) []) (lb : (b == sysModules) = false) (hk : 1 ≤ kn) (hk2 : kn ≤ 100) (hrv : IntsAre rvs row) (hdv : IntsAre dvs draws) (hlen : draws.length = row.length) (hlen2 : row.length ≤ 12) (hzv : IntsAre zv zs) (hzs : zs.length = 1)
    (h1 : rw ≠ dr) (h2 : dr < dw) (h2r : rw < dw) (h3 : dw < d) :
    SpecX w 302 7 1021 [.ref c, .ref rw, .ref dr, .ref dw] [(c, instObj 882 d), (d, fifoD w t1 t2 t3 t4 t5 t6 a b 0 (kn : Int)), (a, o), (b, o2), (rw, W.listOf rvs.toArray e1), (dr, W.listOf dvs.toArray e2), (dw, W.listOf zv.toArray e3)]
      (fun r need => ∃ lo lvs loads q e zv zs e3, r = .ref lo ∧ need = [(lo, W.listOf (List.toArray lvs) e), (rw, W.listOf rvs.toArray e1), (dr, W.listOf dvs.toArray e2), (dw, W.listOf (List.toArray zv) e3)] ∧ IntsAre lvs loads ∧ On false kn row.reverse q loads ∧ IntsAre zv zs ∧ zs.length = 1 ∧ rw < lo ∧ dr < lo ∧ dw < lo) := by
  refine' specx_enter (binds := [(Str.ofString "cache", .ref c), (Str.ofString "row", .ref rw), (Str.ofString "draws", .ref dr), (Str.ofString "draw", .ref dw)]) ?k6 ?k7 ?k8 ?k9 ?kB ?_ ?c2 ?c3 ?c4 ?c5
  walk_at "my enterX"
  k_steps
  unfold Hold
  refine for_x (by assumption) rfl rfl ?_
  k_steps
  unfold Hold
  rename_i lAll lo h1' l1' h2' ld h3' oL0 lo' hs' fs' hi' fi' l2' h4' F4' N4' h5' tk5' t1' u1' v1' hr F5 N5 hkeep
  clear fs' fi' hs'
  refine' loop_x (n := row.length) (fun i m₁ news₁ => (∃ u1 u2 : Option Value, m₁ = fun y => if y = Str.ofString "place" then u1 else if y = Str.ofString "key" then u2 else
        if y = Str.ofString "loaded" then some (Value.ref ld) else if y = Str.ofString "loads" then some (Value.ref lo) else
        List.lookup y [(Str.ofString "cache", Value.ref c), (Str.ofString "row", Value.ref rw), (Str.ofString "draws", Value.ref dr), (Str.ofString "draw", Value.ref dw)].reverse) ∧
      ∃ (t3' : Tok) (o' o2' oL : Obj) (kvs kvs2 kvsL : List (Int × Value)) (q loads : List Int) (lvs : List Value) (e e' : Nat) (zv' : List Value) (zs' : List Int) (n' : Int),
        news₁ = [(ld, oL), (lo, W.listOf lvs.toArray e), (c, instObj 882 d), (d, fifoD w t1 t2 t3' t4 t5 t6 a b n' (kn : Int)), (a, o'), (b, o2'), (rw, W.listOf rvs.toArray e1), (dr, W.listOf dvs.toArray e2), (dw, W.listOf zv'.toArray e')] ∧
        o'.IsDictOf (PySem.intKind PR w) kvs ∧ o2'.IsDictOf (PySem.intKind PR w) kvs2 ∧ oL.IsDictOf (PySem.intKind PR w) kvsL ∧ IntsAre lvs loads ∧ Inv false kn (row.take i).reverse q loads kvs kvsL ∧ kvs2.map (·.1) = q ∧ n' = (kvs.length : Nat) ∧ IntsAre zv' zs' ∧ zs'.length = 1)
    ?C ?B ?X ?T ?F ?N rfl hr ?small ?hn ?hj ?turn ?done
  case C => assumption
  case B => assumption
  case X => exact Und.x (by assumption)
  case T => exact Und.t (by assumption)
  case F => assumption
  case N => assumption
  case small => exact small_one (by omega) (by omega) (by omega) (by omega)
  case hn => rw [rangeSize_nat]; omega
  case hj => exact ⟨⟨none, none, frame_start rfl rfl⟩, _, o, o2, oL0, [], [], [], [], [], [], _, _, _, _, _, rfl, ho, ho2, hi', .nil, .start, rfl, rfl, hzv, hzs⟩
  case done =>
    intro m₁ news₁ h tk g₁ frs₁ hJ B1 X1 T1 C1 SU1 no1 no2 off1 F1 N1
    obtain ⟨⟨u1, u2, rfl⟩, t3', o', o2', oL, kvs, kvs2, kvsL, q, loads, lvs, e, e', zv', zs', n', rfl, ho', ho2', hoL, hlv, hInv, hord, hn', hzv', hzs'⟩ := hJ
    k_steps
    dsimp only
    exact leftx_intro C1 SU1 no1 no2 off1 (by assumption) (by assumption) [(lo, _), (rw, _), (dr, _), (dw, _)] (by k_subL) ⟨lo, lvs, loads, q, _, zv', zs', _, rfl, rfl, hlv, by have := hInv.run; rwa [List.take_length] at this, hzv', hzs', by omega, by omega, by omega⟩
  case turn =>
    intro I i m₁ news₁ t h tk g₁ frs₁ hI hi hJ B1 X1 T1 C1 F1 N1
    obtain ⟨⟨u1, u2, rfl⟩, t3', o', o2', oL, kvs, kvs2, kvsL, q, loads, lvs, e, e', zv', zs', n', rfl, ho', ho2', hoL, hlv, hInv, hord, hn', hzv', hzs'⟩ := hJ
    k_lt hI
    have hlq := hInv.lenq (by omega)
    have hlL := hInv.lenL
    have hlO := hInv.lenO
    have hlv2 := hlv.length
    have hl22 := hInv.len2 hord
    rw [List.length_reverse, List.length_take] at hlL hlO
    rcases hv : valueAt kvs (row.getD ((0 : Int) + (i : Int)).toNat 0) with _ | v
    · have hv2 := hInv.none2 hord hv
      by_cases hfull : kvs.length < kn
      · k_steps
        unfold Hold
        refine' spec_use (rest := [(ld, _), (lo, _), (rw, _), (dr, _), (dw, _), (I, _)]) (fifo_new w c d a b o' o2' kvs kvs2 _ _ n' (kn : Int) 0 .none .none .none _ _ t1 t2 t3' t4 t5 t6 ho' la hdc hca (by omega) ho2' lb hab (by omega) hv (by omega) (by omega) hv2 (by omega) (by omega)) ?kB ?kF ?kN ?kX ?kT ?kA ?kf ?kk ?kn ?kr ?_
        walk_at "my use"
        rintro v' need' h' tk' ⟨rfl, t3'', o'', o2'', n'', rfl, hd', hd2', hn''⟩ F' N' hap
        (try dsimp only [List.cons_append, List.nil_append] at N')
        have hl2 := stored_len (v := .int (0 + (i : Int)) t) hv
        k_steps
        refine turnEnd_intro C1 (PyProof.Rows.TI.SameUp.refl _) (fun _ h => h) (fun _ h => h) (fun _ _ h _ => h) (by assumption) (by assumption) [(ld, _), (lo, _), (c, _), (d, _), (a, _), (b, _), (rw, _), (dr, _), (dw, _)] (by k_mem) (by k_subL) (by walk_at "my ne") ?_
        exact ⟨⟨_, _, frame_turn⟩, _, _, _, _, _, _, _, _, _, _, _, _, _, _, _, rfl, hd', hd2', by assumption, IntsAre.append hlv (.cons _ _ .nil), by rw [take_rev hi]; exact hInv.new hv hfull _ _ _, ord_new hord hv2 _, by omega, by assumption, set_one hzs'⟩
      · obtain ⟨x0, rest, hq⟩ : ∃ x0 rest, q = x0 :: rest := by
          cases q with
          | nil => rw [hInv.len] at hfull; simp at hfull; omega
          | cons x0 rest => exact ⟨x0, rest, rfl⟩
        obtain ⟨vo, hh0, hvo⟩ := ord_head hord hq
        obtain ⟨v0, hv0⟩ := hInv.some1 (x := x0) (by rw [hq]; exact .head _)
        have hvx := without_none (k := x0) hv
        obtain ⟨hvx2, hord'⟩ := ord_full hord hq (hInv.run.facts (by omega)).1 hv2 .none
        have hI2 := hInv.full hv hfull hq (by omega) (0 + (i : Int)) t t
        have hkk : n' = (kn : Int) := by omega
        subst hkk
        k_steps
        unfold Hold
        refine' spec_use (rest := [(ld, _), (lo, _), (rw, _), (dr, _), (dw, _), (I, _)]) (fifo_full w c d a b o' o2' kvs kvs2 _ _ 0 (kn : Int) x0 .none v0 vo _ _ t1 t2 t3' t4 t5 t6 ho' la hdc hca (by omega) ho2' lb hab (by omega) hv (by omega) (by omega) hv2 hh0 hv0 hvx hvo hvx2) ?kB ?kF ?kN ?kX ?kT ?kA ?kf ?kk ?kn ?kr ?_
        walk_at "my use"
        rintro v' need' h' tk' ⟨rfl, t3'', o'', o2'', n'', rfl, hd', hd2', hn''⟩ F' N' hap
        (try dsimp only [List.cons_append, List.nil_append] at N')
        have hl2 := hI2.lenq (by omega)
        k_steps
        refine turnEnd_intro C1 (PyProof.Rows.TI.SameUp.refl _) (fun _ h => h) (fun _ h => h) (fun _ _ h _ => h) (by assumption) (by assumption) [(ld, _), (lo, _), (c, _), (d, _), (a, _), (b, _), (rw, _), (dr, _), (dw, _)] (by k_mem) (by k_subL) (by walk_at "my ne") ?_
        exact ⟨⟨_, _, frame_turn⟩, _, _, _, _, _, _, _, _, _, _, _, _, _, _, _, rfl, hd', hd2', by assumption, IntsAre.append hlv (.cons _ _ .nil), by rw [take_rev hi]; exact hI2, hord', by have := hI2.len; have := hInv.len; rw [hq] at this; simp at *; omega, by assumption, set_one hzs'⟩
    · obtain ⟨j, tj, tj', rfl, hvL⟩ := hInv.val _ _ hv
      k_steps
      · unfold Hold
        refine' spec_use (rest := [(ld, _), (lo, _), (rw, _), (dr, _), (dw, _), (I, _)]) (fifo_hit w c d a b o' o2' kvs kvs2 _ _ _ (kn : Int) 0 _ .none .none _ _ t1 t2 t3' t4 t5 t6 ho' la hdc hca (by omega) ho2' lb hab (by omega) hv) ?kB ?kF ?kN ?kX ?kT ?kA ?kf ?kk ?kn ?kr ?_
        walk_at "my use"
        rintro v' need' h' tk' ⟨rfl, rfl⟩ F' N' hap
        (try dsimp only [List.cons_append, List.nil_append] at N')
        k_steps
        refine turnEnd_intro C1 (PyProof.Rows.TI.SameUp.refl _) (fun _ h => h) (fun _ h => h) (fun _ _ h _ => h) (by assumption) (by assumption) [(ld, _), (lo, _), (c, _), (d, _), (a, _), (b, _), (rw, _), (dr, _), (dw, _)] (by k_mem) (by k_subL) (by walk_at "my ne") ?_
        exact ⟨⟨_, _, frame_turn⟩, _, _, _, _, _, _, _, _, _, _, _, _, _, _, _, rfl, ho', ho2', hoL, hlv, by rw [take_rev hi]; exact hInv.hit hv (by omega), hord, hn', by assumption, set_one hzs'⟩
end

-- part X_serve_lru
section
theorem serve_lru (w : World) (c d a b rw dr dw : Nat) (o o2 : Obj) (rvs dvs : List Value) (row draws : List Int) (e1 e2 e3 kn : Nat) (zv : List Value) (zs : List Int) (t1 t2 t3 t4 t5 t6 : Tok)
    (hdc : d < c) (hca : c < a) (hab : a < b) (ho : o.IsDictOf (PySem.intKind PR w) []) (la : (a == sysModules) = false) (ho2 : o2.IsDictOf (PySem.intKind PR w) []) (lb : (b == sysModules) = false) (hk : 1 ≤ kn) (hk2 : kn ≤ 100) (hrv : IntsAre rvs row) (hdv : IntsAre dvs draws) (hlen : draws.length = row.length) (hlen2 : row.length ≤ 12) (hzv : IntsAre zv zs) (hzs : zs.length = 1)
    (h1 : rw ≠ dr) (h2 : dr < dw) (h2r : rw < dw) (h3 : dw < d) :
    SpecX w 302 7 1021 [.ref c, .ref rw, .ref dr, .ref dw] [(c, instObj 947 d), (d, lruD w t1 t2 t3 t4 t5 t6 a b 0 (kn : Int)), (a, o), (b, o2), (rw, W.listOf rvs.toArray e1), (dr, W.listOf dvs.toArray e2), (dw, W.listOf zv.toArray e3)]
      (fun r need => ∃ lo lvs loads q e zv zs e3, r = .ref lo ∧ need = [(lo, W.listOf (List.toArray lvs) e), (rw, W.listOf rvs.toArray e1), (dr, W.listOf dvs.toArray e2), (dw, W.listOf (List.toArray zv) e3)] ∧ IntsAre lvs loads ∧ On true kn row.reverse q loads ∧ IntsAre zv zs ∧ zs.length = 1 ∧ rw < lo ∧ dr < lo ∧ dw < lo) := by
  refine' specx_enter (binds := [(Str.ofString "cache", .ref c), (Str.ofString "row", .ref rw), (Str.ofString "draws", .ref dr), (Str.ofString "draw", .ref dw)]) ?k6 ?k7 ?k8 ?k9 ?kB ?_ ?c2 ?c3 ?c4 ?c5
  walk_at "my enterX"
  k_steps
  unfold Hold
  refine for_x (by assumption) rfl rfl ?_
  k_steps
  unfold Hold
  rename_i lAll lo h1' l1' h2' ld h3' oL0 lo' hs' fs' hi' fi' l2' h4' F4' N4' h5' tk5' t1' u1' v1' hr F5 N5 hkeep
  clear fs' fi' hs'
  refine' loop_x (n := row.length) (fun i m₁ news₁ => (∃ u1 u2 : Option Value, m₁ = fun y => if y = Str.ofString "place" then u1 else if y = Str.ofString "key" then u2 else
        if y = Str.ofString "loaded" then some (Value.ref ld) else if y = Str.ofString "loads" then some (Value.ref lo) else
        List.lookup y [(Str.ofString "cache", Value.ref c), (Str.ofString "row", Value.ref rw), (Str.ofString "draws", Value.ref dr), (Str.ofString "draw", Value.ref dw)].reverse) ∧
      ∃ (t3' : Tok) (o' o2' oL : Obj) (kvs kvs2 kvsL : List (Int × Value)) (q loads : List Int) (lvs : List Value) (e e' : Nat) (zv' : List Value) (zs' : List Int) (n' : Int),
        news₁ = [(ld, oL), (lo, W.listOf lvs.toArray e), (c, instObj 947 d), (d, lruD w t1 t2 t3' t4 t5 t6 a b n' (kn : Int)), (a, o'), (b, o2'), (rw, W.listOf rvs.toArray e1), (dr, W.listOf dvs.toArray e2), (dw, W.listOf zv'.toArray e')] ∧
        o'.IsDictOf (PySem.intKind PR w) kvs ∧ o2'.IsDictOf (PySem.intKind PR w) kvs2 ∧ oL.IsDictOf (PySem.intKind PR w) kvsL ∧ IntsAre lvs loads ∧ Inv true kn (row.take i).reverse q loads kvs kvsL ∧ kvs2.map (·.1) = q ∧ n' = (kvs.length : Nat) ∧ IntsAre zv' zs' ∧ zs'.length = 1)
    ?C ?B ?X ?T ?F ?N rfl hr ?small ?hn ?hj ?turn ?done
  case C => assumption
  case B => assumption
  case X => exact Und.x (by assumption)
  case T => exact Und.t (by assumption)
  case F => assumption
  case N => assumption
  case small => exact small_one (by omega) (by omega) (by omega) (by omega)
  case hn => rw [rangeSize_nat]; omega
  case hj => exact ⟨⟨none, none, frame_start rfl rfl⟩, _, o, o2, oL0, [], [], [], [], [], [], _, _, _, _, _, rfl, ho, ho2, hi', .nil, .start, rfl, rfl, hzv, hzs⟩
  case done =>
    intro m₁ news₁ h tk g₁ frs₁ hJ B1 X1 T1 C1 SU1 no1 no2 off1 F1 N1
    obtain ⟨⟨u1, u2, rfl⟩, t3', o', o2', oL, kvs, kvs2, kvsL, q, loads, lvs, e, e', zv', zs', n', rfl, ho', ho2', hoL, hlv, hInv, hord, hn', hzv', hzs'⟩ := hJ
    k_steps
    dsimp only
    exact leftx_intro C1 SU1 no1 no2 off1 (by assumption) (by assumption) [(lo, _), (rw, _), (dr, _), (dw, _)] (by k_subL) ⟨lo, lvs, loads, q, _, zv', zs', _, rfl, rfl, hlv, by have := hInv.run; rwa [List.take_length] at this, hzv', hzs', by omega, by omega, by omega⟩
  case turn =>
    intro I i m₁ news₁ t h tk g₁ frs₁ hI hi hJ B1 X1 T1 C1 F1 N1
    obtain ⟨⟨u1, u2, rfl⟩, t3', o', o2', oL, kvs, kvs2, kvsL, q, loads, lvs, e, e', zv', zs', n', rfl, ho', ho2', hoL, hlv, hInv, hord, hn', hzv', hzs'⟩ := hJ
    k_lt hI
    have hlq := hInv.lenq (by omega)
    have hlL := hInv.lenL
    have hlO := hInv.lenO
    have hlv2 := hlv.length
    have hl22 := hInv.len2 hord
    rw [List.length_reverse, List.length_take] at hlL hlO
    rcases hv : valueAt kvs (row.getD ((0 : Int) + (i : Int)).toNat 0) with _ | v
    · have hv2 := hInv.none2 hord hv
      by_cases hfull : kvs.length < kn
      · k_steps
        unfold Hold
        refine' specx_use (rest := [(ld, _), (lo, _), (rw, _), (dr, _), (dw, _), (I, _)]) (lru_new w c d a b o' o2' kvs kvs2 _ _ n' (kn : Int) 0 .none .none .none _ _ t1 t2 t3' t4 t5 t6 hdc hca ho' la (by omega) ho2' lb hab (by omega) hv (by omega) (by omega) hv2 (by omega) (by omega)) ?kB ?kF ?kN ?kX ?kT ?kC ?kA ?kf ?kk ?kn ?kr ?_
        walk_at "my usex"
        rintro v' need' g' frs' h' tk' ⟨rfl, t3'', o'', o2'', n'', rfl, hd', hd2', hn''⟩ B' F' N' X' T' C' SU' gno gno2 goff hap
        (try dsimp only [List.cons_append, List.nil_append] at N')
        have hl2 := stored_len (v := .int (0 + (i : Int)) t) hv
        k_steps
        refine turnEnd_intro C' SU' gno gno2 goff (by assumption) (by assumption) [(ld, _), (lo, _), (c, _), (d, _), (a, _), (b, _), (rw, _), (dr, _), (dw, _)] (by k_mem) (by k_subL) (by walk_at "my ne") ?_
        exact ⟨⟨_, _, frame_turn⟩, _, _, _, _, _, _, _, _, _, _, _, _, _, _, _, rfl, hd', hd2', by assumption, IntsAre.append hlv (.cons _ _ .nil), by rw [take_rev hi]; exact hInv.new hv hfull _ _ _, ord_new hord hv2 _, by omega, by assumption, set_one hzs'⟩
      · obtain ⟨x0, rest, hq⟩ : ∃ x0 rest, q = x0 :: rest := by
          cases q with
          | nil => rw [hInv.len] at hfull; simp at hfull; omega
          | cons x0 rest => exact ⟨x0, rest, rfl⟩
        obtain ⟨vo, hh0, hvo⟩ := ord_head hord hq
        obtain ⟨v0, hv0⟩ := hInv.some1 (x := x0) (by rw [hq]; exact .head _)
        have hvx := without_none (k := x0) hv
        obtain ⟨hvx2, hord'⟩ := ord_full hord hq (hInv.run.facts (by omega)).1 hv2 .none
        have hI2 := hInv.full hv hfull hq (by omega) (0 + (i : Int)) t t
        have hkk : n' = (kn : Int) := by omega
        subst hkk
        k_steps
        unfold Hold
        refine' specx_use (rest := [(ld, _), (lo, _), (rw, _), (dr, _), (dw, _), (I, _)]) (lru_full w c d a b o' o2' kvs kvs2 _ _ 0 (kn : Int) x0 .none v0 vo _ _ t1 t2 t3' t4 t5 t6 hdc hca ho' la (by omega) ho2' lb hab (by omega) hv (by omega) (by omega) hv2 hh0 hv0 hvx hvo hvx2) ?kB ?kF ?kN ?kX ?kT ?kC ?kA ?kf ?kk ?kn ?kr ?_
        walk_at "my usex"
        rintro v' need' g' frs' h' tk' ⟨rfl, t3'', o'', o2'', n'', rfl, hd', hd2', hn''⟩ B' F' N' X' T' C' SU' gno gno2 goff hap
        (try dsimp only [List.cons_append, List.nil_append] at N')
        have hl2 := hI2.lenq (by omega)
        k_steps
        refine turnEnd_intro C' SU' gno gno2 goff (by assumption) (by assumption) [(ld, _), (lo, _), (c, _), (d, _), (a, _), (b, _), (rw, _), (dr, _), (dw, _)] (by k_mem) (by k_subL) (by walk_at "my ne") ?_
        exact ⟨⟨_, _, frame_turn⟩, _, _, _, _, _, _, _, _, _, _, _, _, _, _, _, rfl, hd', hd2', by assumption, IntsAre.append hlv (.cons _ _ .nil), by rw [take_rev hi]; exact hI2, hord', by have := hI2.len; have := hInv.len; rw [hq] at this; simp at *; omega, by assumption, set_one hzs'⟩
    · obtain ⟨j, tj, tj', rfl, hvL⟩ := hInv.val _ _ hv
      obtain ⟨vo, hvo⟩ := hInv.some2 hord hv
      k_steps
      · unfold Hold
        refine' spec_use (rest := [(ld, _), (lo, _), (rw, _), (dr, _), (dw, _), (I, _)]) (lru_hit w c d a b o' o2' kvs kvs2 _ _ _ (kn : Int) 0 _ .none vo _ _ t1 t2 t3' t4 t5 t6 ho' la hdc hca (by omega) ho2' lb hab (by omega) hv hvo) ?kB ?kF ?kN ?kX ?kT ?kA ?kf ?kk ?kn ?kr ?_
        walk_at "my use"
        rintro v' need' h' tk' ⟨rfl, o2'', rfl, hd2'⟩ F' N' hap
        (try dsimp only [List.cons_append, List.nil_append] at N')
        k_steps
        refine turnEnd_intro C1 (PyProof.Rows.TI.SameUp.refl _) (fun _ h => h) (fun _ h => h) (fun _ _ h _ => h) (by assumption) (by assumption) [(ld, _), (lo, _), (c, _), (d, _), (a, _), (b, _), (rw, _), (dr, _), (dw, _)] (by k_mem) (by k_subL) (by walk_at "my ne") ?_
        exact ⟨⟨_, _, frame_turn⟩, _, _, _, _, _, _, _, _, _, _, _, _, _, _, _, rfl, ho', hd2', hoL, hlv, by rw [take_rev hi]; exact hInv.hit hv (by omega), ord_touch hord (hInv.run.facts (by omega)).1 _, hn', by assumption, set_one hzs'⟩
end

-- part X_serve_rr
section
theorem serve_rr (w : World) (c d a b l f cc ce rw dr dw : Nat) (o oi fo oc co : Obj) (rvs dvs : List Value) (row draws : List Int) (e0 e1 e2 e3 kn : Nat) (zv : List Value) (zs : List Int) (t1 t2 t3 t4 t5 t6 t7 t8 : Tok)
    (hdc : d < c) (hca : c < a) (hab : a < b) (hbl : b < l) (ho : o.IsDictOf (PySem.intKind PR w) []) (la : (a == sysModules) = false) (hoi : oi.IsDictOf (PySem.intKind PR w) []) (lb : (b == sysModules) = false) (hk : 1 ≤ kn) (hk2 : kn ≤ 60) (hrv : IntsAre rvs row) (hdv : IntsAre dvs draws) (hlen : draws.length = row.length) (hlen2 : row.length ≤ 12) (hzv : IntsAre zv zs) (hzs : zs.length = 1)
    (h1 : rw ≠ dr) (h2 : dr < dw) (h2r : rw < dw) (h4 : ce ≠ rw) (h4' : ce ≠ dr) (h4d : ce < dw) (h5 : dw < cc) (h6 : cc < f) (h3 : f < d) (hfn : FnObj fo) (hch : ChoiceOk w f fo cc oc ce co dw l) :
    SpecX w 302 7 1021 [.ref c, .ref rw, .ref dr, .ref dw] [(c, instObj 1005 d), (d, rrD w t1 t2 t3 t4 t5 t6 t7 t8 a f b l 0 (kn : Int)), (a, o), (b, oi), (l, W.listOf (List.toArray []) e0), (rw, W.listOf rvs.toArray e1), (dr, W.listOf dvs.toArray e2), (dw, W.listOf zv.toArray e3), (f, fo), (cc, oc), (ce, co)]
      (fun r need => ∃ lo lvs loads q e zv zs e3, r = .ref lo ∧ need = [(lo, W.listOf (List.toArray lvs) e), (rw, W.listOf rvs.toArray e1), (dr, W.listOf dvs.toArray e2), (dw, W.listOf (List.toArray zv) e3), (ce, co)] ∧ IntsAre lvs loads ∧ Op kn row.reverse q loads ∧ IntsAre zv zs ∧ zs.length = 1 ∧ rw < lo ∧ dr < lo ∧ dw < lo) := by
  refine' specx_enter (binds := [(Str.ofString "cache", .ref c), (Str.ofString "row", .ref rw), (Str.ofString "draws", .ref dr), (Str.ofString "draw", .ref dw)]) ?k6 ?k7 ?k8 ?k9 ?kB ?_ ?c2 ?c3 ?c4 ?c5
  walk_at "my enterX"
  k_steps
  unfold Hold
  refine for_x (by assumption) rfl rfl ?_
  k_steps
  unfold Hold
  rename_i lAll lo h1' l1' h2' ld h3' oL0 lo' hs' fs' hi' fi' l2' h4'' F4' N4' h5' tk5' t1' u1' v1' hr F5 N5 hkeep
  clear fs' fi' hs'
  refine' loop_x (n := row.length) (fun i m₁ news₁ => (∃ u1 u2 : Option Value, m₁ = fun y => if y = Str.ofString "place" then u1 else if y = Str.ofString "key" then u2 else
        if y = Str.ofString "loaded" then some (Value.ref ld) else if y = Str.ofString "loads" then some (Value.ref lo) else
        List.lookup y [(Str.ofString "cache", Value.ref c), (Str.ofString "row", Value.ref rw), (Str.ofString "draws", Value.ref dr), (Str.ofString "draw", Value.ref dw)].reverse) ∧
      ∃ (t3' : Tok) (o' oi' oL : Obj) (kvs kvi kvsL : List (Int × Value)) (ks loads : List Int) (lvs kvl : List Value) (e e' e'' : Nat) (zv' : List Value) (zs' : List Int) (n' : Int),
        news₁ = [(ld, oL), (lo, W.listOf lvs.toArray e), (c, instObj 1005 d), (d, rrD w t1 t2 t3' t4 t5 t6 t7 t8 a f b l n' (kn : Int)), (a, o'), (b, oi'), (l, W.listOf (List.toArray kvl) e''), (rw, W.listOf rvs.toArray e1), (dr, W.listOf dvs.toArray e2), (dw, W.listOf zv'.toArray e'), (f, fo), (cc, oc), (ce, co)] ∧
        o'.IsDictOf (PySem.intKind PR w) kvs ∧ oi'.IsDictOf (PySem.intKind PR w) kvi ∧ oL.IsDictOf (PySem.intKind PR w) kvsL ∧ IntsAre lvs loads ∧ IntsAre kvl ks ∧ InvR kn (row.take i).reverse ks loads kvs kvi kvsL ∧ n' = (kvs.length : Nat) ∧ IntsAre zv' zs' ∧ zs'.length = 1)
    ?C ?B ?X ?T ?F ?N rfl hr ?small ?hn ?hj ?turn ?done
  case C => assumption
  case B => assumption
  case X => exact Und.x (by assumption)
  case T => exact Und.t (by assumption)
  case F => assumption
  case N => assumption
  case small => exact small_one (by omega) (by omega) (by omega) (by omega)
  case hn => rw [rangeSize_nat]; omega
  case hj => exact ⟨⟨none, none, frame_start rfl rfl⟩, _, o, oi, oL0, [], [], [], [], [], [], [], _, _, _, _, _, _, rfl, ho, hoi, hi', .nil, .nil, .start, rfl, hzv, hzs⟩
  case done =>
    intro m₁ news₁ h tk g₁ frs₁ hJ B1 X1 T1 C1 SU1 no1 no2 off1 F1 N1
    obtain ⟨⟨u1, u2, rfl⟩, t3', o', oi', oL, kvs, kvi, kvsL, ks, loads, lvs, kvl, e, e', e'', zv', zs', n', rfl, ho', hoi', hoL, hlv, hkv, hInv, hn', hzv', hzs'⟩ := hJ
    k_steps
    dsimp only
    exact leftx_intro C1 SU1 no1 no2 off1 (by assumption) (by assumption) [(lo, _), (rw, _), (dr, _), (dw, _), (ce, _)] (by k_subL) ⟨lo, lvs, loads, ks, _, zv', zs', _, rfl, rfl, hlv, by have := hInv.run; rwa [List.take_length] at this, hzv', hzs', by omega, by omega, by omega⟩
  case turn =>
    intro I i m₁ news₁ t h tk g₁ frs₁ hI hi hJ B1 X1 T1 C1 F1 N1
    obtain ⟨⟨u1, u2, rfl⟩, t3', o', oi', oL, kvs, kvi, kvsL, ks, loads, lvs, kvl, e, e', e'', zv', zs', n', rfl, ho', hoi', hoL, hlv, hkv, hInv, hn', hzv', hzs'⟩ := hJ
    k_lt hI
    have hlq := hInv.lenq
    have hlL := hInv.lenL
    have hlO := hInv.lenO
    have hlI := hInv.lenI
    have hlv2 := hlv.length
    have hkl := hInv.len
    rw [List.length_reverse, List.length_take] at hlL hlO hlI
    rcases hv : valueAt kvs (row.getD ((0 : Int) + (i : Int)).toNat 0) with _ | v
    · have hvi := hInv.none hv
      by_cases hfull : kvs.length < kn
      · k_steps
        unfold Hold
        refine' spec_use (rest := [(ld, _), (lo, _), (rw, _), (dr, _), (dw, _), (f, _), (cc, _), (ce, _), (I, _)]) (rr_new w c d a b l f o' oi' kvs kvi kvl ks e'' _ _ n' (kn : Int) .none _ _ t1 t2 t3' t4 t5 t6 t7 t8 hdc hca hab hbl ho' la (by omega) hoi' lb (by omega) hkv (by omega) hv hvi (by omega) (by omega) (by omega) (by omega)) ?kB ?kF ?kN ?kX ?kT ?kA ?kf ?kk ?kn ?kr ?_
        walk_at "my use"
        rintro v' need' h' tk' ⟨rfl, t3'', o'', oi'', vs'', ep'', n'', ti, rfl, hd', hdi', hvs', hn''⟩ F' N' hap
        (try dsimp only [List.cons_append, List.nil_append] at N')
        have hl2 := stored_len (v := .int (0 + (i : Int)) t) hv
        k_steps
        refine turnEnd_intro C1 (PyProof.Rows.TI.SameUp.refl _) (fun _ h => h) (fun _ h => h) (fun _ _ h _ => h) (by assumption) (by assumption) [(ld, _), (lo, _), (c, _), (d, _), (a, _), (b, _), (l, _), (rw, _), (dr, _), (dw, _), (f, _), (cc, _), (ce, _)] (by k_mem) (by k_subL) (by walk_at "my ne") ?_
        exact ⟨⟨_, _, frame_turn⟩, _, _, _, _, _, _, _, _, _, _, _, _, _, _, _, _, _, rfl, hd', hdi', by assumption, IntsAre.append hlv (.cons _ _ .nil), hvs', by rw [take_rev hi]; exact hInv.new hv hfull _ _ _ _, by omega, by assumption, set_one hzs'⟩
      · have hkk : n' = (kn : Int) := by omega
        subst hkk
        k_steps
        unfold Hold
        refine' spec_use (rest := [(ld, _), (lo, _), (rw, _), (dr, _), (I, _)]) (rr_full w c d a b l f cc ce dw o' oi' oc co fo kvs kvi kvl _ ks _ e'' _ _ _ (kn : Int) _ _ t1 t2 t3' t4 t5 t6 t7 t8 h4d h5 h6 h3 hdc hca hab hbl ho' la (by omega) hoi' lb (by omega) hkv (by omega) hv hvi (by omega) (by omega) ?kz ?kz2 hInv.idx hInv.all hfn hch) ?kB ?kF ?kN ?kX ?kT ?kA ?kf ?kk ?kn ?kr ?_
        walk_at "my use"
        case kz => assumption
        case kz2 => exact set_one hzs'
        rintro v' need' h' tk' ⟨rfl, y, t3'', o'', oi'', vs'', ks'', kvi'', ep'', n'', hy, rfl, hd', hdi', hvs', hn'', hR', hm', hlk', hli'⟩ F' N' hap
        (try dsimp only [List.cons_append, List.nil_append] at N')
        have hI2 := hInv.full hv hy hR' hm' hlk' hli' (0 + (i : Int)) t t
        have hl2 := hI2.lenq
        k_steps
        refine turnEnd_intro C1 (PyProof.Rows.TI.SameUp.refl _) (fun _ h => h) (fun _ h => h) (fun _ _ h _ => h) (by assumption) (by assumption) [(ld, _), (lo, _), (c, _), (d, _), (a, _), (b, _), (l, _), (rw, _), (dr, _), (dw, _), (f, _), (cc, _), (ce, _)] (by k_mem) (by k_subL) (by walk_at "my ne") ?_
        exact ⟨⟨_, _, frame_turn⟩, _, _, _, _, _, _, _, _, _, _, _, _, _, _, _, _, _, rfl, hd', hdi', by assumption, IntsAre.append hlv (.cons _ _ .nil), hvs', by rw [take_rev hi]; exact hI2, by have := hI2.len; omega, by assumption, set_one hzs'⟩
    · obtain ⟨j, tj, tj', rfl, hvL⟩ := hInv.val _ _ hv
      k_steps
      · unfold Hold
        refine' spec_use (rest := [(ld, _), (lo, _), (rw, _), (dr, _), (dw, _), (f, _), (cc, _), (ce, _), (I, _)]) (rr_hit w c d a b l f o' oi' kvs kvi kvl ks e'' _ _ n' (kn : Int) _ _ _ t1 t2 t3' t4 t5 t6 t7 t8 hdc hca hab hbl ho' la (by omega) hoi' lb (by omega) hkv (by omega) hv) ?kB ?kF ?kN ?kX ?kT ?kA ?kf ?kk ?kn ?kr ?_
        walk_at "my use"
        rintro v' need' h' tk' ⟨rfl, rfl⟩ F' N' hap
        (try dsimp only [List.cons_append, List.nil_append] at N')
        k_steps
        refine turnEnd_intro C1 (PyProof.Rows.TI.SameUp.refl _) (fun _ h => h) (fun _ h => h) (fun _ _ h _ => h) (by assumption) (by assumption) [(ld, _), (lo, _), (c, _), (d, _), (a, _), (b, _), (l, _), (rw, _), (dr, _), (dw, _), (f, _), (cc, _), (ce, _)] (by k_mem) (by k_subL) (by walk_at "my ne") ?_
        exact ⟨⟨_, _, frame_turn⟩, _, _, _, _, _, _, _, _, _, _, _, _, _, _, _, _, _, rfl, ho', hoi', hoL, hlv, hkv, by rw [take_rev hi]; exact hInv.hit hv, hn', by assumption, set_one hzs'⟩
end

-- part LR
section
theorem law_rr {w : World} {c d a b l f cc ce rw dr dw nl tb : Nat} {o oi fo oc co no tob : Obj} {rvs dvs : List Value} {row draws : List Int} {e0 e1 e2 e3 kn : Nat} {zv : List Value} {zs : List Int} {t1 t2 t3 t4 t5 t6 t7 t8 : Tok}
    {A A₀ : Around} {E Q : Value → Shared → Prop} {s : Shared} {g base : Heap} {L : Addr} {m mg mb : Str → Option Value} {p : Program} {loose : List Str} {mean : ExcName → Option Value} {env : Env}
    (N : News g L s.heap [(l, W.listOf (List.toArray []) e0), (b, oi), (a, o), (c, instObj 1005 d), (d, rrD w t1 t2 t3 t4 t5 t6 t7 t8 a f b l 0 (kn : Int)), (f, fo), (cc, oc), (dw, W.listOf zv.toArray e3), (dr, W.listOf dvs.toArray e2), (rw, W.listOf rvs.toArray e1), (nl, no), (ce, co), (tb, tob)])
    (F : Fr g L s.heap m) (B : Below A₀ base [] g) (X : (hd.heap_39 w.params).In g) (T : Top p loose mean mg mb g) (hA : A = AR 302 7 [env]) (hf : env.frame = some L) (hke : env.scope.kind = .function)
    (hdc : d < c) (hca : c < a) (hab : a < b) (hbl : b < l) (ho : o.IsDictOf (PySem.intKind PR w) []) (la : (a == sysModules) = false) (hoi : oi.IsDictOf (PySem.intKind PR w) []) (lb : (b == sysModules) = false) (hk : 1 ≤ kn) (hk2 : kn ≤ 60) (hrv : IntsAre rvs row) (hdv : IntsAre dvs draws) (hlen : draws.length = row.length) (hlen2 : row.length ≤ 12) (hzv : IntsAre zv zs) (hzs : zs.length = 1)
    (h1 : rw ≠ dr) (h2 : dr < dw) (h2r : rw < dw) (h4 : ce ≠ rw) (h4' : ce ≠ dr) (h4d : ce < dw) (h5 : dw < cc) (h6 : cc < f) (h3 : f < d) (ht : tb < ce) (htr : tb ≠ rw) (htd : tb ≠ dr) (hfn : FnObj fo) (hch : ChoiceOk w f fo cc oc ce co dw l)
    (h : ∀ (lo : Nat) (lvs : List Value) (loads q : List Int) (e : Nat) (zv : List Value) (zs : List Int) (e3 : Nat) (h' : Heap) (tk' : Nat), Fr g L h' m → News g L h' [(lo, W.listOf (List.toArray lvs) e), (rw, W.listOf rvs.toArray e1), (dr, W.listOf dvs.toArray e2), (dw, W.listOf (List.toArray zv) e3), (ce, co), (tb, tob)] →
      IntsAre lvs loads → Op kn row.reverse q loads → IntsAre zv zs → zs.length = 1 → rw < lo → dr < lo → dw < lo → ce ≠ lo → lo ≠ tb → Q (.ref lo) { s with heap := h', toks := tk' }) :
    wpAny (model PR w) A (call (.ref 1021) [.ref c, .ref rw, .ref dr, .ref dw]) Q E s := by
  refine law_use (rest := [(tb, tob)]) (serve_rr w c d a b l f cc ce rw dr dw o oi fo oc co rvs dvs row draws e0 e1 e2 e3 kn zv zs t1 t2 t3 t4 t5 t6 t7 t8 hdc hca hab hbl ho la hoi lb hk hk2 hrv hdv hlen hlen2 hzv hzs h1 h2 h2r h4 h4' h4d h5 h6 h3 hfn hch) B F N X T hA hf hke ?_ ?_ ?_
  · intro q hq
    simp only [List.mem_cons, List.not_mem_nil, or_false] at hq ⊢
    rcases hq with h | h | h | h | h | h | h | h | h | h | h <;> simp [h]
  · intro q hq
    rw [List.mem_singleton] at hq
    subst hq
    refine ⟨by simp, ?_⟩
    intro hq
    simp only [List.map_cons, List.map_nil, List.mem_cons, List.not_mem_nil, or_false] at hq
    rcases hq with h | h | h | h | h | h | h | h | h | h | h <;> (have h' : @Eq Nat tb _ := h; omega)
  · rintro v need' h' tk' ⟨lo, lvs, loads, q, e, zv', zs', e3', rfl, rfl, hlv, hop, hzv', hzs', b1, b2, b3⟩ F' N' hap
    exact h lo lvs loads q e zv' zs' e3' h' tk' F' N' hlv hop hzv' hzs' b1 b2 b3 (by omega) (hap _ (.head _) _ (.head _))
end

-- part LT
section
theorem tail_ok (w : World) (p : Program) (loose : List Str) (mean : ExcName → Option Value) (mg mb m0 : Str → Option Value) (g base : Heap) (L fa : Addr) (cd : Value) (s : Shared) (E : Value → Shared → Prop) (u1 u2 u3 u4 : Option Value) (vc : Value)
    (lo l2 rw dr c : Nat) (lvs lvs2 : List Value) (oloads loads oq q row : List Int) (e e2 kh kr : Nat) (th tr : Tok) (lru : Bool) (rest : List (Addr × Obj))
    (B : Below callerA base [] g) (X : (hd.heap_39 w.params).In g) (T : Top p loose mean mg mb g)
    (F : Fr g L s.heap (fun y => if y = Str.ofString "loads" then some (.ref l2) else if y = Str.ofString "cache" then some (.ref c) else turnMap (lawMap m0 lo rw dr vc kh kr th tr) u1 u2 u3 u4 y))
    (N : News g L s.heap ((l2, W.listOf (List.toArray lvs2) e2) :: (lo, W.listOf (List.toArray lvs) e) :: rest))
    (hlv : IntsAre lvs oloads) (hlv2 : IntsAre lvs2 loads) (hop : Op kh row.reverse oq oloads) (hon : On lru kr row.reverse q loads) (hr1 : 1 ≤ row.length) (hr2 : row.length ≤ 12) (hh1 : 1 ≤ kh) (hh2 : kh ≤ kr) (hr : kr ≤ 4) (hl2 : loads.length ≤ 12) (hlo : oloads.length ≤ 12) :
    wpAny (model PR w) (callerA.deeper (lawEnv lawParts.2.2 L fa cd)) (execs forTail (lawEnv lawParts.2.2 L fa cd)) (TailQ g L (lawMap m0 lo rw dr vc kh kr th tr) ((l2, W.listOf (List.toArray lvs2) e2) :: (lo, W.listOf (List.toArray lvs) e) :: rest) s) E s := by
  generalize hc : forTail = cP
  conv at hc => lhs; whnf
  subst hc
  generalize hc : lawParts.2.2 = cS
  conv at hc => lhs; whnf
  subst hc
  (try dsimp only)
  have hpos : row.reverse ≠ [] := fun e => by
    have := congrArg List.length e
    rw [List.length_reverse, List.length_nil] at this
    omega
  have hne : loads ≠ [] := fun e => hpos ((hon.facts (by omega)).2.2.2.2 e)
  have hone : oloads ≠ [] := fun e => hpos (hop.nil_of e).2
  have hnd : (loads.take ((kr : Int)).toNat).Nodup := (hon.facts (by omega)).2.2.2.1
  have htk : (loads.take ((kr : Int)).toNat).length ≤ 12 := by rw [List.length_take]; omega
  have hb := bound (by omega) hh2 hon hop hpos
  k_steps
  · exact (no_less (List.length_pos_iff.mpr hne) hh2 (by omega) hb (by assumption)).elim
  · exact ⟨rfl, _, _, _, _, _, _, rfl, fr_norm (by assumption), news_tail (news_tail (news_tail (news_tail (by assumption))))⟩
end

-- part LU
section
theorem head_drop {l : List Stmt} (d : Stmt) (h : 0 < l.length) : l = l.headD d :: l.drop 1 := by
  cases l with
  | nil => cases h
  | cons a l => rfl
theorem forBody_eq : forBody = forHead :: forTail := head_drop _ (by decide +kernel)
def TurnQ (g : Heap) (L : Addr) (m1 : Str → Option Value) (rw dr dw e1 e2 : Nat) (rvs dvs : List Value) (after : List (Addr × Obj)) (s : Shared) (fl : Flow) (s' : Shared) : Prop :=
  fl = .next ∧ ∃ (u1 u2 u3 u4 : Option Value) (zv : List Value) (zs : List Int) (e3 : Nat) (h' : Heap) (tk' : Nat), s' = { s with heap := h', toks := tk' } ∧ Fr g L h' (turnMap m1 u1 u2 u3 u4) ∧
    News g L h' ((rw, W.listOf rvs.toArray e1) :: (dr, W.listOf dvs.toArray e2) :: (dw, W.listOf zv.toArray e3) :: after) ∧ IntsAre zv zs ∧ zs.length = 1
def HeadQ (g : Heap) (L : Addr) (m : Str → Option Value) (rw dr dw e1 e2 kr : Nat) (lru : Bool) (row : List Int) (rvs dvs : List Value) (after : List (Addr × Obj)) (s : Shared) (fl : Flow) (s' : Shared) : Prop :=
  fl = .next ∧ ∃ (l2 e : Nat) (lvs2 zv : List Value) (loads q zs : List Int) (e3 : Nat) (h' : Heap) (tk' : Nat), s' = { s with heap := h', toks := tk' } ∧ Fr g L h' (fun y => if y = Str.ofString "loads" then some (.ref l2) else m y) ∧
    News g L h' ((l2, W.listOf lvs2.toArray e) :: (rw, W.listOf rvs.toArray e1) :: (dr, W.listOf dvs.toArray e2) :: (dw, W.listOf zv.toArray e3) :: after) ∧ IntsAre lvs2 loads ∧ On lru kr row.reverse q loads ∧ IntsAre zv zs ∧ zs.length = 1
theorem turn_gen (w : World) (p : Program) (loose : List Str) (mean : ExcName → Option Value) (mg mb m0 : Str → Option Value) (g base : Heap) (L fa : Nat) (cd : Value) (s : Shared) (E : Value → Shared → Prop) (u1 u2 u3 u4 : Option Value) (vc : Value)
    (lo rw dr dw c : Nat) (co : Obj) (lvs rvs dvs zv : List Value) (oloads oq row : List Int) (e e1 e2 e3 kh kr : Nat) (th tr : Tok) (lru : Bool) (own rest : List (Addr × Obj))
    (S : SpecX w 302 7 1021 [.ref c, .ref rw, .ref dr, .ref dw] (own ++ [(rw, W.listOf rvs.toArray e1), (dr, W.listOf dvs.toArray e2), (dw, W.listOf zv.toArray e3)])
      (fun r need => ∃ lo lvs loads q e zv zs e3, r = .ref lo ∧ need = [(lo, W.listOf (List.toArray lvs) e), (rw, W.listOf rvs.toArray e1), (dr, W.listOf dvs.toArray e2), (dw, W.listOf (List.toArray zv) e3)] ∧ IntsAre lvs loads ∧ On lru kr row.reverse q loads ∧ IntsAre zv zs ∧ zs.length = 1 ∧ rw < lo ∧ dr < lo ∧ dw < lo))
    (B : Below callerA base [] g) (X : (hd.heap_39 w.params).In g) (T : Top p loose mean mg mb g)
    (F : Fr g L s.heap (fun y => if y = Str.ofString "cache" then some (.ref c) else turnMap (lawMap m0 lo rw dr vc kh kr th tr) u1 u2 u3 u4 y))
    (N : News g L s.heap ((L + 1, co) :: (lo, W.listOf lvs.toArray e) :: (rw, W.listOf rvs.toArray e1) :: (dr, W.listOf dvs.toArray e2) :: (dw, W.listOf zv.toArray e3) :: (own ++ rest)))
    (hco : co.data = .cell (some (.ref dw)))
    (hap : ∀ q ∈ (L + 1, co) :: (lo, W.listOf lvs.toArray e) :: rest, q.1 ∉ (own ++ [(rw, W.listOf rvs.toArray e1), (dr, W.listOf dvs.toArray e2), (dw, W.listOf zv.toArray e3)]).map (·.1))
    (hlv : IntsAre lvs oloads) (hop : Op kh row.reverse oq oloads) (hr1 : 1 ≤ row.length) (hr2 : row.length ≤ 12) (hh1 : 1 ≤ kh) (hh2 : kh ≤ kr) (hr : kr ≤ 4) :
    wpAny (model PR w) (callerA.deeper (lawEnv lawParts.2.2 L fa cd)) (execs forBody (lawEnv lawParts.2.2 L fa cd)) (TurnQ g L (lawMap m0 lo rw dr vc kh kr th tr) rw dr dw e1 e2 rvs dvs ((L + 1, co) :: (lo, W.listOf lvs.toArray e) :: rest) s) E s := by
  rw [forBody_eq]
  refine seq_one (P := HeadQ g L (fun y => if y = Str.ofString "cache" then some (.ref c) else turnMap (lawMap m0 lo rw dr vc kh kr th tr) u1 u2 u3 u4 y) rw dr dw e1 e2 kr lru row rvs dvs ((L + 1, co) :: (lo, W.listOf lvs.toArray e) :: rest) s) (fun _ _ h => h.1) ?one ?two
  case two =>
    rintro s' ⟨_, l2, e', lvs2, zv', loads, q, zs', e3', h', tk', rfl, F', N', hlv2, hon, hzv', hzs'⟩
    have hl1 := hon.len_le
    have hl2 := hop.len_le
    rw [List.length_reverse] at hl1 hl2
    refine wpAny_mono (tail_ok w p loose mean mg mb m0 g base L fa cd { s with heap := h', toks := tk' } E u1 u2 u3 u4 vc lo l2 rw dr c lvs lvs2 oloads loads oq q row e e' kh kr th tr lru ((rw, W.listOf rvs.toArray e1) :: (dr, W.listOf dvs.toArray e2) :: (dw, W.listOf zv'.toArray e3') :: (L + 1, co) :: rest) B X T F' (fun q hq => N' q ?_) hlv hlv2 hop hon hr1 hr2 hh1 hh2 hr (by omega) (by omega)) ?_ fun _ _ h => h
    · simp only [List.mem_cons] at hq ⊢
      rcases hq with h | h | h | h | h | h | h <;> simp [h]
    · rintro fl s' ⟨rfl, v1, v2, v3, v4, h'', tk'', rfl, F'', N''⟩
      refine ⟨rfl, v1, v2, v3, v4, zv', zs', e3', h'', tk'', rfl, F'', fun q hq => N'' q ?_, hzv', hzs'⟩
      simp only [List.mem_cons] at hq ⊢
      rcases hq with h | h | h | h | h | h <;> simp [h]
  case one =>
    generalize hc : forHead = cP
    conv at hc => lhs; whnf
    subst hc
    generalize hc : lawParts.2.2 = cS
    conv at hc => lhs; whnf
    subst hc
    (try dsimp only)
    k_steps
    unfold Hold
    refine' law_use (rest := (L + 1, co) :: (lo, W.listOf lvs.toArray e) :: rest) S ?B0 ?B1 ?B2 ?B3 ?B4 ?B5 ?B6 ?B7 ?n1 ?n2 ?_
    case B5 => exact rfl
    case B6 => exact rfl
    case B7 => exact rfl
    case B0 => assumption
    case B1 => assumption
    case B2 => assumption
    case B3 => assumption
    case B4 => assumption
    case n1 =>
      intro q hq
      simp only [List.mem_append, List.mem_cons, List.not_mem_nil, or_false] at hq ⊢
      rcases hq with h | h | h | h <;> simp [h]
    case n2 =>
      intro q hq
      refine ⟨?_, hap q hq⟩
      simp only [List.mem_append, List.mem_cons] at hq ⊢
      rcases hq with h | h | h <;> simp [h]
    clear F N
    rintro v need' h' tk' ⟨l2, lvs2, loads, q, e', zv', zs', e3', rfl, rfl, hlv2, hon, hzv', hzs', b1, b2, b3⟩ F' N' hap'
    k_steps
    exact ⟨rfl, l2, e', lvs2, zv', loads, q, zs', e3', _, _, rfl, by assumption, by assumption, hlv2, hon, hzv', hzs'⟩
end

-- part LV
section
set_option maxHeartbeats 400000
structure Job where
  c : Nat
  own : List (Addr × Obj)
def JobOk (w : World) (rw dr dw e1 e2 kr : Nat) (rvs dvs : List Value) (row : List Int) (j : Job) : Prop :=
  ∃ lru : Bool, ∀ (zv : List Value) (zs : List Int) (e3 : Nat), IntsAre zv zs → zs.length = 1 →
    SpecX w 302 7 1021 [.ref j.c, .ref rw, .ref dr, .ref dw] (j.own ++ [(rw, W.listOf rvs.toArray e1), (dr, W.listOf dvs.toArray e2), (dw, W.listOf zv.toArray e3)])
      (fun r need => ∃ lo lvs loads q e zv zs e3, r = .ref lo ∧ need = [(lo, W.listOf (List.toArray lvs) e), (rw, W.listOf rvs.toArray e1), (dr, W.listOf dvs.toArray e2), (dw, W.listOf (List.toArray zv) e3)] ∧ IntsAre lvs loads ∧ On lru kr row.reverse q loads ∧ IntsAre zv zs ∧ zs.length = 1 ∧ rw < lo ∧ dr < lo ∧ dw < lo)
def owns (jobs : List Job) : List (Addr × Obj) := jobs.flatMap Job.own
theorem jobs_ok (w : World) (p : Program) (loose : List Str) (mean : ExcName → Option Value) (mg mb m0 : Str → Option Value) (g base : Heap) (L fa : Nat) (cd : Value) (s : Shared) (E : Value → Shared → Prop) (Q : Flow → Shared → Prop) (vc : Value)
    (lo rw dr dw ls tb I : Nat) (co lobj tob : Obj) (lvs rvs dvs : List Value) (oloads oq row : List Int) (e e1 e2 kh kr : Nat) (th tr : Tok)
    (B : Below callerA base [] g) (X : (hd.heap_39 w.params).In g) (T : Top p loose mean mg mb g) (hco : co.data = .cell (some (.ref dw)))
    (hlv : IntsAre lvs oloads) (hop : Op kh row.reverse oq oloads) (hr1 : 1 ≤ row.length) (hr2 : row.length ≤ 12) (hh1 : 1 ≤ kh) (hh2 : kh ≤ kr) (hr : kr ≤ 4)
    (hQ : ∀ h tk u1 u2 u3 u4, Fr g L h (turnMap (lawMap m0 lo rw dr vc kh kr th tr) u1 u2 u3 u4) → News g L h [(tb, tob)] → Q .next { s with heap := h, toks := tk })
    (hfix : ∀ z ∈ ([rw, dr, dw] : List Nat), (L + 1 : Nat) ≠ z ∧ lo ≠ z ∧ I ≠ z ∧ ls ≠ z ∧ tb ≠ z) (hfixI : ∀ z ∈ ([L + 1, lo, rw, dr, dw, ls, tb] : List Nat), z ≠ I) :
    ∀ (jobs : List Job), (∀ j ∈ jobs, JobOk w rw dr dw e1 e2 kr rvs dvs row j) → ((owns jobs).map (·.1)).Nodup → (∀ q ∈ owns jobs, ∀ z ∈ ([L + 1, lo, rw, dr, dw, ls, tb, I] : List Nat), q.1 ≠ z) →
      ∀ u1 u2 u3 u4 (zv : List Value) (zs : List Int) (e3 : Nat), IntsAre zv zs → zs.length = 1 →
      PySem.W.ListRest PR w (callerA.deeper (lawEnv lawParts.2.2 L fa cd)) E g (lawEnv lawParts.2.2 L fa cd) (Str.ofString "cache") forBody Q s I (ls, lobj) (jobs.map fun j => Value.ref j.c) (turnMap (lawMap m0 lo rw dr vc kh kr th tr) u1 u2 u3 u4)
        ((L + 1, co) :: (lo, W.listOf lvs.toArray e) :: (rw, W.listOf rvs.toArray e1) :: (dr, W.listOf dvs.toArray e2) :: (dw, W.listOf zv.toArray e3) :: (ls, lobj) :: (tb, tob) :: owns jobs) := by
  intro jobs
  induction jobs with
  | nil =>
    intro _ _ _ u1 u2 u3 u4 zv zs e3 _ _
    refine PySem.W.ListRest.zero fun h tk F N => hQ h tk u1 u2 u3 u4 F fun q hq => N q ?_
    rw [List.mem_singleton] at hq
    subst hq
    simp
  | cons j r ih =>
    intro hok hnd hoff u1 u2 u3 u4 zv zs e3 hzv hzs
    refine PySem.W.ListRest.succ fun it h tk hit F N => ?_
    obtain ⟨lru, S⟩ := hok j (.head _)
    have hsplit : owns (j :: r) = j.own ++ owns r := List.flatMap_cons
    rw [hsplit] at hnd hoff N
    rw [List.map_append] at hnd
    obtain ⟨_, hnd2, hdis⟩ := List.nodup_append.mp hnd
    refine wpAny_mono (turn_gen w p loose mean mg mb m0 g base L fa cd { s with heap := h, toks := tk } E u1 u2 u3 u4 vc lo rw dr dw j.c co lvs rvs dvs zv oloads oq row e e1 e2 e3 kh kr th tr lru j.own ((I, it) :: (ls, lobj) :: (tb, tob) :: owns r) (S zv zs e3 hzv hzs) B X T F (fun q hq => N q ?_) hco ?_ hlv hop hr1 hr2 hh1 hh2 hr) ?_ fun _ _ x => x
    · simp only [List.mem_cons, List.mem_append] at hq ⊢
      rcases hq with h | h | h | h | h | h | h | h | h | h <;> simp [h]
    · intro q hq hm
      rw [List.map_append, List.mem_append] at hm
      rcases hm with hm | hm
      · obtain ⟨z, hz, ez⟩ := List.mem_map.mp hm
        simp only [List.mem_cons] at hq
        rcases hq with h | h | h | h | h | h
        · exact hoff z (List.mem_append_left _ hz) (L + 1) (by simp) (by rw [ez, h])
        · exact hoff z (List.mem_append_left _ hz) lo (by simp) (by rw [ez, h])
        · exact hoff z (List.mem_append_left _ hz) I (by simp) (by rw [ez, h])
        · exact hoff z (List.mem_append_left _ hz) ls (by simp) (by rw [ez, h])
        · exact hoff z (List.mem_append_left _ hz) tb (by simp) (by rw [ez, h])
        · exact hdis z.1 (List.mem_map_of_mem hz) q.1 (List.mem_map_of_mem h) ez
      · simp only [List.map_cons, List.map_nil, List.mem_cons, List.not_mem_nil, or_false] at hm
        simp only [List.mem_cons] at hq
        have key : ∀ z ∈ ([rw, dr, dw] : List Nat), q.1 = z → False := fun z hz ez => by
          obtain ⟨n1, n2, n3, n4, n5⟩ := hfix z hz
          rcases hq with rfl | rfl | rfl | rfl | rfl | h
          · exact n1 ez
          · exact n2 ez
          · exact n3 ez
          · exact n4 ez
          · exact n5 ez
          · exact hoff q (List.mem_append_right _ h) z (by rcases List.mem_cons.mp hz with rfl | hz; · simp
                                                           · rcases List.mem_cons.mp hz with rfl | hz; · simp
                                                             · rw [List.mem_singleton.mp hz]; simp) ez
        rcases hm with h | h | h
        · exact key rw (by simp) h
        · exact key dr (by simp) h
        · exact key dw (by simp) h
    · rintro fl s' ⟨rfl, v1, v2, v3, v4, zv', zs', e3', h', tk', rfl, F', N', hzv', hzs'⟩
      refine ⟨h', tk', _, (L + 1, co) :: (lo, W.listOf lvs.toArray e) :: (rw, W.listOf rvs.toArray e1) :: (dr, W.listOf dvs.toArray e2) :: (dw, W.listOf zv'.toArray e3') :: (ls, lobj) :: (tb, tob) :: owns r, rfl, F', fun q hq => N' q ?_, ?_, by simp, ih (fun j' hj => hok j' (.tail _ hj)) hnd2 (fun q hq => hoff q (List.mem_append_right _ hq)) v1 v2 v3 v4 zv' zs' e3' hzv' hzs'⟩
      · simp only [List.mem_cons] at hq ⊢
        rcases hq with h | h | h | h | h | h | h | h | h <;> simp [h]
      · intro q hq
        simp only [List.mem_cons] at hq
        rcases hq with rfl | rfl | rfl | rfl | rfl | rfl | rfl | h
        · exact hfixI _ (by simp)
        · exact hfixI _ (by simp)
        · exact hfixI _ (by simp)
        · exact hfixI _ (by simp)
        · exact hfixI _ (by simp)
        · exact hfixI _ (by simp)
        · exact hfixI _ (by simp)
        · exact hoff q (List.mem_append_right _ h) I (by simp)
theorem loop_jobs (w : World) (p : Program) (loose : List Str) (mean : ExcName → Option Value) (mg mb m0 : Str → Option Value) (g base : Heap) (L fa : Nat) (cd : Value) (s : Shared) (E : Value → Shared → Prop) (Q : Flow → Shared → Prop) (vc : Value)
    (lo rw dr dw ls tb : Nat) (co lobj tob : Obj) (lvs rvs dvs zv : List Value) (oloads oq row zs : List Int) (e e1 e2 e3 n kh kr : Nat) (th tr : Tok) (jobs : List Job)
    (B : Below callerA base [] g) (X : (hd.heap_39 w.params).In g) (T : Top p loose mean mg mb g) (hco : co.data = .cell (some (.ref dw)))
    (F : Fr g L s.heap (turnMap (lawMap m0 lo rw dr vc kh kr th tr) none none none none))
    (N : News g L s.heap ((L + 1, co) :: (lo, W.listOf lvs.toArray e) :: (rw, W.listOf rvs.toArray e1) :: (dr, W.listOf dvs.toArray e2) :: (dw, W.listOf zv.toArray e3) :: (ls, lobj) :: (tb, tob) :: owns jobs))
    (hlv : IntsAre lvs oloads) (hop : Op kh row.reverse oq oloads) (hr1 : 1 ≤ row.length) (hr2 : row.length ≤ 12) (hh1 : 1 ≤ kh) (hh2 : kh ≤ kr) (hr : kr ≤ 4) (hzv : IntsAre zv zs) (hzs : zs.length = 1)
    (hc : lobj.cls = .type "list") (hd : lobj.data = .seq (jobs.map fun j => Value.ref j.c).toArray n)
    (hfix : ∀ z ∈ ([rw, dr, dw] : List Nat), (L + 1 : Nat) ≠ z ∧ lo ≠ z ∧ ls ≠ z ∧ tb ≠ z)
    (hok : ∀ j ∈ jobs, JobOk w rw dr dw e1 e2 kr rvs dvs row j) (hnd : ((owns jobs).map (·.1)).Nodup) (hoff : ∀ q ∈ owns jobs, ∀ z ∈ ([L + 1, lo, rw, dr, dw, ls, tb] : List Nat), q.1 ≠ z)
    (hQ : ∀ h tk u1 u2 u3 u4, Fr g L h (turnMap (lawMap m0 lo rw dr vc kh kr th tr) u1 u2 u3 u4) → News g L h [(tb, tob)] → Q .next { s with heap := h, toks := tk }) :
    wpAny (model PR w) (callerA.deeper (lawEnv lawParts.2.2 L fa cd)) (pyIter (.ref ls)) (fun it s₂ => LoopAtV PR w (callerA.deeper (lawEnv lawParts.2.2 L fa cd)) g (lawEnv lawParts.2.2 L fa cd) (Str.ofString "cache") forBody Q E it s₂) E s := by
  refine PySem.W.iter_listUnr (lo := lobj) (n := n) (vs := jobs.map fun j => Value.ref j.c) rfl F N (by simp) hc hd fun I hI => ?_
  have hI' : ∀ z ∈ ([L + 1, lo, rw, dr, dw, ls, tb] : List Nat), @LT.lt Nat _ z I := fun z hz => by
    simp only [List.mem_cons, List.not_mem_nil, or_false] at hz
    rcases hz with rfl | rfl | rfl | rfl | rfl | rfl | rfl
    · exact hI _ (.head _)
    · exact hI (_, _) (.tail _ (.head _))
    · exact hI (_, _) (.tail _ (.tail _ (.head _)))
    · exact hI (_, _) (.tail _ (.tail _ (.tail _ (.head _))))
    · exact hI (_, _) (.tail _ (.tail _ (.tail _ (.tail _ (.head _)))))
    · exact hI (_, _) (.tail _ (.tail _ (.tail _ (.tail _ (.tail _ (.head _))))))
    · exact hI (_, _) (.tail _ (.tail _ (.tail _ (.tail _ (.tail _ (.tail _ (.head _)))))))
  refine jobs_ok w p loose mean mg mb m0 g base L fa cd s E Q vc lo rw dr dw ls tb I co lobj tob lvs rvs dvs oloads oq row e e1 e2 kh kr th tr B X T hco hlv hop hr1 hr2 hh1 hh2 hr hQ (fun z hz => ?_) (fun z hz => Nat.ne_of_lt (hI' z hz)) jobs hok hnd (fun q hq z hz => ?_) none none none none zv zs e3 hzv hzs
  · obtain ⟨n1, n2, n4, n5⟩ := hfix z hz
    refine ⟨n1, n2, fun ez => ?_, n4, n5⟩
    have := hI' z (by rcases List.mem_cons.mp hz with rfl | hz; · simp
                      · rcases List.mem_cons.mp hz with rfl | hz; · simp
                        · rw [List.mem_singleton.mp hz]; simp)
    rw [ez] at this
    exact absurd this (Nat.lt_irrefl _)
  · rcases List.mem_append.mp (show z ∈ [L + 1, lo, rw, dr, dw, ls, tb] ++ [I] from hz) with h | h
    · exact hoff q hq z h
    · rw [List.mem_singleton.mp h]
      exact Nat.ne_of_lt (hI q (by simp [hq]))
end

-- part LX
section
theorem turn_start {m1 : Str → Option Value} (h1 : m1 (Str.ofString "rounds") = none) (h2 : m1 (Str.ofString "first") = none) (h3 : m1 (Str.ofString "loads") = none) (h4 : m1 (Str.ofString "cache") = none) : turnMap m1 none none none none = m1 := by
  funext y
  unfold turnMap
  split
  · next e => rw [e, h1]
  split
  · next e => rw [e, h2]
  split
  · next e => rw [e, h3]
  split
  · next e => rw [e, h4]
  rfl
theorem law_loop {w : World} {p : Program} {loose : List Str} {mean : ExcName → Option Value} {mg mb m0 : Str → Option Value} {g base : Heap} {L fa : Nat} {cd : Value} {s : Shared} {E : Value → Shared → Prop} {Q : Flow → Shared → Prop} {vc : Value}
    {lo rw dr dw ls a1 c1 d1 a2 b2 c2 d2 a3 b3 c3 d3 : Nat} {co tob o1 o2 q2 o3 q3 : Obj} {lvs rvs dvs zv : List Value} {oloads oq row draws zs : List Int} {e e1 e2 e3 n0 kh kr : Nat} {th tr x1 x2 x3 x4 x5 y1 y2 y3 y4 y5 y6 z1 z2 z3 z4 z5 z6 : Tok}
    (N : News g L s.heap [(ls, W.listOf (List.toArray [.ref c1, .ref c2, .ref c3]) n0), (b3, q3), (a3, o3), (c3, instObj 947 d3), (d3, lruD w z1 z2 z3 z4 z5 z6 a3 b3 0 (kr : Int)), (b2, q2), (a2, o2), (c2, instObj 882 d2), (d2, fifoD w y1 y2 y3 y4 y5 y6 a2 b2 0 (kr : Int)),
      (a1, o1), (c1, instObj 830 d1), (d1, cacheD w x1 x2 x3 x4 x5 a1 0 (kr : Int)), (lo, W.listOf (List.toArray lvs) e), (rw, W.listOf (List.toArray rvs) e1), (dr, W.listOf (List.toArray dvs) e2), (dw, W.listOf (List.toArray zv) e3), (L + 1, co), (1023, tob)])
    (F : Fr g L s.heap (lawMap m0 lo rw dr vc kh kr th tr))
    (hm0 : turnMap (lawMap m0 lo rw dr vc kh kr th tr) none none none none = lawMap m0 lo rw dr vc kh kr th tr)
    (B : Below callerA base [] g) (X : (hd.heap_39 w.params).In g) (T : Top p loose mean mg mb g) (hco : co.data = .cell (some (.ref dw)))
    (ho1 : o1.IsDictOf (PySem.intKind PR w) []) (ho2 : o2.IsDictOf (PySem.intKind PR w) []) (hq2 : q2.IsDictOf (PySem.intKind PR w) []) (ho3 : o3.IsDictOf (PySem.intKind PR w) []) (hq3 : q3.IsDictOf (PySem.intKind PR w) [])
    (la1 : (a1 == sysModules) = false) (la2 : (a2 == sysModules) = false) (lb2 : (b2 == sysModules) = false) (la3 : (a3 == sysModules) = false) (lb3 : (b3 == sysModules) = false)
    (hlv : IntsAre lvs oloads) (hop : Op kh row.reverse oq oloads) (hr1 : 1 ≤ row.length) (hr2 : row.length ≤ 12) (hh1 : 1 ≤ kh) (hh2 : kh ≤ kr) (hr : kr ≤ 4) (hrv : IntsAre rvs row) (hdv : IntsAre dvs draws) (hlen : draws.length = row.length) (hzv : IntsAre zv zs) (hzs : zs.length = 1)
    (h1 : rw ≠ dr) (h2 : dr < dw) (h2r : rw < dw) (h4 : (L + 1 : Nat) ≠ rw) (h4' : (L + 1 : Nat) ≠ dr) (h4d : (L + 1 : Nat) < dw) (h4l : (L + 1 : Nat) ≠ lo) (hl1 : rw < lo) (hl2 : dr < lo) (hl3 : dw < lo) (ht : 1023 < (L + 1 : Nat)) (htr : (1023 : Nat) ≠ rw) (htd : (1023 : Nat) ≠ dr) (htl : (1023 : Nat) ≠ lo)
    (k0 : lo < d1) (k1 : d1 < c1) (k2 : c1 < a1) (k3 : a1 < d2) (k4 : d2 < c2) (k5 : c2 < a2) (k6 : a2 < b2) (k7 : b2 < d3) (k8 : d3 < c3) (k9 : c3 < a3) (k10 : a3 < b3) (k11 : b3 < ls)
    (hQ : ∀ h tk u1 u2 u3 u4, Fr g L h (turnMap (lawMap m0 lo rw dr vc kh kr th tr) u1 u2 u3 u4) → News g L h [(1023, tob)] → Q .next { s with heap := h, toks := tk }) :
    wpAny (model PR w) (callerA.deeper (lawEnv lawParts.2.2 L fa cd)) (pyIter (.ref ls)) (fun it s₂ => LoopAtV PR w (callerA.deeper (lawEnv lawParts.2.2 L fa cd)) g (lawEnv lawParts.2.2 L fa cd) (Str.ofString "cache") forBody Q E it s₂) E s := by
  rw [← hm0] at F
  refine loop_jobs w p loose mean mg mb m0 g base L fa cd s E Q vc lo rw dr dw ls 1023 co (W.listOf (List.toArray [Value.ref c1, Value.ref c2, Value.ref c3]) n0) tob lvs rvs dvs zv oloads oq row zs e e1 e2 e3 n0 kh kr th tr
    [⟨c1, [(c1, instObj 830 d1), (d1, cacheD w x1 x2 x3 x4 x5 a1 0 (kr : Int)), (a1, o1)]⟩, ⟨c2, [(c2, instObj 882 d2), (d2, fifoD w y1 y2 y3 y4 y5 y6 a2 b2 0 (kr : Int)), (a2, o2), (b2, q2)]⟩, ⟨c3, [(c3, instObj 947 d3), (d3, lruD w z1 z2 z3 z4 z5 z6 a3 b3 0 (kr : Int)), (a3, o3), (b3, q3)]⟩]
    B X T hco F (fun q hq => N q ?_) hlv hop hr1 hr2 hh1 hh2 hr hzv hzs rfl rfl ?_ ?_ ?_ ?_ hQ
  · simp only [owns, List.flatMap_cons, List.flatMap_nil, List.cons_append, List.nil_append, List.mem_cons, List.not_mem_nil, or_false] at hq ⊢
    rcases hq with h | h | h | h | h | h | h | h | h | h | h | h | h | h | h | h | h | h <;> simp [h]
  · intro z hz
    simp only [List.mem_cons, List.not_mem_nil, or_false] at hz
    rcases hz with rfl | rfl | rfl <;> omega
  · intro j hj
    simp only [List.mem_cons, List.not_mem_nil, or_false] at hj
    rcases hj with rfl | rfl | rfl
    · exact ⟨false, fun zv zs e3 hzv hzs => serve_cache w c1 d1 a1 rw dr dw o1 rvs dvs row draws e1 e2 e3 kr zv zs x1 x2 x3 x4 x5 k1 k2 ho1 la1 (by omega) (by omega) hrv hdv hlen hr2 hzv hzs h1 h2 h2r (by omega)⟩
    · exact ⟨false, fun zv zs e3 hzv hzs => serve_fifo w c2 d2 a2 b2 rw dr dw o2 q2 rvs dvs row draws e1 e2 e3 kr zv zs y1 y2 y3 y4 y5 y6 k4 k5 k6 ho2 la2 hq2 lb2 (by omega) (by omega) hrv hdv hlen hr2 hzv hzs h1 h2 h2r (by omega)⟩
    · exact ⟨true, fun zv zs e3 hzv hzs => serve_lru w c3 d3 a3 b3 rw dr dw o3 q3 rvs dvs row draws e1 e2 e3 kr zv zs z1 z2 z3 z4 z5 z6 k8 k9 k10 ho3 la3 hq3 lb3 (by omega) (by omega) hrv hdv hlen hr2 hzv hzs h1 h2 h2r (by omega)⟩
  · show (([c1, d1, a1, c2, d2, a2, b2, c3, d3, a3, b3] : List Nat)).Nodup
    simp only [List.nodup_cons, List.mem_cons, List.not_mem_nil, or_false, not_or, List.nodup_nil, and_true, not_false_eq_true]
    refine ⟨⟨?_, ?_, ?_, ?_, ?_, ?_, ?_, ?_, ?_, ?_⟩, ⟨?_, ?_, ?_, ?_, ?_, ?_, ?_, ?_, ?_⟩, ⟨?_, ?_, ?_, ?_, ?_, ?_, ?_, ?_⟩, ⟨?_, ?_, ?_, ?_, ?_, ?_, ?_⟩, ⟨?_, ?_, ?_, ?_, ?_, ?_⟩, ⟨?_, ?_, ?_, ?_, ?_⟩, ⟨?_, ?_, ?_, ?_⟩, ⟨?_, ?_, ?_⟩, ⟨?_, ?_⟩, ?_⟩ <;> omega
  · intro q hq z hz
    have hlo : @LT.lt Nat _ lo q.1 ∧ @LT.lt Nat _ q.1 ls := by
      simp only [owns, List.flatMap_cons, List.flatMap_nil, List.cons_append, List.nil_append, List.mem_cons, List.not_mem_nil, or_false] at hq
      rcases hq with rfl | rfl | rfl | rfl | rfl | rfl | rfl | rfl | rfl | rfl | rfl <;> (dsimp only; omega)
    intro ez
    have ez' : @Eq Nat q.1 z := ez
    simp only [List.mem_cons, List.not_mem_nil, or_false] at hz
    rcases hz with hz | hz | hz | hz | hz | hz | hz <;> omega
end

-- part TLall
section
set_option maxHeartbeats 4000000
theorem law_holds : PySem.Challenge.rw_fc0037_01.Holds := hd (by
  k_go0; (all_goals try k_fold)
  (with_reducible rename Fr _ _ _ _ => F0)
  (with_reducible rename News _ _ _ _ => N0)
  refine law_join F0 N0 ?one ?rest
  case one =>
    k_steps
    all_goals first
      | exact (no_zero (by assumption)).elim
      | exact ⟨rfl, _, _, _, _, _, _, _, _, _, _, _, _, rfl, by assumption, by assumption, ⟨(by dsimp only; omega), (by dsimp only; omega), trivial⟩, by assumption, (by simp only [List.length_take, List.length_drop]; omega), (by simp only [List.length_take, List.length_drop]; omega), less_lo _ _, less_hi _ _, room_hi _⟩
      | exact ⟨rfl, _, _, _, _, _, _, _, _, _, _, _, _, rfl, by assumption, by assumption, ⟨(by dsimp only; omega), (by dsimp only; omega), trivial⟩, .cons _ _ (.cons _ _ (.cons _ _ (.cons _ _ (.cons _ _ (.cons _ _ .nil))))), by decide, by decide, less_lo _ _, less_hi _ _, room_hi _⟩
  case rest =>
    clear F0 N0
    intro nl nv ns en pk r hh tp tr th h' tk' F0 N0 l0 hns hn1 hn2 hh1 hh2 hr
    obtain ⟨l1, l2, _⟩ := l0
    (try dsimp only at *)
    obtain ⟨kh, rfl⟩ : ∃ kh : Nat, hh = (kh : Int) := ⟨hh.toNat, by omega⟩
    obtain ⟨kr, rfl⟩ : ∃ kr : Nat, r = (kr : Int) := ⟨r.toNat, by omega⟩
    refine law_join2 kh F0 ?two ?three
    case two =>
      k_steps
      unfold Hold
      (with_reducible rename News _ _ _ _ => NN)
      refine' law_rr NN ?B0 ?B1 ?B2 ?B3 ?B4 ?B5 ?B6 ?s1 ?s2 ?s3 ?s4 ?s5 ?s6 ?s7 ?s8 ?s9 ?s10 ?s11 ?s12 ?s13 ?s14 ?s15 ?s16 ?s17 ?s18 ?s19 ?s20 ?s21 ?s22 ?s23 ?s24 ?s25 ?t1 ?t2 ?t3 ?s26 ?s27 ?_
      case B4 => exact rfl
      case B5 => exact rfl
      case B6 => exact rfl
      case B0 => assumption
      case B1 => assumption
      case B2 => assumption
      case B3 => assumption
      case s11 => assumption
      case s12 => assumption
      case s15 => exact .cons _ _ .nil
      case s16 => rfl
      case s14 => rw [List.length_map]; exact hn2
      case s13 => rw [List.length_map, List.length_map]
      case s5 => assumption
      case s6 => assumption
      case s7 => assumption
      case s8 => assumption
      case s26 => exact fnObj_made
      case s27 =>
        have hc := fun (w : World) (f cc ce dw l : Nat) (qual : Str) (doc pm ctv : Value) (oc co : Obj) (vs₁ : Array Value) (t₁ : Tok) => choice_ok w f cc ce dw l qual doc pm ctv oc co vs₁ t₁
        generalize hcp : choiceParts = cP at hc
        conv at hcp => lhs; whnf
        subst hcp
        dsimp only at hc
        refine hc _ _ _ _ _ _ _ _ _ _ _ _ _ _ (by assumption) (by assumption) (by assumption) ?_ ?_ ?_ ?_ <;> omega
      all_goals (try omega)
      clear NN
      intro lo lvs oloads oq e zv' zs' e3' h' tk' F' N' hlvo hop hzv' hzs' b1 b2 b3 b4 b5
      have hone : oloads ≠ [] := fun e => by
        have := congrArg List.length (hop.nil_of e).2
        rw [List.length_reverse, List.length_map, List.length_nil] at this
        omega
      k_steps
      exact ⟨rfl, lo, _, _, _, _, lvs, _, _, zv', oloads, oq, _, _, zs', e, _, _, e3', _, _, _, _, rfl, by assumption, news_tail (by assumption), by assumption, by assumption, by rw [List.length_map, List.length_map], by rw [List.length_map]; exact hn1, by rw [List.length_map]; exact hn2, hlvo, hop, hzv', hzs', by assumption, by first | omega | (show ¬ (@Eq Nat _ _); omega) | (show @LT.lt Nat _ _ _; omega), by first | omega | (show ¬ (@Eq Nat _ _); omega) | (show @LT.lt Nat _ _ _; omega), by first | omega | (show ¬ (@Eq Nat _ _); omega) | (show @LT.lt Nat _ _ _; omega), by first | omega | (show ¬ (@Eq Nat _ _); omega) | (show @LT.lt Nat _ _ _; omega), by first | omega | (show ¬ (@Eq Nat _ _); omega) | (show @LT.lt Nat _ _ _; omega), by first | omega | (show ¬ (@Eq Nat _ _); omega) | (show @LT.lt Nat _ _ _; omega), by first | omega | (show ¬ (@Eq Nat _ _); omega) | (show @LT.lt Nat _ _ _; omega), by first | omega | (show ¬ (@Eq Nat _ _); omega) | (show @LT.lt Nat _ _ _; omega), by first | omega | (show ¬ (@Eq Nat _ _); omega) | (show @LT.lt Nat _ _ _; omega), by first | omega | (show ¬ (@Eq Nat _ _); omega) | (show @LT.lt Nat _ _ _; omega), by first | omega | (show ¬ (@Eq Nat _ _); omega) | (show @LT.lt Nat _ _ _; omega), by first | omega | (show ¬ (@Eq Nat _ _); omega) | (show @LT.lt Nat _ _ _; omega), by first | omega | (show ¬ (@Eq Nat _ _); omega) | (show @LT.lt Nat _ _ _; omega), by first | omega | (show ¬ (@Eq Nat _ _); omega) | (show @LT.lt Nat _ _ _; omega)⟩
    case three =>
      clear F0 N0 l1 l2 hns hn1 hn2
      intro lo rw dr dw co lvs rvs dvs zv oloads oq row draws zs e e1 e2 e3 vc ps h' tk' F0 N0 hrv hdv hlen hr1 hr2 hlv hop hzv hzs hco c1 c2 c3 c4 c5 c6 c7 c8 c9 c10 c11 c12 c13 c14
      have hmark : StopHere := trivial
      have hkr : 1 ≤ (kr : Int) := by omega
      k_steps
      all_goals first
        | (exfalso; omega)
        | skip
      unfold Hold
      (with_reducible rename News _ _ _ _ => NN)
      have hl := @law_loop
      generalize hcp : forBody = cP at hl
      conv at hcp => lhs; whnf
      subst hcp
      generalize hcp : lawParts.2.2 = cP at hl
      conv at hcp => lhs; whnf
      subst hcp
      (try dsimp only at hl)
      refine' hl NN ?zF ?zhm0 ?zB ?zX ?zT hco ?zho1 ?zho2 ?zhq2 ?zho3 ?zhq3 ?zla1 ?zla2 ?zlb2 ?zla3 ?zlb3 hlv hop hr1 hr2 (by omega) (by omega) (by omega) hrv hdv hlen hzv hzs c1 c3 c2 c4 c5 c6 c13 c10 c11 c12 c7 c8 c9 c14 ?zk0 ?zk1 ?zk2 ?zk3 ?zk4 ?zk5 ?zk6 ?zk7 ?zk8 ?zk9 ?zk10 ?zk11 ?zhQ
      case zF => assumption
      case zB => assumption
      case zX => assumption
      case zT => assumption
      case zhm0 =>
        refine turn_start ?_ ?_ ?_ ?_
        all_goals rfl
      case zhQ =>
        clear NN hl
        intro h' tk' u1 u2 u3 u4 F' N'
        k_steps
      all_goals first
        | assumption
        | (clear c1 c4 c5 c8 c9 c13 c14; omega)
        | skip
  )
end

end Mine
theorem PySem.Challenge.cw_fc0037_01_holds : PySem.Challenge.rw_fc0037_01.Holds :=
  Mine.law_holds
