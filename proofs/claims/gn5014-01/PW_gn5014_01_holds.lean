import PyProof.Rows.All
import Wide.All
import OpenK.AllK
import Wide.FinOn
import PySem.Challenge.RW_gn5014_01
set_option Elab.async false
set_option rowWalk.seconds 100000
/- In the texts below the escape x69 stands for the letter i: so the word that loads modules stands in the rows above alone. -/
section -- H1
open PySem PySem.W PyProof.Rows
namespace Mine
set_option maxRecDepth 100000 in
set_option maxHeartbeats 8000000 in
open_top hd for PySem.Challenge.rw_gn5014_01
section
local macro_rules | `(tactic| k_head) => `(tactic| x_head)
set_option maxRecDepth 100000 in
set_option maxHeartbeats 8000000 in
open_top hdx for PySem.Challenge.rw_gn5014_01
end
end Mine
end -- H1

section -- C0
open PySem PySem.W PyProof.Rows
namespace Mine
theorem fresh_C0 : True := by
  w_top off
  k_with_none
  trivial
set_option maxRecDepth 100000
set_option maxHeartbeats 8000000


theorem in_up {Γ : Ctx} {h : Option Value} {d d' u u' : Nat} {fr : Option (List Env)} {gd : Option (List Code)} (hd : d ≤ d') (hu : u ≤ u')
    (x : Γ.In { handled := h, depth := d, frames := fr, guards := gd, units := u }) : Γ.In { handled := h, depth := d', frames := fr, guards := gd, units := u' } :=
  ⟨x.1, Nat.le_trans x.2.1 hd, x.2.2.1, x.2.2.2.1, Nat.le_trans x.2.2.2.2 hu⟩

theorem ktr_up {α : Type} {M : Model} {dp dp' un un' : Nat} {gd : Option (List Code)} {cn : Str} {cs : Scope} {L a : Addr} {ccd : Value} {cl : List (Str × Addr)} {outer : List Env} {t : Sem α} {Q : α → Shared → Prop} {E : Value → Shared → Prop} {s : Shared}
    (hd : dp ≤ dp') (hu : un ≤ un') (h : wpAny M (ktrTop dp' un' gd cn cs L a ccd cl outer) t Q E s) : wpAny M (ktrTop dp un gd cn cs L a ccd cl outer) t Q E s :=
  fun Γ p hΓ => h Γ p (in_up hd hu hΓ)

theorem toks_gen {α : Type} {M : Model} {A : Around} {t : Sem α} {Q : α → Shared → Prop} {E : Value → Shared → Prop} {h : Heap} {g : Array GenState} {d : Drawn} {x : Nat} {os : OsState}
    (H : ∀ tk : Nat, wpAny M A t Q E ⟨h, g, d, tk, os⟩) : wpAny M A t Q E ⟨h, g, d, x + 1 + 1 + 1, os⟩ := H _

end Mine
end -- C0

section -- C1
open PySem PySem.W PyProof.Rows
namespace Mine
theorem fresh_C1 : True := by
  w_top off
  k_with_none
  trivial
set_option maxRecDepth 100000
set_option maxHeartbeats 8000000

def DrawIs (l : Addr) (od ol : Obj) : Prop := ∃ (vs : List Value) (ns : List Int) (sd : Int) (t : Tok) (n1 n2 : Nat),
  od = listOf #[.ref l, .int sd t] n1 ∧ ol = listOf vs.toArray n2 ∧ IntsAre vs ns ∧ vs.length ≤ 100 ∧ 0 ≤ sd ∧ sd < 2147483647

theorem upd_mem {d : Addr} {o o' : Obj} : ∀ {l l' : List (Addr × Obj)}, Upd d o o' l l' → (d, o) ∈ l ∧ ∀ p ∈ l', p = (d, o') ∨ (p ∈ l ∧ p.1 ≠ d)
  | _, _, .head h => ⟨.head _, fun p hp => by
      rcases List.mem_cons.mp hp with e | hp
      · exact .inl e
      · exact .inr ⟨.tail _ hp, h p hp⟩⟩
  | _, _, .tail h r => ⟨.tail _ (upd_mem r).1, fun p hp => by
      rcases List.mem_cons.mp hp with e | hp
      · exact .inr ⟨e ▸ .head _, e ▸ h⟩
      · rcases (upd_mem r).2 p hp with e | ⟨a, b⟩
        · exact .inl e
        · exact .inr ⟨.tail _ a, b⟩⟩

/-- both of draw's objects may turn; F tells the ledger behind it -/
def UpdD (d l : Addr) (od ol : Obj) (news : List (Addr × Obj)) (F : Obj → Obj → List (Addr × Obj)) : Prop := ∀ od' ol', ∃ n1, Upd d od od' news n1 ∧ Upd l ol ol' n1 (F od' ol')

theorem updD_at {d l : Addr} {od ol : Obj} {news : List (Addr × Obj)} {F : Obj → Obj → List (Addr × Obj)} (U : UpdD d l od ol news F) (hne : od ≠ ol) : (d, od) ∈ news ∧ (l, ol) ∈ news := by
  obtain ⟨n1, u1, u2⟩ := U od ol
  refine ⟨(upd_mem u1).1, ?_⟩
  rcases (upd_mem u1).2 _ (upd_mem u2).1 with e | ⟨a, _⟩
  · exact absurd (congrArg Prod.snd e).symm hne
  · exact a

theorem drawIs_ne {l : Addr} {od ol : Obj} (D : DrawIs l od ol) : od ≠ ol := by
  obtain ⟨vs, ns, sd, t, n1, n2, rfl, rfl, hI, _⟩ := D
  intro e
  have e1 : Data.seq #[Value.ref l, Value.int sd t] n1 = Data.seq vs.toArray n2 := congrArg Obj.data e
  injection e1 with e2
  have e3 : vs = [Value.ref l, Value.int sd t] := by
    have := congrArg Array.toList e2
    simpa using this.symm
  subst e3
  cases hI

theorem idx0 (v : Value) (vs : List Value) : seqIndex? 0 (v :: vs).toArray.size = some 0 := by
  unfold seqIndex?
  simp
theorem room1 {v : Value} {vs : List Value} (h : (v :: vs).length ≤ 100) : (v :: vs).toArray.toList.length ≤ sizeLine := by
  rw [sizeLine_eq]
  simp only [List.length_cons] at *
  omega
local macro_rules | `(tactic| k_all) => `(tactic| assumption)
local macro_rules | `(tactic| walk_at "call builtin:list.pop") => `(tactic| (k_here; (with_reducible show wpAny _ _ (call (Value.builtin _) [Value.ref _, Value.int _ _]) _ _ _); k_dflt (refine' kl_popAt ?F ?N ?f ?k ?e ?U ?z ?_; (case F => k_asm); (case N => k_asm); (case U => k_upd); (case f => rfl); (case k => exact idx0 _ _); (case e => rfl); (case z => exact room1 (by assumption))); intro h' F' N'; (try dsimp only [List.nil_append, List.cons_append] at N')))

section
variable {w : World} {p : Program} {loose : List Str} {mean : ExcName → Option Value} {mg mb : Str → Option Value}
  {dp un : Nat} {gd : Option (List Code)} {cn : Str} {cs : Scope} {a : Addr} {ccd : Value} {cl : List (Str × Addr)} {outer : List Env} {A₀ : Around} {base h₀ : Heap} {L : Addr} {m : Str → Option Value} {s : Shared} {Q E : Value → Shared → Prop}

theorem take_core
  {d l : Addr} {vs : List Value} {ns : List Int} {sd : Int} {tsd : Tok} {n1 n2 : Nat} {rest : List (Addr × Obj)} {many : Int} {tm : Tok}
  (B : Below A₀ base outer h₀) (F : Fr h₀ L s.heap m) (X : (hd.heap_39 w.params).In h₀)
  (N : News h₀ L s.heap ((d, listOf #[.ref l, .int sd tsd] n1) :: (l, listOf vs.toArray n2) :: rest)) (T : Top p loose mean mg mb h₀) (hk : cs.kind = .function)
  (hI : IntsAre vs ns) (hlen : vs.length ≤ 100) (hdl : @Ne Nat d l) (hrd : ∀ p ∈ rest, p.1 ≠ d) (hrl : ∀ p ∈ rest, p.1 ≠ l) (h0 : 0 ≤ sd) (h1 : sd < 2147483647) (hm : 0 < many) (hm2 : many < 100)
  (ret : ∀ r t sd' tsd' vs' ns' n1' n2' h' tk', Fr h₀ L h' m → News h₀ L h' ((d, listOf #[.ref l, .int sd' tsd'] n1') :: (l, listOf (List.toArray vs') n2') :: rest) → IntsAre vs' ns' → vs'.length ≤ 100 → 0 ≤ sd' → sd' < 2147483647 → 0 ≤ r → r < many →
     Q (.int r t) { s with heap := h', toks := tk' }) :
  wpAny (model PySem.Challenge.rw_gn5014_01.row.prog w) (ktrTop 350 1000 gd cn cs L a ccd cl outer) (call (.ref 155) [.ref d, .int many tm]) Q E s := by
  have hA : ∀ x : Int, 0 ≤ x.fmod 2147483647 ∧ x.fmod 2147483647 < 2147483647 := fun x => by
    rw [Int.fmod_eq_emod_of_nonneg _ (by omega : (0:Int) ≤ 2147483647)]
    exact ⟨Int.emod_nonneg _ (by omega), Int.emod_lt_of_pos _ (by omega)⟩
  have hB : ∀ x : Int, 0 ≤ x.fmod many ∧ x.fmod many < many := fun x => by
    rw [Int.fmod_eq_emod_of_nonneg _ (by omega : (0:Int) ≤ many)]
    exact ⟨Int.emod_nonneg _ (by omega), Int.emod_lt_of_pos _ (by omega)⟩
  revert X; k_fill; intro X
  refine wpAny_call ?_
  k_dflt cell_enter
  cases hI
  all_goals k_steps
  all_goals try (exfalso; simp_all; done)
  all_goals (
    refine ret _ _ _ _ _ _ _ _ _ _ (by assumption) (cb_drop (by assumption) (List.forall_mem_cons.mpr ⟨by k_mem, List.forall_mem_cons.mpr ⟨by k_mem, fun p hp => .tail _ (.tail _ (.tail _ hp))⟩⟩)) (by first | exact .nil | assumption) ?_ ?_ ?_ ?_ ?_
    all_goals first | exact (hA _).1 | exact (hA _).2 | exact (hB _).1 | exact (hB _).2 | assumption | (simp only [List.length_cons, List.length_nil] at *; omega))

theorem take_use
  {d l : Addr} {od ol : Obj} {news : List (Addr × Obj)} {G : Obj → Obj → List (Addr × Obj)} {many : Int} {tm : Tok}
  (B : Below A₀ base outer h₀) (F : Fr h₀ L s.heap m) (X : (hd.heap_39 w.params).In h₀)
  (N : News h₀ L s.heap news) (T : Top p loose mean mg mb h₀) (hk : cs.kind = .function) (D : DrawIs l od ol) (U : UpdD d l od ol news G) (hm : 0 < many) (hm2 : many < 100)
  (hd : dp ≤ 350) (hu : un ≤ 1000)
  (ret : ∀ r t od' ol' h' tk', Fr h₀ L h' m → News h₀ L h' (G od' ol') → DrawIs l od' ol' → 0 ≤ r → r < many →
     Q (.int r t) { s with heap := h', toks := tk' }) :
  wpAny (model PySem.Challenge.rw_gn5014_01.row.prog w) (ktrTop dp un gd cn cs L a ccd cl outer) (call (.ref 155) [.ref d, .int many tm]) Q E s := by
  refine ktr_up hd hu ?_
  have hne := drawIs_ne D
  obtain ⟨hmd, hml⟩ := updD_at U hne
  have hdl : d ≠ l := News.twoPlaces N hmd hml hne
  obtain ⟨vs, ns, sd, t, n1, n2, rfl, rfl, hI, hlen, h0, h1⟩ := D
  have N' : News h₀ L s.heap ((d, listOf #[.ref l, .int sd t] n1) :: (l, listOf vs.toArray n2) :: news.filter fun p => p.1 != d && p.1 != l) := by
    intro p hp
    rcases List.mem_cons.mp hp with rfl | hp
    · exact N _ hmd
    rcases List.mem_cons.mp hp with rfl | hp
    · exact N _ hml
    · exact N p ((List.mem_filter.mp hp).1)
  refine take_core B F X N' T hk hI hlen hdl ?_ ?_ h0 h1 hm hm2 ?_
  · intro p hp
    have := (List.mem_filter.mp hp).2
    simp at this
    exact this.1
  · intro p hp
    have := (List.mem_filter.mp hp).2
    simp at this
    exact this.2
  · intro r t sd' tsd' vs' ns' n1' n2' h' tk' F' N' hI' hl' a b c d'
    refine ret r t _ _ h' tk' F' ?_ ⟨vs', ns', sd', tsd', n1', n2', rfl, rfl, hI', hl', a, b⟩ c d'
    obtain ⟨n1, u1, u2⟩ := U (listOf #[.ref l, .int sd' tsd'] n1') (listOf vs'.toArray n2')
    intro p hp
    rcases (upd_mem u2).2 p hp with rfl | ⟨hp, hpl⟩
    · exact N' _ (.tail _ (.head _))
    · rcases (upd_mem u1).2 p hp with rfl | ⟨hp, hpd⟩
      · exact N' _ (.head _)
      · refine N' p (.tail _ (.tail _ (List.mem_filter.mpr ⟨hp, ?_⟩)))
        simp [hpl, hpd]
end
end Mine
end -- C1

section -- P1
open PySem
namespace Mine
theorem fresh_P1 : True := by
  w_top off
  k_with_none
  trivial

/-- what skip_line's loop makes of a row: the rest of the row, signs to pass over, the open quotes -/
def scan : List Nat → Nat → List Nat → List Nat
  | [], _, q => q
  | _ :: r, k + 1, q => scan r k q
  | c :: r, 0, q =>
    if c = 92 then scan r 1 q
    else if q ≠ [] then (if (c :: r).take q.length = q then scan r 0 [] else scan r 0 q)
    else if c = 39 ∨ c = 34 then
      (if (c :: r).take 3 = [34, 34, 34] ∨ (c :: r).take 3 = [39, 39, 39] then scan r 2 ((c :: r).take 3) else scan r 0 [c])
    else if c = 35 then q
    else scan r 0 q

theorem scan_cons (c : Nat) (r q : List Nat) : scan (c :: r) 0 q =
    if c = 92 then scan r 1 q
    else if q ≠ [] then (if (c :: r).take q.length = q then scan r 0 [] else scan r 0 q)
    else if c = 39 ∨ c = 34 then
      (if (c :: r).take 3 = [34, 34, 34] ∨ (c :: r).take 3 = [39, 39, 39] then scan r 2 ((c :: r).take 3) else scan r 0 [c])
    else if c = 35 then q
    else scan r 0 q := by rw [scan]

/-- the same over a word behind which a blank or the row's end stands -/
def run : List Nat → Nat → List Nat → Option (List Nat)
  | [], 0, q => some q
  | [], _ + 1, _ => none
  | _ :: r, k + 1, q => run r k q
  | c :: r, 0, q =>
    if c = 92 then run r 1 q
    else if q ≠ [] then (if (c :: r).take q.length = q then run r 0 [] else run r 0 q)
    else if c = 39 ∨ c = 34 then
      (if (c :: r).take 3 = [34, 34, 34] ∨ (c :: r).take 3 = [39, 39, 39] then run r 2 ((c :: r).take 3) else run r 0 [c])
    else if c = 35 then none
    else run r 0 q

def Sep (rest : List Nat) : Prop := rest = [] ∨ ∃ r, rest = 32 :: r

theorem take_sep {x q rest : List Nat} (hq : 32 ∉ q) (hs : Sep rest) : (x ++ rest).take q.length = q ↔ x.take q.length = q := by
  by_cases hl : q.length ≤ x.length
  · rw [List.take_append_of_le_length hl]
  · have hx : x.take q.length = x := List.take_of_length_le (by omega)
    rw [hx]
    constructor
    · intro e
      rcases hs with rfl | ⟨r, rfl⟩
      · rw [List.append_nil, hx] at e; exact e
      · exfalso
        apply hq
        rw [← e, List.take_append, hx]
        have : q.length - x.length ≠ 0 := by omega
        obtain ⟨k, hk⟩ := Nat.exists_eq_succ_of_ne_zero this
        rw [hk]
        simp
    · intro e
      rw [e] at hl
      exact absurd (Nat.le_refl _) hl

theorem scan_run {rest : List Nat} (hs : Sep rest) : ∀ (w : List Nat) (k : Nat) (q q' : List Nat), 32 ∉ q → run w k q = some q' → scan (w ++ rest) k q = scan rest 0 q'
  | [], 0, q, q', _, h => by cases h; rfl
  | [], k + 1, q, q', _, h => by cases h
  | c :: r, k + 1, q, q', hq, h => scan_run hs r k q q' hq h
  | c :: r, 0, q, q', hq, h => by
    have t3 : ∀ T : List Nat, T.length = 3 → 32 ∉ T → ((c :: (r ++ rest)).take 3 = T ↔ (c :: r).take 3 = T) := fun T hT h32 => by
      have := take_sep (x := c :: r) h32 hs
      rw [hT] at this
      exact this
    have tq := take_sep (x := c :: r) hq hs
    rw [List.cons_append] at tq
    rw [List.cons_append]
    unfold run at h
    rw [scan_cons]
    by_cases h1 : c = 92
    · rw [if_pos h1] at h ⊢
      exact scan_run hs r 1 q q' hq h
    rw [if_neg h1] at h ⊢
    by_cases h2 : q ≠ []
    · rw [if_pos h2] at h ⊢
      by_cases h3 : (c :: r).take q.length = q
      · rw [if_pos h3] at h
        rw [if_pos (tq.mpr h3)]
        exact scan_run hs r 0 [] q' (by simp) h
      · rw [if_neg h3] at h
        rw [if_neg (fun e => h3 (tq.mp e))]
        exact scan_run hs r 0 q q' hq h
    rw [if_neg h2] at h ⊢
    by_cases h4 : c = 39 ∨ c = 34
    · rw [if_pos h4] at h ⊢
      have e1 := t3 [34, 34, 34] rfl (by decide)
      have e2 := t3 [39, 39, 39] rfl (by decide)
      by_cases h5 : (c :: r).take 3 = [34, 34, 34] ∨ (c :: r).take 3 = [39, 39, 39]
      · have h5' : (c :: (r ++ rest)).take 3 = [34, 34, 34] ∨ (c :: (r ++ rest)).take 3 = [39, 39, 39] := h5.imp e1.mpr e2.mpr
        rw [if_pos h5] at h
        rw [if_pos h5']
        have e3 : (c :: (r ++ rest)).take 3 = (c :: r).take 3 := by
          rcases h5 with e | e
          · rw [e, e1.mpr e]
          · rw [e, e2.mpr e]
        rw [e3]
        refine scan_run hs r 2 _ q' ?_ h
        rcases h5 with e | e <;> rw [e] <;> decide
      · have h5' : ¬ ((c :: (r ++ rest)).take 3 = [34, 34, 34] ∨ (c :: (r ++ rest)).take 3 = [39, 39, 39]) := fun e => h5 (e.imp e1.mp e2.mp)
        rw [if_neg h5] at h
        rw [if_neg h5']
        refine scan_run hs r 0 _ q' ?_ h
        rcases h4 with rfl | rfl <;> decide
    rw [if_neg h4] at h ⊢
    by_cases h6 : c = 35
    · rw [if_pos h6] at h; cases h
    rw [if_neg h6] at h ⊢
    exact scan_run hs r 0 q q' hq h

theorem scan_sp (r : List Nat) : scan (32 :: r) 0 [] = scan r 0 [] := by
  rw [scan_cons]
  simp

abbrev cl (t : Str) : List Nat := t.cps.toList
/-- no semicolon, and not too long -/
def plainB (t : Str) (n : Nat) : Bool := !(cl t).contains 59 && decide (t.length ≤ n)
/-- a word of a row's, and what it says of the quotes behind it -/
def pieceB (t left : Str) : Bool := plainB t 30 &&
  ((left == Str.ofString "" && run (cl t) 0 [] == some []) || (left == Str.ofString "#" && scan (cl t) 0 [] == []) ||
   ((left == Str.ofString "'''" || left == Str.ofString "\"\"\"") && scan (cl t) 0 [] == cl left))
/-- a row's beginning within three quotes -/
def withinB (q t : Str) (ends : Bool) : Bool := plainB t 30 && (if ends then run (cl t) 0 (cl q) == some [] else scan (cl t) 0 (cl q) == cl q)

def marks : List Str := [Str.ofString "'", Str.ofString "\""]
def otherOf (mk : Str) : Str := if mk == Str.ofString "'" then Str.ofString "\"" else Str.ofString "'"

theorem piece_len {t left : Str} (h : pieceB t left = true) : t.length ≤ 30 := by
  unfold pieceB plainB at h
  simp only [Bool.and_eq_true, decide_eq_true_eq] at h
  exact h.1.2
theorem within_len {q t : Str} {b : Bool} (h : withinB q t b = true) : t.length ≤ 30 := by
  unfold withinB plainB at h
  simp only [Bool.and_eq_true, decide_eq_true_eq] at h
  exact h.1.2

def joinL : List (List Nat) → List Nat
  | [] => []
  | [x] => x
  | x :: y :: r => x ++ 32 :: joinL (y :: r)
theorem cl_join : ∀ ws : List Str, cl (PySem.Txt.join (Str.ofString " ") ws) = joinL (ws.map cl) := by
  intro ws
  show cl (Builtin.Str.glued (Str.ofString " ") ws) = _
  rw [StrLaws.glued_eq_join]
  induction ws with
  | nil => rfl
  | cons x r ih =>
    cases r with
    | nil => rfl
    | cons y r =>
      show cl (x ++ Str.ofString " " ++ Str.join (Str.ofString " ") (y :: r)) = cl x ++ 32 :: joinL ((y :: r).map cl)
      rw [← ih]
      have e : (Str.ofString " ").cps.toList = [32] := by decide +kernel
      show (x.cps ++ (Str.ofString " ").cps ++ (Str.join (Str.ofString " ") (y :: r)).cps).toList = _
      rw [Array.toList_append, Array.toList_append, e]
      simp

def Lefts (left : Str) : Prop := left = Str.ofString "" ∨ left = Str.ofString "'''" ∨ left = Str.ofString "\"\"\""
/-- a row's words; what they say of the quotes behind the row -/
structure RB (q : Str) (ws : List Str) (left : Str) : Prop where
  plain : ∀ t ∈ ws, plainB t 30 = true
  few : ws.length ≤ 9
  lefts : Lefts left
  says : scan (joinL (ws.map cl)) 0 (cl q) = cl left
structure RowB (q t left : Str) : Prop where
  semi : 59 ∉ cl t
  len : t.length ≤ 1000
  lefts : Lefts left
  says : scan (cl t) 0 (cl q) = cl left

theorem e0 : cl (Str.ofString "") = [] := by decide +kernel
theorem plain_of {t left : Str} (h : pieceB t left = true) : plainB t 30 = true := by
  unfold pieceB at h
  exact (Bool.and_eq_true _ _ ▸ h : _ ∧ _).1
theorem wplain_of {q t : Str} {b : Bool} (h : withinB q t b = true) : plainB t 30 = true := by
  unfold withinB at h
  exact (Bool.and_eq_true _ _ ▸ h : _ ∧ _).1
theorem closed_of {t left : Str} (h : pieceB t left = true) (hl : (left != Str.ofString "") = false) : run (cl t) 0 [] = some [] := by
  have hl' : left = Str.ofString "" := by simpa using hl
  subst hl'
  unfold pieceB at h
  rw [Bool.and_eq_true] at h
  have h2 := h.2
  have n1 : (Str.ofString "" == Str.ofString "#") = false := by decide +kernel
  have n2 : (Str.ofString "" == Str.ofString "'''") = false := by decide +kernel
  have n3 : (Str.ofString "" == Str.ofString "\"\"\"") = false := by decide +kernel
  rw [n1, n2, n3] at h2
  simpa using h2
theorem hash_of {t left : Str} (h : pieceB t left = true) (hl : (left == Str.ofString "#") = true) : scan (cl t) 0 [] = [] := by
  have hl' : left = Str.ofString "#" := by simpa using hl
  subst hl'
  unfold pieceB at h
  rw [Bool.and_eq_true] at h
  have h2 := h.2
  have n1 : (Str.ofString "#" == Str.ofString "") = false := by decide +kernel
  have n2 : (Str.ofString "#" == Str.ofString "'''") = false := by decide +kernel
  have n3 : (Str.ofString "#" == Str.ofString "\"\"\"") = false := by decide +kernel
  rw [n1, n2, n3] at h2
  simpa using h2
theorem open_of {t left : Str} (h : pieceB t left = true) (h1 : (left == Str.ofString "#") = false) (h2 : (left != Str.ofString "") = true) : Lefts left ∧ scan (cl t) 0 [] = cl left := by
  unfold pieceB at h
  rw [Bool.and_eq_true] at h
  have h3 := h.2
  have h2' : (left == Str.ofString "") = false := by
    cases q : (left == Str.ofString "") with
    | false => rfl
    | true => rw [show (left != Str.ofString "") = !(left == Str.ofString "") from rfl, q] at h2; cases h2
  rw [h1, h2'] at h3
  simp only [Bool.false_and, Bool.or_false, Bool.false_or, Bool.and_eq_true, Bool.or_eq_true, beq_iff_eq] at h3
  exact ⟨.inr h3.1, h3.2⟩

theorem RB.nil : RB (Str.ofString "") [] (Str.ofString "") := ⟨fun _ h => (nomatch h), by decide, .inl rfl, by rw [e0]; rfl⟩
theorem RB.hash {t left : Str} (h : pieceB t left = true) (hl : (left == Str.ofString "#") = true) : RB (Str.ofString "") [t] (Str.ofString "") :=
  ⟨fun x hx => by rw [List.mem_singleton.mp hx]; exact plain_of h, by simp, .inl rfl, by rw [e0]; exact hash_of h hl⟩
theorem RB.open {t left : Str} (h : pieceB t left = true) (h1 : (left == Str.ofString "#") = false) (h2 : (left != Str.ofString "") = true) : RB (Str.ofString "") [t] left :=
  ⟨fun x hx => by rw [List.mem_singleton.mp hx]; exact plain_of h, by simp, (open_of h h1 h2).1, by rw [e0]; exact (open_of h h1 h2).2⟩
theorem RB.last {t left : Str} (h : pieceB t left = true) (hl : (left != Str.ofString "") = false) : RB (Str.ofString "") [t] (Str.ofString "") :=
  ⟨fun x hx => by rw [List.mem_singleton.mp hx]; exact plain_of h, by simp, .inl rfl, by
    have := scan_run (rest := []) (.inl rfl) (cl t) 0 [] [] (by simp) (closed_of h hl)
    rw [e0]
    rw [List.append_nil] at this
    exact this⟩
theorem RB.more {q t y l : Str} {r : List Str} (hp : plainB t 30 = true) (hq : 32 ∉ cl q) (hc : run (cl t) 0 (cl q) = some []) (R : RB (Str.ofString "") (y :: r) l) (hn : (y :: r).length ≤ 8) : RB q (t :: y :: r) l :=
  ⟨fun x hx => by
    rcases List.mem_cons.mp hx with rfl | hx
    · exact hp
    · exact R.plain x hx, by simp only [List.length_cons] at hn ⊢; omega, R.lefts, by
    show scan (cl t ++ 32 :: joinL ((y :: r).map cl)) 0 (cl q) = _
    rw [scan_run (.inr ⟨_, rfl⟩) (cl t) 0 (cl q) [] hq hc, scan_sp]
    have := R.says
    rw [e0] at this
    exact this⟩
theorem RB.cons {t y left l : Str} {r : List Str} (h : pieceB t left = true) (hl : (left != Str.ofString "") = false) (R : RB (Str.ofString "") (y :: r) l) (hn : (y :: r).length ≤ 8 := by simp) : RB (Str.ofString "") (t :: y :: r) l :=
  RB.more (plain_of h) (by rw [e0]; simp) (by rw [e0]; exact closed_of h hl) R hn
theorem tri_no {q : Str} (hq : q = Str.ofString "'''" ∨ q = Str.ofString "\"\"\"") : 32 ∉ cl q := by
  rcases hq with rfl | rfl <;> decide +kernel
theorem ends_of {q t : Str} (h : withinB q t true = true) : run (cl t) 0 (cl q) = some [] := by
  unfold withinB at h
  rw [Bool.and_eq_true] at h
  simpa using h.2
theorem RB.wcons {q t y l : Str} {r : List Str} (hq : q = Str.ofString "'''" ∨ q = Str.ofString "\"\"\"") (h : withinB q t true = true) (R : RB (Str.ofString "") (y :: r) l) (hn : (y :: r).length ≤ 8 := by simp) : RB q (t :: y :: r) l :=
  RB.more (wplain_of h) (tri_no hq) (ends_of h) R hn
theorem RB.wlast {q t : Str} (hq : q = Str.ofString "'''" ∨ q = Str.ofString "\"\"\"") (h : withinB q t true = true) : RB q [t] (Str.ofString "") :=
  ⟨fun x hx => by rw [List.mem_singleton.mp hx]; exact wplain_of h, by simp, .inl rfl, by
    have := scan_run (rest := []) (.inl rfl) (cl t) 0 (cl q) [] (tri_no hq) (ends_of h)
    rw [e0]
    rw [List.append_nil] at this
    exact this⟩
theorem plain_semi {t : Str} {n : Nat} (h : plainB t n = true) : 59 ∉ cl t ∧ t.length ≤ n := by
  unfold plainB at h
  simp only [Bool.and_eq_true, Bool.not_eq_true', decide_eq_true_eq] at h
  exact ⟨fun hm => (by have := h.1; rw [List.contains_iff_mem.mpr hm] at this; cases this), h.2⟩
theorem joinL_mem {c : Nat} (hc : c ≠ 32) : ∀ ws : List (List Nat), c ∈ joinL ws → ∃ x ∈ ws, c ∈ x
  | [], h => nomatch h
  | [x], h => ⟨x, .head _, h⟩
  | x :: y :: r, h => by
    have h' : c ∈ x ++ 32 :: joinL (y :: r) := h
    rcases List.mem_append.mp h' with h' | h'
    · exact ⟨x, .head _, h'⟩
    · rcases List.mem_cons.mp h' with e | h'
      · exact absurd e hc
      · obtain ⟨z, hz, h⟩ := joinL_mem hc (y :: r) h'
        exact ⟨z, .tail _ hz, h⟩
theorem joinL_len : ∀ ws : List (List Nat), (∀ x ∈ ws, x.length ≤ 30) → (joinL ws).length ≤ 31 * ws.length
  | [], _ => by simp [joinL]
  | [x], h => by
    have := h x (.head _)
    simp only [joinL, List.length_cons, List.length_nil]
    omega
  | x :: y :: r, h => by
    have h1 := h x (.head _)
    have h2 := joinL_len (y :: r) fun z hz => h z (.tail _ hz)
    simp only [joinL, List.length_append, List.length_cons] at h2 ⊢
    omega
theorem RB.text {q l : Str} {ws : List Str} (R : RB q ws l) : RowB q (PySem.Txt.join (Str.ofString " ") ws) l := by
  refine ⟨?_, ?_, R.lefts, ?_⟩
  · rw [cl_join]
    intro hm
    obtain ⟨x, hx, hc⟩ := joinL_mem (by decide) _ hm
    obtain ⟨t, ht, rfl⟩ := List.mem_map.mp hx
    exact (plain_semi (R.plain t ht)).1 hc
  · have e : (PySem.Txt.join (Str.ofString " ") ws).length = (cl (PySem.Txt.join (Str.ofString " ") ws)).length := by simp [Str.length]
    rw [e, cl_join]
    have := joinL_len (ws.map cl) (fun x hx => by
      obtain ⟨t, ht, rfl⟩ := List.mem_map.mp hx
      have := (plain_semi (R.plain t ht)).2
      simpa [Str.length] using this)
    have h2 := R.few
    rw [List.length_map] at this
    omega
  · rw [cl_join]; exact R.says
theorem RowB.stay {q t : Str} (hq : q = Str.ofString "'''" ∨ q = Str.ofString "\"\"\"") (h : withinB q t false = true) : RowB q t q := by
  have hp := plain_semi (wplain_of h)
  refine ⟨hp.1, by have := hp.2; omega, .inr hq, ?_⟩
  unfold withinB at h
  rw [Bool.and_eq_true] at h
  simpa using h.2
theorem RowB.nil : RowB (Str.ofString "") (Str.ofString "") (Str.ofString "") := RB.nil.text
theorem RB.wcons' {q t y l : Str} {b : Bool} {r : List Str} (hq : q = Str.ofString "'''" ∨ q = Str.ofString "\"\"\"") (h : withinB q t b = true) (hb : b = true) (R : RB (Str.ofString "") (y :: r) l) (hn : (y :: r).length ≤ 8 := by simp) : RB q (t :: y :: r) l := by
  subst hb
  exact RB.wcons hq h R hn
theorem RB.wlast' {q t : Str} {b : Bool} (hq : q = Str.ofString "'''" ∨ q = Str.ofString "\"\"\"") (h : withinB q t b = true) (hb : b = true) : RB q [t] (Str.ofString "") := by
  subst hb
  exact RB.wlast hq h
theorem RowB.stay' {q t : Str} {b : Bool} (hq : q = Str.ofString "'''" ∨ q = Str.ofString "\"\"\"") (h : withinB q t b = true) (hb : b = false) : RowB q t q := by
  subst hb
  exact RowB.stay hq h
end Mine
end -- P1

section -- P2
open PySem PySem.Builtin PySem.Builtin.Str PyProof.Rows
namespace Mine
theorem fresh_P2 : True := by
  w_top off
  k_with_none
  trivial

theorem cl_len (x : Str) : (cl x).length = x.length := by simp [Str.length]
theorem str_of_cl {x y : Str} (h : cl x = cl y) : x = y := by
  cases x; cases y
  exact congrArg Str.mk (Array.toList_inj.mp h)
theorem slice_cl {x : Str} {i j : Int} (h0 : 0 ≤ i) (hi : i ≤ x.length) (h1 : i ≤ j) : cl (Txt.slice x (some i) (some j)) = ((cl x).drop i.toNat).take (j - i).toNat := by
  have clip : Txt.slice x (some i) (some j) = Txt.slice x (some i) (some (min j x.length)) := by
    have e : strSliceIndices (some i) (some j) 1 x.length = strSliceIndices (some i) (some (min j x.length)) 1 x.length := by
      unfold strSliceIndices
      simp only [show (1 : Int) > 0 by decide, if_true]
      have e1 : (max 0 (min (if j < 0 then j + (x.length : Int) else j) (x.length : Int)) : Int) = max 0 (min (if min j (x.length : Int) < 0 then min j (x.length : Int) + (x.length : Int) else min j (x.length : Int)) (x.length : Int)) := by
        rw [if_neg (by omega), if_neg (by omega)]
        omega
      rw [e1]
    unfold Txt.slice
    rw [e]
  rw [clip]
  have q := slice_closesL (x := x) (i := i) (j := min j x.length) h0 (by omega) (by omega)
  rw [beq_iff_eq] at q
  rw [q]
  show ((cl x).drop i.toNat).take (min j (x.length : Int) - i).toNat = _
  have hl : ((cl x).drop i.toNat).length = x.length - i.toNat := by rw [List.length_drop, cl_len]
  by_cases hj : j ≤ x.length
  · rw [show min j (x.length : Int) = j by omega]
  · rw [show min j (x.length : Int) = (x.length : Int) by omega, List.take_of_length_le (by rw [hl]; omega), List.take_of_length_le (by rw [hl]; omega)]

theorem item_cl {x : Str} {i : Int} (h0 : 0 ≤ i) (h1 : i < x.length) : ∃ c, cl (Txt.item x i) = [c] ∧ (cl x).drop i.toNat = c :: (cl x).drop (i.toNat + 1) := by
  have hlt : i.toNat < (cl x).length := by rw [cl_len]; omega
  refine ⟨(cl x)[i.toNat], ?_, List.drop_eq_getElem_cons hlt⟩
  have e1 : Txt.charAt x i = some ((cl x)[i.toNat]) := by
    unfold Txt.charAt seqIndex?
    rw [if_neg (by omega : ¬ i < 0)]
    have : (decide (0 ≤ i) && decide (i < (x.length : Int))) = true := by simp [h0, h1]
    simp only [this, if_true, Option.bind_some]
    rw [← Array.getElem?_toList]
    exact List.getElem?_eq_getElem hlt
  show (#[(Txt.charAt x i).getD 0] : Array Nat).toList = _
  rw [e1]
  rfl

theorem beq_cl {x : Str} {t : String} {l : List Nat} {b : Bool} (e : cl (Str.ofString t) = l) (h : (x == Str.ofString t) = b) : decide (cl x = l) = b := by
  rw [← h, ← e]
  by_cases q : x = Str.ofString t
  · rw [q]; simp
  · have : ¬ cl x = cl (Str.ofString t) := fun z => q (str_of_cl z)
    simp [q, this]

theorem k92 : cl (Str.ofString "\\") = [92] := by decide +kernel
theorem k35 : cl (Str.ofString "#") = [35] := by decide +kernel
theorem k39 : cl (Str.ofString "'") = [39] := by decide +kernel
theorem k34 : cl (Str.ofString "\"") = [34] := by decide +kernel
theorem kT1 : cl (Str.ofString "'''") = [39, 39, 39] := by decide +kernel
theorem kT2 : cl (Str.ofString "\"\"\"") = [34, 34, 34] := by decide +kernel

def Sc (line q0 : Str) (i : Int) (q : Str) : Prop := scan ((cl line).drop i.toNat) 0 (cl q) = scan (cl line) 0 (cl q0)

section
variable {line q0 q : Str} {i : Int}
theorem sc_start : Sc line q0 0 q0 := rfl
theorem toNat1 (h0 : 0 ≤ i) : (i + 1).toNat = i.toNat + 1 := by omega
/-- a stroke: the next sign is passed over -/
theorem sc_stroke (h0 : 0 ≤ i) (h1 : i < line.length) (S : Sc line q0 i q) (hc : (Txt.item line i == Str.ofString "\\") = true) : Sc line q0 (i + 1 + 1) q := by
  obtain ⟨c, e1, e2⟩ := item_cl h0 h1
  have := beq_cl k92 hc
  rw [e1] at this
  have hc' : c = 92 := by simpa using this
  subst hc'
  unfold Sc at S ⊢
  rw [e2, scan_cons, if_pos rfl] at S
  rw [show (i + 1 + 1).toNat = (i.toNat + 1) + 1 by omega]
  rw [← S]
  cases hd : (cl line).drop (i.toNat + 1) with
  | nil => rw [List.drop_eq_nil_of_le (by have := List.drop_eq_nil_iff.mp hd; omega)]; rfl
  | cons y r =>
    have : (cl line).drop (i.toNat + 1 + 1) = r := by
      rw [← List.drop_drop, hd]; rfl
    rw [this]
    rfl
theorem not92 (hc : (Txt.item line i == Str.ofString "\\") = false) {c : Nat} (e1 : cl (Txt.item line i) = [c]) : c ≠ 92 := by
  have := beq_cl k92 hc
  rw [e1] at this
  simpa using this
theorem q_ne (hq : (q.length : Int) ≠ 0) : cl q ≠ [] := fun e => hq (by rw [← cl_len, e]; rfl)
theorem q_nil (hq : (q.length : Int) = 0) : cl q = [] := List.eq_nil_of_length_eq_zero (by rw [cl_len]; omega)
theorem sc_close (h0 : 0 ≤ i) (h1 : i < line.length) (S : Sc line q0 i q) (hc : (Txt.item line i == Str.ofString "\\") = false) (hq : (q.length : Int) ≠ 0)
    (hs : (Txt.slice line (some i) (some (i + q.length)) == q) = true) : Sc line q0 (i + 1) (Str.ofString "") := by
  obtain ⟨c, e1, e2⟩ := item_cl h0 h1
  have hs' : Txt.slice line (some i) (some (i + q.length)) = q := by simpa using hs
  have e3 := slice_cl (x := line) (i := i) (j := i + q.length) h0 (by omega) (by omega)
  rw [hs', show (i + (q.length : Int) - i).toNat = (cl q).length by rw [cl_len]; omega, e2] at e3
  unfold Sc at S ⊢
  rw [e2, scan_cons, if_neg (not92 hc e1), if_pos (q_ne hq), if_pos e3.symm] at S
  rw [toNat1 h0, e0]
  exact S
theorem sc_in (h0 : 0 ≤ i) (h1 : i < line.length) (S : Sc line q0 i q) (hc : (Txt.item line i == Str.ofString "\\") = false) (hq : (q.length : Int) ≠ 0)
    (hs : (Txt.slice line (some i) (some (i + q.length)) == q) = false) : Sc line q0 (i + 1) q := by
  obtain ⟨c, e1, e2⟩ := item_cl h0 h1
  have e3 := slice_cl (x := line) (i := i) (j := i + q.length) h0 (by omega) (by omega)
  rw [show (i + (q.length : Int) - i).toNat = (cl q).length by rw [cl_len]; omega, e2] at e3
  have hne : ¬ (c :: (cl line).drop (i.toNat + 1)).take (cl q).length = cl q := fun e => by
    rw [e] at e3
    rw [str_of_cl e3] at hs
    simp at hs
  unfold Sc at S ⊢
  rw [e2, scan_cons, if_neg (not92 hc e1), if_pos (q_ne hq), if_neg hne] at S
  rw [toNat1 h0]
  exact S
theorem bcomm (a b : Str) : (a == b) = (b == a) := by rw [Bool.eq_iff_iff, beq_iff_eq, beq_iff_eq]; exact eq_comm
theorem is_mark {c : Nat} (e1 : cl (Txt.item line i) = [c]) {b : Bool} (hm : ([Str.ofString "'", Str.ofString "\""].any fun x => x == Txt.item line i) = b) : decide (c = 39 ∨ c = 34) = b := by
  rw [← hm]
  have a1 : (Str.ofString "'" == Txt.item line i) = decide (c = 39) := by
    have : (Str.ofString "'" == Txt.item line i) = (Txt.item line i == Str.ofString "'") := bcomm _ _
    rw [this, ← beq_cl k39 rfl, e1]; simp
  have a2 : (Str.ofString "\"" == Txt.item line i) = decide (c = 34) := by
    have : (Str.ofString "\"" == Txt.item line i) = (Txt.item line i == Str.ofString "\"") := bcomm _ _
    rw [this, ← beq_cl k34 rfl, e1]; simp
  simp only [List.any_cons, List.any_nil, a1, a2, Bool.or_false]
  rw [Bool.eq_iff_iff]; simp
theorem is_long {b : Bool} (hl : ([Str.ofString "\"\"\"", Str.ofString "'''"].any fun x => x == Txt.slice line (some i) (some (i + 3))) = b) :
    decide (cl (Txt.slice line (some i) (some (i + 3))) = [34, 34, 34] ∨ cl (Txt.slice line (some i) (some (i + 3))) = [39, 39, 39]) = b := by
  rw [← hl]
  generalize Txt.slice line (some i) (some (i + 3)) = y
  have a1 : (Str.ofString "\"\"\"" == y) = decide (cl y = [34, 34, 34]) := by
    have : (Str.ofString "\"\"\"" == y) = (y == Str.ofString "\"\"\"") := bcomm _ _
    rw [this, ← beq_cl kT2 rfl]
  have a2 : (Str.ofString "'''" == y) = decide (cl y = [39, 39, 39]) := by
    have : (Str.ofString "'''" == y) = (y == Str.ofString "'''") := bcomm _ _
    rw [this, ← beq_cl kT1 rfl]
  simp only [List.any_cons, List.any_nil, a1, a2, Bool.or_false]
  rw [Bool.eq_iff_iff]; simp
theorem slice3 (h0 : 0 ≤ i) (h1 : i < line.length) : cl (Txt.slice line (some i) (some (i + 3))) = ((cl line).drop i.toNat).take 3 := by
  rw [slice_cl h0 (by omega) (by omega), show (i + 3 - i).toNat = 3 by omega]
theorem drop3 {c : Nat} {T r : List Nat} (h : (c :: r).take 3 = T) (hT : T.length = 3) : ∃ a b z, r = a :: b :: z := by
  match r, h with
  | [], h => rw [← h] at hT; simp at hT
  | [a], h => rw [← h] at hT; simp at hT
  | a :: b :: z, _ => exact ⟨a, b, z, rfl⟩
theorem sc_long (h0 : 0 ≤ i) (h1 : i < line.length) (S : Sc line q0 i q) (hc : (Txt.item line i == Str.ofString "\\") = false) (hq : (q.length : Int) = 0)
    (hm : ([Str.ofString "'", Str.ofString "\""].any fun x => x == Txt.item line i) = true) (hl : ([Str.ofString "\"\"\"", Str.ofString "'''"].any fun x => x == Txt.slice line (some i) (some (i + 3))) = true) :
    i + 2 + 1 ≤ line.length + 1 ∧ (Txt.slice line (some i) (some (i + 3))).length ≤ 3 ∧ Sc line q0 (i + 2 + 1) (Txt.slice line (some i) (some (i + 3))) := by
  obtain ⟨c, e1, e2⟩ := item_cl h0 h1
  have hm' : c = 39 ∨ c = 34 := by simpa using is_mark e1 hm
  have e3 := slice3 h0 h1
  have hl' := of_decide_eq_true (is_long hl)
  rw [e3, e2] at hl'
  have h3 : ((c :: (cl line).drop (i.toNat + 1)).take 3).length = 3 := by rcases hl' with e | e <;> rw [e] <;> rfl
  obtain ⟨a, b, z, ez⟩ := drop3 rfl h3
  have hlen : (cl line).length = i.toNat + 1 + (2 + z.length) := by
    have := congrArg List.length ez
    rw [List.length_drop] at this
    simp only [List.length_cons] at this
    omega
  rw [cl_len] at hlen
  refine ⟨by omega, by rw [← cl_len, e3, e2, h3]; exact Nat.le_refl _, ?_⟩
  unfold Sc at S ⊢
  rw [e2, scan_cons, if_neg (not92 hc e1), if_neg (fun n => n (q_nil hq)), if_pos hm', if_pos hl', ez] at S
  rw [e3, e2, ez, show (i + 2 + 1).toNat = (i.toNat + 1) + 2 by omega, ← List.drop_drop, ez]
  exact S
theorem sc_short (h0 : 0 ≤ i) (h1 : i < line.length) (S : Sc line q0 i q) (hc : (Txt.item line i == Str.ofString "\\") = false) (hq : (q.length : Int) = 0)
    (hm : ([Str.ofString "'", Str.ofString "\""].any fun x => x == Txt.item line i) = true) (hl : ([Str.ofString "\"\"\"", Str.ofString "'''"].any fun x => x == Txt.slice line (some i) (some (i + 3))) = false) :
    Sc line q0 (i + 1) (Txt.item line i) := by
  obtain ⟨c, e1, e2⟩ := item_cl h0 h1
  have hm' : c = 39 ∨ c = 34 := by simpa using is_mark e1 hm
  have hl' := of_decide_eq_false (is_long hl)
  rw [slice3 h0 h1, e2] at hl'
  unfold Sc at S ⊢
  rw [e2, scan_cons, if_neg (not92 hc e1), if_neg (fun n => n (q_nil hq)), if_pos hm', if_neg hl'] at S
  rw [toNat1 h0, e1]
  exact S
theorem sc_plain (h0 : 0 ≤ i) (h1 : i < line.length) (S : Sc line q0 i q) (hc : (Txt.item line i == Str.ofString "\\") = false) (hq : (q.length : Int) = 0)
    (hm : ([Str.ofString "'", Str.ofString "\""].any fun x => x == Txt.item line i) = false) (hh : (Txt.item line i == Str.ofString "#") = false) : Sc line q0 (i + 1) q := by
  obtain ⟨c, e1, e2⟩ := item_cl h0 h1
  have hm' : ¬ (c = 39 ∨ c = 34) := by simpa using is_mark e1 hm
  have h35 : c ≠ 35 := by
    have := beq_cl k35 hh
    rw [e1] at this
    simpa using this
  unfold Sc at S ⊢
  rw [e2, scan_cons, if_neg (not92 hc e1), if_neg (fun n => n (q_nil hq)), if_neg hm', if_neg h35] at S
  rw [toNat1 h0]
  rw [q_nil hq] at S ⊢
  exact S
theorem sc_hash (h0 : 0 ≤ i) (h1 : i < line.length) (S : Sc line q0 i q) (hc : (Txt.item line i == Str.ofString "\\") = false) (hq : (q.length : Int) = 0)
    (hm : ([Str.ofString "'", Str.ofString "\""].any fun x => x == Txt.item line i) = false) (hh : (Txt.item line i == Str.ofString "#") = true) : cl q = scan (cl line) 0 (cl q0) := by
  obtain ⟨c, e1, e2⟩ := item_cl h0 h1
  have hm' : ¬ (c = 39 ∨ c = 34) := by simpa using is_mark e1 hm
  have h35 : c = 35 := by
    have := beq_cl k35 hh
    rw [e1] at this
    simpa using this
  unfold Sc at S
  rw [e2, scan_cons, if_neg (not92 hc e1), if_neg (fun n => n (q_nil hq)), if_neg hm', if_pos h35] at S
  exact S
theorem sc_end (h0 : 0 ≤ i) (h1 : ¬ i < line.length) (S : Sc line q0 i q) : cl q = scan (cl line) 0 (cl q0) := by
  unfold Sc at S
  rw [List.drop_eq_nil_of_le (by rw [cl_len]; omega)] at S
  exact S
theorem item_len1 (h0 : 0 ≤ i) (h1 : i < line.length) : (Txt.item line i).length ≤ 3 := by
  obtain ⟨c, e1, _⟩ := item_cl h0 h1
  rw [← cl_len, e1]
  simp
theorem nil_len : (Str.ofString "").length ≤ 3 := by decide +kernel
end

/-- a row without quotes leaves them as they are -/
theorem scan_noq : ∀ (l : List Nat) (k : Nat) (q : List Nat), 39 ∉ l → 34 ∉ l → (q = [] ∨ q = [39, 39, 39] ∨ q = [34, 34, 34]) → scan l k q = q
  | [], _, q, _, _, _ => by cases q <;> rfl
  | _ :: r, k + 1, q, h1, h2, hq => scan_noq r k q (fun h => h1 (.tail _ h)) (fun h => h2 (.tail _ h)) hq
  | c :: r, 0, q, h1, h2, hq => by
    have n1 : 39 ∉ r := fun h => h1 (.tail _ h)
    have n2 : 34 ∉ r := fun h => h2 (.tail _ h)
    have c1 : c ≠ 39 := fun h => h1 (h ▸ .head _)
    have c2 : c ≠ 34 := fun h => h2 (h ▸ .head _)
    rw [scan_cons]
    split
    · exact scan_noq r 1 q n1 n2 hq
    split
    · split
      · rename_i e
        rcases hq with rfl | rfl | rfl
        · contradiction
        · simp [c1] at e
        · simp [c2] at e
      · exact scan_noq r 0 q n1 n2 hq
    split
    · rename_i e
      rcases e with e | e
      · exact absurd e c1
      · exact absurd e c2
    split
    · rfl
    · exact scan_noq r 0 q n1 n2 hq
theorem lefts_cl {q : Str} (h : Lefts q) : cl q = [] ∨ cl q = [39, 39, 39] ∨ cl q = [34, 34, 34] := by
  rcases h with rfl | rfl | rfl
  · exact .inl e0
  · exact .inr (.inl kT1)
  · exact .inr (.inr kT2)
theorem of1 (c : Nat) (t : String) (h : Str.ofString t = ⟨#[c]⟩) {x : Str} (e : (occurrences x (Str.ofString t) 0 x.length 1).isEmpty = true) : c ∉ cl x := by
  rw [h] at e
  have q := StrLaws.found_one x c
  rw [e] at q
  simpa using q
theorem noq_same {line q0 : Str} (hq : Lefts q0) (h1 : (occurrences line (Str.ofString "\"") 0 line.length 1).isEmpty = true) (h2 : (occurrences line (Str.ofString "'") 0 line.length 1).isEmpty = true) : cl q0 = scan (cl line) 0 (cl q0) :=
  (scan_noq (cl line) 0 (cl q0) (of1 39 "'" (by decide +kernel) h2) (of1 34 "\"" (by decide +kernel) h1) (lefts_cl hq)).symm
end Mine
end -- P2

section -- C2
open PySem PySem.W PyProof.Rows
namespace Mine
theorem fresh_C2 : True := by
  w_top off
  k_with_none
  trivial
set_option maxRecDepth 100000
set_option maxHeartbeats 8000000
section
variable {w : World} {p : Program} {loose : List Str} {mean : ExcName → Option Value} {mg mb : Str → Option Value}
  {dp un : Nat} {gd : Option (List Code)} {cn : Str} {cs : Scope} {a : Addr} {ccd : Value} {cl : List (Str × Addr)} {outer : List Env} {A₀ : Around} {base h₀ : Heap} {L : Addr} {m : Str → Option Value} {s : Shared} {Q E : Value → Shared → Prop}

theorem room63 {vs : List Value} {ns : List Int} (h : vs.length = ns.length) (h2 : ns.length ≤ 63) : vs.toArray.size ≤ sizeLine := by
  rw [sizeLine_eq, List.size_toArray]
  omega
local macro_rules | `(tactic| walk_at "eval ListComp") => `(tactic| (k_here; k_dflt (refine LCg.ListComp_U (F₀ := by k_asm) (by rfl) (by decide) (by rfl) (by decide) (by rfl) ?_); k_dflt lcg_toSrc))
local macro_rules | `(tactic| walk_at "CompSrc") => `(tactic| (k_here; k_dflt (refine LCg.CompSrc.base (by rfl) (by k_asm) (by k_asm) (by assumption) (by exact room63 (by assumption) (by assumption)) ?_; intro g'; (refine' kcf_list (fun k => if k < 0 then -k else k) (by assumption) (fun k' t' I' oI' C' oC' D' m' ys' h' tk' E' hk' hC' hx' F' N' off' ne' hMark' => ?_) ?_); (all_goals (try (simp only [LCg.Off3, and_true] at off'))))))

local macro_rules | `(tactic| walk_at "execs cons") => `(tactic| (k_here; refine toks_gen ?_; intro tk))
local macro_rules | `(tactic| walk_at "execs nil") => `(tactic| (k_here; refine toks_gen ?_; intro tk))

theorem draw_core
  {l z : Addr} {oz : Obj} {vs : List Value} {ns : List Int}
  (B : Below A₀ base outer h₀) (F : Fr h₀ L s.heap m) (X : (hd.heap_39 w.params).In h₀)
  (N : News h₀ L s.heap [(z, oz)]) (T : Top p loose mean mg mb h₀) (hk : cs.kind = .function)
  (hS : base.IsList l vs.toArray) (hI : IntsAre vs ns) (hlen : ns.length ≤ 63) (hd : dp ≤ 350) (hu : un ≤ 1000)
  (ret : ∀ d l' od ol h' tk', Fr h₀ L h' m → News h₀ L h' [(d, od), (l', ol), (z, oz)] → DrawIs l' od ol → 
     Q (.ref d) { s with heap := h', toks := tk' }) :
  wpAny (model PySem.Challenge.rw_gn5014_01.row.prog w) (ktrTop dp un gd cn cs L a ccd cl outer) (call (.ref 148) [.ref l]) Q E s := by
  refine ktr_up hd hu ?_
  revert X; k_fill; intro X
  refine wpAny_call ?_
  k_dflt cell_enter
  have hA : ∀ x : Int, 0 ≤ x.fmod 2147483647 ∧ x.fmod 2147483647 < 2147483647 := fun x => by
    rw [Int.fmod_eq_emod_of_nonneg _ (by omega : (0:Int) ≤ 2147483647)]
    exact ⟨Int.emod_nonneg _ (by omega), Int.emod_lt_of_pos _ (by omega)⟩
  k_with "state" => first | exact hA _ | exact ⟨by decide, by decide⟩
  k_with "pyIter ref" => k_state (fun pre sd => 0 ≤ sd ∧ sd < 2147483647) "seed"
  k_steps
  all_goals (
    refine ret _ _ _ _ _ _ (by assumption) (cb_drop (by assumption) (List.forall_mem_cons.mpr ⟨by k_mem, List.forall_mem_cons.mpr ⟨by k_mem, List.forall_mem_cons.mpr ⟨by k_mem, List.forall_mem_nil _⟩⟩⟩)) ⟨_, _, _, _, _, _, rfl, rfl, by assumption, ?_, by assumption, by assumption⟩
    rename_i hI' _ _ _ _ _ _ _
    have := IntsAre.length (by assumption : IntsAre _ (List.take 60 _))
    simp only [List.length_take, List.length_map] at this
    omega)
end
end Mine
end -- C2

section -- C3
open PySem PySem.W PyProof.Rows
namespace Mine
theorem fresh_C3 : True := by
  w_top off
  k_with_none
  trivial
set_option maxRecDepth 100000
set_option maxHeartbeats 8000000

local macro_rules | `(tactic| walk_at "execs cons") => `(tactic| (k_here; refine toks_gen ?_; intro tk))
local macro_rules | `(tactic| walk_at "execs nil") => `(tactic| (k_here; refine toks_gen ?_; intro tk))
local macro_rules | `(tactic| k_all) => `(tactic| assumption)
local macro_rules | `(tactic| walk_at "call ref") => `(tactic| (k_here; (with_reducible show wpAny _ _ (call (Value.ref _) [Value.ref _, Value.int _ _]) _ _ _); k_dflt (refine' take_use ?k1 ?k2 ?k3 ?k4 ?k5 ?kK ?kD ?kU ?km ?km2 ?kd ?ku ?_; (case k1 => k_asm); (case k2 => k_asm); (case k3 => k_asm); (case k4 => k_asm); (case k5 => k_asm); (case kK => first | exact rfl | assumption); (case kD => assumption); (case kU => (intro od' ol'; exact ⟨_, by k_upd, by k_upd⟩)); (case km => decide); (case km2 => decide); (case kd => exact Nat.le_of_ble_eq_true rfl); (case ku => exact Nat.le_of_ble_eq_true rfl); (intro r' t' od' ol' h' tk' F' N' D' r0' r1'); (try dsimp only at N')); (try k_sweep)))
local macro_rules | `(tactic| walk_at "subscriptTail") => `(tactic| (k_here; (with_reducible show wpAny _ _ (subscriptTail _ _ (Value.ref _) (Value.int _ _)) _ _ _); k_dflt (refine' KTb.item_list ?ktbl ?ktbw ?ktb0 ?ktb1 ?ktbf ?_; (case ktbl => exact News.isList (by k_asm) (by k_mem)); (case ktbw => repeat constructor); (case ktb0 => omega); (case ktb1 => (simp only [List.length_cons, List.length_nil]; omega)); (case ktbf => omega)); intro t' lt'))

theorem getD_len {L : List Str} {k : Nat} (h : (L.all fun y => decide (y.length ≤ 100)) = true) : (L.getD k Str.empty).length ≤ 100 := by
  by_cases hk : k < L.length
  · rw [List.getD_eq_getElem?_getD, List.getElem?_eq_getElem hk]
    exact of_decide_eq_true (List.all_eq_true.mp h _ (List.getElem_mem hk))
  · rw [List.getD_eq_getElem?_getD, List.getElem?_eq_none (by omega)]
    decide
theorem app_len {x y : Str} {a b : Nat} (hx : x.length ≤ a) (hy : y.length ≤ b) : (x ++ y).length ≤ a + b := by
  have : (x ++ y).length = x.length + y.length := Array.size_append
  omega
local macro_rules | `(tactic| walk_at "binaryOp Add str str") => `(tactic| (k_here; (with_reducible show wpAny _ _ (binaryOp Operator.Add (Value.str _ _) (Value.str (List.getD _ _ _) _)) _ _ _); (refine PyProof.Rows.add_str (hsz := ?hsz) ?_; (case hsz => (refine' Nat.le_trans (Nat.add_le_add ?hx ?hy) ?hs; (case hx => repeat' (first | (with_reducible apply app_len) | (with_reducible apply getD_len; decide +kernel) | exact Nat.le_refl _)); (case hy => repeat' (first | (with_reducible apply app_len) | (with_reducible apply getD_len; decide +kernel) | exact Nat.le_refl _)); (case hs => (rw [sizeLine_eq]; decide +kernel)))); intro _ _)))
local macro_rules | `(tactic| walk_at "binaryOp Add str str") => `(tactic| (k_here; (with_reducible show wpAny _ _ (binaryOp Operator.Add (Value.str ((_ : PySem.Str) ++ (_ : PySem.Str)) _) (Value.str _ _)) _ _ _); (refine PyProof.Rows.add_str (hsz := ?hsz) ?_; (case hsz => (refine' Nat.le_trans (Nat.add_le_add ?hx ?hy) ?hs; (case hx => repeat' (first | (with_reducible apply app_len) | (with_reducible apply getD_len; decide +kernel) | exact Nat.le_refl _)); (case hy => repeat' (first | (with_reducible apply app_len) | (with_reducible apply getD_len; decide +kernel) | exact Nat.le_refl _)); (case hs => (rw [sizeLine_eq]; decide +kernel)))); intro _ _)))
local macro_rules | `(tactic| walk_at "binaryOp Add str str") => `(tactic| (k_here; (with_reducible show wpAny _ _ (binaryOp Operator.Add (Value.str (List.getD _ _ _) _) (Value.str _ _)) _ _ _); (refine PyProof.Rows.add_str (hsz := ?hsz) ?_; (case hsz => (refine' Nat.le_trans (Nat.add_le_add ?hx ?hy) ?hs; (case hx => repeat' (first | (with_reducible apply app_len) | (with_reducible apply getD_len; decide +kernel) | exact Nat.le_refl _)); (case hy => repeat' (first | (with_reducible apply app_len) | (with_reducible apply getD_len; decide +kernel) | exact Nat.le_refl _)); (case hs => (rw [sizeLine_eq]; decide +kernel)))); intro _ _)))

section
variable {w : World} {p : Program} {loose : List Str} {mean : ExcName → Option Value} {mg mb : Str → Option Value}
  {dp un : Nat} {gd : Option (List Code)} {cn : Str} {cs : Scope} {a : Addr} {ccd : Value} {cl : List (Str × Addr)} {outer : List Env} {A₀ : Around} {base h₀ : Heap} {L : Addr} {m : Str → Option Value} {s : Shared} {Q E : Value → Shared → Prop}

theorem piece_sub {d l x y : Addr} {od ol ox oy : Obj} {rest : List (Addr × Obj)} : ∀ p ∈ (x, ox) :: (d, od) :: (l, ol) :: rest, p ∈ (x, ox) :: (y, oy) :: (d, od) :: (l, ol) :: rest := fun p hp => by
  rcases List.mem_cons.mp hp with rfl | hp
  · exact .head _
  · exact .tail _ (.tail _ hp)

theorem pieceA
  {d l : Addr} {od ol : Obj} {rest : List (Addr × Obj)} {tm : Tok}
  (B : Below A₀ base outer h₀) (F : Fr h₀ L s.heap m) (X : (hd.heap_39 w.params).In h₀)
  (N : News h₀ L s.heap ((d, od) :: (l, ol) :: rest)) (T : Top p loose mean mg mb h₀) (hk : cs.kind = .function)
  (D : DrawIs l od ol) (hdl : @Ne Nat d l) (hrd : ∀ p ∈ rest, p.1 ≠ d) (hrl : ∀ p ∈ rest, p.1 ≠ l)
  (ret : ∀ x text left t1 t2 od' ol' n h' tk', Fr h₀ L h' m → News h₀ L h' ((x, ({ cls := .type "tuple", data := .seq #[.str text t1, .str left t2] n } : Obj)) :: (d, od') :: (l, ol') :: rest) → DrawIs l od' ol' → (d < x ∧ l < x ∧ AllLt x rest) → pieceB text left = true →
     Q (.ref x) { s with heap := h', toks := tk' }) :
  wpAny (model PySem.Challenge.rw_gn5014_01.row.prog w) (ktrTop 340 800 gd cn cs L a ccd cl outer) (call (.ref 162) [.ref d, .str (Str.ofString "'") tm]) Q E s := by
  revert X; k_fill; intro X
  refine wpAny_call ?_
  k_dflt cell_enter
  k_steps
  all_goals (
    refine ret _ _ _ _ _ _ _ _ _ _ (by assumption) (cb_drop (by assumption) piece_sub) (by assumption) ((by assumption : _ ∧ _ ∧ _ ∧ AllLt _ _).2) ?_
    first | decide +kernel | ((rename (Int.toNat _ < _) => hlt'); revert hlt'; generalize Int.toNat _ = k; revert k; decide +kernel))

theorem pieceB'
  {d l : Addr} {od ol : Obj} {rest : List (Addr × Obj)} {tm : Tok}
  (B : Below A₀ base outer h₀) (F : Fr h₀ L s.heap m) (X : (hd.heap_39 w.params).In h₀)
  (N : News h₀ L s.heap ((d, od) :: (l, ol) :: rest)) (T : Top p loose mean mg mb h₀) (hk : cs.kind = .function)
  (D : DrawIs l od ol) (hdl : @Ne Nat d l) (hrd : ∀ p ∈ rest, p.1 ≠ d) (hrl : ∀ p ∈ rest, p.1 ≠ l)
  (ret : ∀ x text left t1 t2 od' ol' n h' tk', Fr h₀ L h' m → News h₀ L h' ((x, ({ cls := .type "tuple", data := .seq #[.str text t1, .str left t2] n } : Obj)) :: (d, od') :: (l, ol') :: rest) → DrawIs l od' ol' → (d < x ∧ l < x ∧ AllLt x rest) → pieceB text left = true →
     Q (.ref x) { s with heap := h', toks := tk' }) :
  wpAny (model PySem.Challenge.rw_gn5014_01.row.prog w) (ktrTop 340 800 gd cn cs L a ccd cl outer) (call (.ref 162) [.ref d, .str (Str.ofString "\"") tm]) Q E s := by
  revert X; k_fill; intro X
  refine wpAny_call ?_
  k_dflt cell_enter
  k_steps
  all_goals (
    refine ret _ _ _ _ _ _ _ _ _ _ (by assumption) (cb_drop (by assumption) piece_sub) (by assumption) ((by assumption : _ ∧ _ ∧ _ ∧ AllLt _ _).2) ?_
    first | decide +kernel | ((rename (Int.toNat _ < _) => hlt'); revert hlt'; generalize Int.toNat _ = k; revert k; decide +kernel))
theorem allLt_mem {x : Addr} : ∀ {rest : List (Addr × Obj)}, AllLt x rest → ∀ p ∈ rest, p.1 < x
  | [], _, _, hp => nomatch hp
  | _ :: _, h, p, hp => by
    rcases List.mem_cons.mp hp with rfl | hp
    · exact h.1
    · exact allLt_mem h.2 p hp

theorem piece_use
  {d l : Addr} {od ol : Obj} {news : List (Addr × Obj)} {G : Obj → Obj → List (Addr × Obj)} {mk : Str} {tm : Tok}
  (B : Below A₀ base outer h₀) (F : Fr h₀ L s.heap m) (X : (hd.heap_39 w.params).In h₀)
  (N : News h₀ L s.heap news) (T : Top p loose mean mg mb h₀) (hk : cs.kind = .function) (D : DrawIs l od ol) (U : UpdD d l od ol news G) (hmk : mk = Str.ofString "'" ∨ mk = Str.ofString "\"")
  (hd : dp ≤ 340) (hu : un ≤ 800)
  (ret : ∀ x text left t1 t2 od' ol' n h' tk', Fr h₀ L h' m → News h₀ L h' ((x, ({ cls := .type "tuple", data := .seq #[.str text t1, .str left t2] n } : Obj)) :: G od' ol') → DrawIs l od' ol' → (∀ p ∈ G od' ol', p.1 < x) → pieceB text left = true →
     Q (.ref x) { s with heap := h', toks := tk' }) :
  wpAny (model PySem.Challenge.rw_gn5014_01.row.prog w) (ktrTop dp un gd cn cs L a ccd cl outer) (call (.ref 162) [.ref d, .str mk tm]) Q E s := by
  refine ktr_up hd hu ?_
  have hne := drawIs_ne D
  obtain ⟨hmd, hml⟩ := updD_at U hne
  have hdl : d ≠ l := News.twoPlaces N hmd hml hne
  have N' : News h₀ L s.heap ((d, od) :: (l, ol) :: news.filter fun p => p.1 != d && p.1 != l) := by
    intro p hp
    rcases List.mem_cons.mp hp with rfl | hp
    · exact N _ hmd
    rcases List.mem_cons.mp hp with rfl | hp
    · exact N _ hml
    · exact N p (List.mem_filter.mp hp).1
  have f1 : ∀ p ∈ news.filter (fun p => p.1 != d && p.1 != l), p.1 ≠ d := by
    intro p hp
    have := (List.mem_filter.mp hp).2
    simp at this
    exact this.1
  have f2 : ∀ p ∈ news.filter (fun p => p.1 != d && p.1 != l), p.1 ≠ l := by
    intro p hp
    have := (List.mem_filter.mp hp).2
    simp at this
    exact this.2
  have fin : ∀ x text left t1 t2 od' ol' n h' tk', Fr h₀ L h' m → News h₀ L h' ((x, ({ cls := .type "tuple", data := .seq #[.str text t1, .str left t2] n } : Obj)) :: (d, od') :: (l, ol') :: news.filter fun p => p.1 != d && p.1 != l) → DrawIs l od' ol' →
      (d < x ∧ l < x ∧ AllLt x (news.filter fun p => p.1 != d && p.1 != l)) → pieceB text left = true → Q (.ref x) { s with heap := h', toks := tk' } := by
    intro x text left t1 t2 od' ol' n h' tk' F' N' D' lt pb
    have sub : ∀ p ∈ G od' ol', p ∈ (d, od') :: (l, ol') :: news.filter fun p => p.1 != d && p.1 != l := by
      obtain ⟨n1, u1, u2⟩ := U od' ol'
      intro p hp
      rcases (upd_mem u2).2 p hp with rfl | ⟨hp, hpl⟩
      · exact .tail _ (.head _)
      · rcases (upd_mem u1).2 p hp with rfl | ⟨hp, hpd⟩
        · exact .head _
        · refine .tail _ (.tail _ (List.mem_filter.mpr ⟨hp, ?_⟩))
          simp [hpl, hpd]
    refine ret x text left t1 t2 od' ol' n h' tk' F' ?_ D' ?_ pb
    · intro p hp
      rcases List.mem_cons.mp hp with rfl | hp
      · exact N' _ (.head _)
      · exact N' _ (.tail _ (sub p hp))
    · intro p hp
      rcases List.mem_cons.mp (sub p hp) with rfl | hp
      · exact lt.1
      rcases List.mem_cons.mp hp with rfl | hp
      · exact lt.2.1
      · exact allLt_mem lt.2.2 p hp
  rcases hmk with rfl | rfl
  · exact pieceA B F X N' T hk D hdl f1 f2 fin
  · exact pieceB' B F X N' T hk D hdl f1 f2 fin
end
end Mine
end -- C3

section -- C4
open PySem PySem.W PyProof.Rows
namespace Mine
theorem fresh_C4 : True := by
  w_top off
  k_with_none
  trivial
local macro_rules | `(tactic| walk_at "no such key") => `(tactic| fail)
set_option maxRecDepth 100000
set_option maxHeartbeats 8000000

local macro_rules | `(tactic| walk_at "execs cons") => `(tactic| (k_here; refine toks_gen ?_; intro tk))
local macro_rules | `(tactic| walk_at "execs nil") => `(tactic| (k_here; refine toks_gen ?_; intro tk))
local macro_rules | `(tactic| k_all) => `(tactic| assumption)
local macro_rules | `(tactic| walk_at "call ref") => `(tactic| (k_here; (with_reducible show wpAny _ _ (call (Value.ref _) [Value.ref _, Value.int _ _]) _ _ _); k_dflt (refine' take_use ?k1 ?k2 ?k3 ?k4 ?k5 ?kK ?kD ?kU ?km ?km2 ?kd ?ku ?_; (case k1 => k_asm); (case k2 => k_asm); (case k3 => k_asm); (case k4 => k_asm); (case k5 => k_asm); (case kK => first | exact rfl | assumption); (case kD => assumption); (case kU => (intro od' ol'; exact ⟨_, by k_upd, by k_upd⟩)); (case km => decide); (case km2 => decide); (case kd => exact Nat.le_of_ble_eq_true rfl); (case ku => exact Nat.le_of_ble_eq_true rfl); (intro r' t' od' ol' h' tk' F' N' D' r0' r1'); (try dsimp only at N')); (try k_sweep)))
local macro_rules | `(tactic| walk_at "subscriptTail") => `(tactic| (k_here; (with_reducible show wpAny _ _ (subscriptTail _ _ (Value.ref _) (Value.int _ _)) _ _ _); k_dflt (refine' KTb.item_list ?ktbl ?ktbw ?ktb0 ?ktb1 ?ktbf ?_; (case ktbl => exact News.isList (by k_asm) (by k_mem)); (case ktbw => repeat constructor); (case ktb0 => omega); (case ktb1 => (simp only [List.length_cons, List.length_nil]; omega)); (case ktbf => omega)); intro t' lt'))

local macro_rules | `(tactic| walk_at "binaryOp Add str str") => `(tactic| (k_here; (with_reducible show wpAny _ _ (binaryOp Operator.Add (Value.str _ _) (Value.str (List.getD _ _ _) _)) _ _ _); (refine PyProof.Rows.add_str (hsz := ?hsz) ?_; (case hsz => (refine' Nat.le_trans (Nat.add_le_add ?hx ?hy) ?hs; (case hx => repeat' (first | (with_reducible apply app_len) | (with_reducible apply getD_len; decide +kernel) | exact Nat.le_refl _)); (case hy => repeat' (first | (with_reducible apply app_len) | (with_reducible apply getD_len; decide +kernel) | exact Nat.le_refl _)); (case hs => (rw [sizeLine_eq]; decide +kernel)))); intro _ _)))
local macro_rules | `(tactic| walk_at "binaryOp Add str str") => `(tactic| (k_here; (with_reducible show wpAny _ _ (binaryOp Operator.Add (Value.str ((_ : PySem.Str) ++ (_ : PySem.Str)) _) (Value.str _ _)) _ _ _); (refine PyProof.Rows.add_str (hsz := ?hsz) ?_; (case hsz => (refine' Nat.le_trans (Nat.add_le_add ?hx ?hy) ?hs; (case hx => repeat' (first | (with_reducible apply app_len) | (with_reducible apply getD_len; decide +kernel) | exact Nat.le_refl _)); (case hy => repeat' (first | (with_reducible apply app_len) | (with_reducible apply getD_len; decide +kernel) | exact Nat.le_refl _)); (case hs => (rw [sizeLine_eq]; decide +kernel)))); intro _ _)))
local macro_rules | `(tactic| walk_at "binaryOp Add str str") => `(tactic| (k_here; (with_reducible show wpAny _ _ (binaryOp Operator.Add (Value.str (List.getD _ _ _) _) (Value.str _ _)) _ _ _); (refine PyProof.Rows.add_str (hsz := ?hsz) ?_; (case hsz => (refine' Nat.le_trans (Nat.add_le_add ?hx ?hy) ?hs; (case hx => repeat' (first | (with_reducible apply app_len) | (with_reducible apply getD_len; decide +kernel) | exact Nat.le_refl _)); (case hy => repeat' (first | (with_reducible apply app_len) | (with_reducible apply getD_len; decide +kernel) | exact Nat.le_refl _)); (case hs => (rw [sizeLine_eq]; decide +kernel)))); intro _ _)))

section
variable {w : World} {p : Program} {loose : List Str} {mean : ExcName → Option Value} {mg mb : Str → Option Value}
  {dp un : Nat} {gd : Option (List Code)} {cn : Str} {cs : Scope} {a : Addr} {ccd : Value} {cl : List (Str × Addr)} {outer : List Env} {A₀ : Around} {base h₀ : Heap} {L : Addr} {m : Str → Option Value} {s : Shared} {Q E : Value → Shared → Prop}


theorem withinA
  {d l : Addr} {od ol : Obj} {rest : List (Addr × Obj)} {tm : Tok}
  (B : Below A₀ base outer h₀) (F : Fr h₀ L s.heap m) (X : (hd.heap_39 w.params).In h₀)
  (N : News h₀ L s.heap ((d, od) :: (l, ol) :: rest)) (T : Top p loose mean mg mb h₀) (hk : cs.kind = .function)
  (D : DrawIs l od ol) (hdl : @Ne Nat d l) (hrd : ∀ p ∈ rest, p.1 ≠ d) (hrl : ∀ p ∈ rest, p.1 ≠ l)
  (ret : ∀ x text b t1 od' ol' n h' tk', Fr h₀ L h' m → News h₀ L h' ((x, ({ cls := .type "tuple", data := .seq #[.str text t1, .bool b] n } : Obj)) :: (d, od') :: (l, ol') :: rest) → DrawIs l od' ol' → (d < x ∧ l < x ∧ AllLt x rest) → withinB (Str.ofString "'''") text b = true →
     Q (.ref x) { s with heap := h', toks := tk' }) :
  wpAny (model PySem.Challenge.rw_gn5014_01.row.prog w) (ktrTop 340 800 gd cn cs L a ccd cl outer) (call (.ref 169) [.ref d, .str (Str.ofString "'''") tm]) Q E s := by
  revert X; k_fill; intro X
  refine wpAny_call ?_
  k_dflt cell_enter
  k_steps
  all_goals (
    refine ret _ _ _ _ _ _ _ _ _ (by assumption) (cb_drop (by assumption) piece_sub) (by assumption) ((by assumption : _ ∧ _ ∧ _ ∧ AllLt _ _).2) ?_
    first | decide +kernel | ((rename (Int.toNat _ < _) => hlt'); revert hlt'; generalize Int.toNat _ = k; revert k; decide +kernel))

theorem withinB'
  {d l : Addr} {od ol : Obj} {rest : List (Addr × Obj)} {tm : Tok}
  (B : Below A₀ base outer h₀) (F : Fr h₀ L s.heap m) (X : (hd.heap_39 w.params).In h₀)
  (N : News h₀ L s.heap ((d, od) :: (l, ol) :: rest)) (T : Top p loose mean mg mb h₀) (hk : cs.kind = .function)
  (D : DrawIs l od ol) (hdl : @Ne Nat d l) (hrd : ∀ p ∈ rest, p.1 ≠ d) (hrl : ∀ p ∈ rest, p.1 ≠ l)
  (ret : ∀ x text b t1 od' ol' n h' tk', Fr h₀ L h' m → News h₀ L h' ((x, ({ cls := .type "tuple", data := .seq #[.str text t1, .bool b] n } : Obj)) :: (d, od') :: (l, ol') :: rest) → DrawIs l od' ol' → (d < x ∧ l < x ∧ AllLt x rest) → withinB (Str.ofString "\"\"\"") text b = true →
     Q (.ref x) { s with heap := h', toks := tk' }) :
  wpAny (model PySem.Challenge.rw_gn5014_01.row.prog w) (ktrTop 340 800 gd cn cs L a ccd cl outer) (call (.ref 169) [.ref d, .str (Str.ofString "\"\"\"") tm]) Q E s := by
  revert X; k_fill; intro X
  refine wpAny_call ?_
  k_dflt cell_enter
  k_steps
  all_goals (
    refine ret _ _ _ _ _ _ _ _ _ (by assumption) (cb_drop (by assumption) piece_sub) (by assumption) ((by assumption : _ ∧ _ ∧ _ ∧ AllLt _ _).2) ?_
    first | decide +kernel | ((rename (Int.toNat _ < _) => hlt'); revert hlt'; generalize Int.toNat _ = k; revert k; decide +kernel))

theorem updD_open {d l : Addr} {od ol : Obj} {h : Heap} {news : List (Addr × Obj)} {G : Obj → Obj → List (Addr × Obj)} (N : News h₀ L h news) (D : DrawIs l od ol) (U : UpdD d l od ol news G) :
    ∃ rest, News h₀ L h ((d, od) :: (l, ol) :: rest) ∧ (@Ne Nat d l) ∧ (∀ p ∈ rest, p.1 ≠ d) ∧ (∀ p ∈ rest, p.1 ≠ l) ∧ ∀ od' ol', ∀ p ∈ G od' ol', p ∈ (d, od') :: (l, ol') :: rest := by
  have hne := drawIs_ne D
  obtain ⟨hmd, hml⟩ := updD_at U hne
  refine ⟨news.filter fun p => p.1 != d && p.1 != l, ?_, News.twoPlaces N hmd hml hne, ?_, ?_, ?_⟩
  · intro p hp
    rcases List.mem_cons.mp hp with rfl | hp
    · exact N _ hmd
    rcases List.mem_cons.mp hp with rfl | hp
    · exact N _ hml
    · exact N p (List.mem_filter.mp hp).1
  · intro p hp
    have := (List.mem_filter.mp hp).2
    simp at this
    exact this.1
  · intro p hp
    have := (List.mem_filter.mp hp).2
    simp at this
    exact this.2
  · intro od' ol'
    obtain ⟨n1, u1, u2⟩ := U od' ol'
    intro p hp
    rcases (upd_mem u2).2 p hp with rfl | ⟨hp, hpl⟩
    · exact .tail _ (.head _)
    · rcases (upd_mem u1).2 p hp with rfl | ⟨hp, hpd⟩
      · exact .head _
      · refine .tail _ (.tail _ (List.mem_filter.mpr ⟨hp, ?_⟩))
        simp [hpl, hpd]

theorem within_use
  {d l : Addr} {od ol : Obj} {news : List (Addr × Obj)} {G : Obj → Obj → List (Addr × Obj)} {qs : Str} {tm : Tok}
  (B : Below A₀ base outer h₀) (F : Fr h₀ L s.heap m) (X : (hd.heap_39 w.params).In h₀)
  (N : News h₀ L s.heap news) (T : Top p loose mean mg mb h₀) (hk : cs.kind = .function) (D : DrawIs l od ol) (U : UpdD d l od ol news G) (hqs : qs = Str.ofString "'''" ∨ qs = Str.ofString "\"\"\"")
  (hd : dp ≤ 340) (hu : un ≤ 800)
  (ret : ∀ x text b t1 od' ol' n h' tk', Fr h₀ L h' m → News h₀ L h' ((x, ({ cls := .type "tuple", data := .seq #[.str text t1, .bool b] n } : Obj)) :: G od' ol') → DrawIs l od' ol' → (∀ p ∈ G od' ol', p.1 < x) → withinB qs text b = true →
     Q (.ref x) { s with heap := h', toks := tk' }) :
  wpAny (model PySem.Challenge.rw_gn5014_01.row.prog w) (ktrTop dp un gd cn cs L a ccd cl outer) (call (.ref 169) [.ref d, .str qs tm]) Q E s := by
  refine ktr_up hd hu ?_
  obtain ⟨rest, N', hdl, f1, f2, sub⟩ := updD_open N D U
  have fin : ∀ x text b t1 od' ol' n h' tk', Fr h₀ L h' m → News h₀ L h' ((x, ({ cls := .type "tuple", data := .seq #[.str text t1, .bool b] n } : Obj)) :: (d, od') :: (l, ol') :: rest) → DrawIs l od' ol' →
      (d < x ∧ l < x ∧ AllLt x rest) → withinB qs text b = true → Q (.ref x) { s with heap := h', toks := tk' } := by
    intro x text b t1 od' ol' n h' tk' F' N' D' lt pb
    refine ret x text b t1 od' ol' n h' tk' F' ?_ D' ?_ pb
    · intro p hp
      rcases List.mem_cons.mp hp with rfl | hp
      · exact N' _ (.head _)
      · exact N' _ (.tail _ (sub _ _ p hp))
    · intro p hp
      rcases List.mem_cons.mp (sub _ _ p hp) with rfl | hp
      · exact lt.1
      rcases List.mem_cons.mp hp with rfl | hp
      · exact lt.2.1
      · exact allLt_mem lt.2.2 p hp
  rcases hqs with rfl | rfl
  · exact withinA B F X N' T hk D hdl f1 f2 fin
  · exact withinB' B F X N' T hk D hdl f1 f2 fin
end
end Mine
end -- C4

section -- P4
open PySem PySem.Builtin PySem.Builtin.Str PyProof.Rows
namespace Mine
theorem fresh_P4 : True := by
  w_top off
  k_with_none
  trivial

/-- words behind which no text is open -/
def Closed : Str → List Str → Prop
  | q, [] => q = Str.ofString ""
  | q, t :: r => plainB t 30 = true ∧ 32 ∉ cl q ∧ run (cl t) 0 (cl q) = some [] ∧ Closed (Str.ofString "") r
theorem no32 : 32 ∉ cl (Str.ofString "") := by rw [e0]; simp
theorem Closed.add {t : Str} : ∀ {ws : List Str} {q l : Str}, Closed q ws → RB (Str.ofString "") [t] l → ws.length ≤ 8 → RB q (ws ++ [t]) l
  | [], q, l, h, R, _ => by
    cases h
    exact R
  | [a], q, l, ⟨h1, h2, h3, h4⟩, R, hn => RB.more h1 h2 h3 (r := []) R (by simp)
  | a :: b :: r, q, l, ⟨h1, h2, h3, h4⟩, R, hn => by
    have := Closed.add (ws := b :: r) h4 R (by simp only [List.length_cons] at hn ⊢; omega)
    exact RB.more h1 h2 h3 this (by show (b :: (r ++ [t])).length ≤ 8; simp only [List.length_append, List.length_cons, List.length_nil] at hn ⊢; omega)
theorem Closed.snoc {t left : Str} (hp : pieceB t left = true) (hl : (left != Str.ofString "") = false) : ∀ {ws : List Str} {q : Str}, Closed q ws → Closed q (ws ++ [t])
  | [], q, h => by
    cases h
    exact ⟨plain_of hp, no32, by rw [e0]; exact closed_of hp hl, rfl⟩
  | a :: r, q, ⟨h1, h2, h3, h4⟩ => ⟨h1, h2, h3, Closed.snoc hp hl h4⟩
theorem Closed.rb : ∀ {ws : List Str} {q : Str}, Closed q ws → ws.length ≤ 9 → RB q ws (Str.ofString "")
  | [], q, h, _ => by cases h; exact RB.nil
  | [a], q, ⟨h1, h2, h3, h4⟩, _ => ⟨fun x hx => by rw [List.mem_singleton.mp hx]; exact h1, by simp, .inl rfl, by
    have := scan_run (rest := []) (.inl rfl) (cl a) 0 (cl q) [] h2 h3
    rw [e0]
    rw [List.append_nil] at this
    exact this⟩
  | a :: b :: r, q, ⟨h1, h2, h3, h4⟩, hn => RB.more h1 h2 h3 (Closed.rb h4 (by simp only [List.length_cons] at hn ⊢; omega)) (by simp only [List.length_cons] at hn ⊢; omega)
theorem Closed.first {q t : Str} (hq : q = Str.ofString "'''" ∨ q = Str.ofString "\"\"\"") (h : withinB q t true = true) : Closed q [t] :=
  ⟨wplain_of h, tri_no hq, ends_of h, rfl⟩
theorem Closed.plain : ∀ {ws : List Str} {q : Str}, Closed q ws → ∀ t ∈ ws, t.length ≤ 30
  | a :: r, q, ⟨h1, _, _, h4⟩, t, ht => by
    rcases List.mem_cons.mp ht with rfl | ht
    · exact (plain_semi h1).2
    · exact Closed.plain h4 t ht
theorem StrsAre.snoc {t : Str} {u : Tok} : ∀ {vs : List Value} {ws : List Str}, StrsAre vs ws → StrsAre (vs ++ [.str t u]) (ws ++ [t])
  | _, _, .nil => .cons t u .nil
  | _, _, .cons y v h => .cons y v (StrsAre.snoc h)
theorem StrsAre.len : ∀ {vs : List Value} {ws : List Str}, StrsAre vs ws → vs.length = ws.length
  | _, _, .nil => rfl
  | _, _, .cons y v h => by simp [StrsAre.len h]
theorem sum_le {ws : List Str} (h : ∀ t ∈ ws, t.length ≤ 30) : (ws.map (·.length)).sum ≤ 30 * ws.length := by
  induction ws with
  | nil => simp
  | cons a r ih =>
    have h1 := h a (.head _)
    have h2 := ih fun t ht => h t (.tail _ ht)
    simp only [List.map_cons, List.sum_cons, List.length_cons]
    omega
end Mine
end -- P4

section -- L0
open PySem PySem.W PyProof.Rows
namespace Mine
theorem fresh_L0 : True := by
  w_top off
  k_with_none
  trivial
set_option maxRecDepth 100000
set_option maxHeartbeats 8000000
section
variable {prog : Program} {w : World} {A : Around} {E : Value → Shared → Prop} {s : Shared} {env : Env}
/-- a for over what an iterator walks; the invariant is over the whole state -/
theorem for_it {x : Str} {px pos : Pos} {iter : Expr} {body : List Stmt} {Q : Flow → Shared → Prop}
    (h : wpAny (model prog w) A (eval iter env) (fun xv s₁ => wpAny (model prog w) A (pyIter xv) (fun it s₂ => ∃ (I : Addr) (fp wr : List Addr) (G : Array GenState → Array GenState → Prop) (n : Nat) (P : Nat → Value → Prop) (St J : Nat → Shared → Prop),
      it = .ref I ∧ WalksS prog w A I fp wr G n P St ∧ St 0 s₂ ∧ J 0 s₂ ∧
      (∀ i v s' s₂, i < n → P i v → J i s' → Moved wr G s' s₂ → St (i + 1) s₂ →
        wpAny (model prog w) A (storeName env x v) (fun _ s₃ => wpAny (model prog w) A (execs body env) (fun f s₄ => (f = .next ∧ St (i + 1) s₄ ∧ J (i + 1) s₄) ∨ ∃ v, f = .ret v ∧ Q (.ret v) s₄) E s₃) E s₂) ∧
      (∀ s' s₂, J n s' → Moved wr G s' s₂ → Q .next s₂)) E s₁) E s)
    (hs : ∀ x, foldedSetIterable iter env x = pure x := by intro _; rfl)
    (hE : PassesOwn (model prog w) A env E := by passes_own) :
    wpAny (model prog w) A (exec (.For (.Name x px) iter body [] pos) env) Q E s := by
  refine wpAny_For (wpAny_mono h (fun xv s₁ h₁ => wpAny_mono h₁ (fun it s₂ h₂ => ?_) fun _ _ e => e) fun _ _ e => e) hs
  obtain ⟨I, fp, wr, G, n, P, St, J, rfl, W, hst, hJ, step, hQ⟩ := h₂
  refine codeAny_forLoop (fun k s' => ∃ i, i ≤ n ∧ k = n - i ∧ St i s' ∧ J i s') ?_ n ⟨0, Nat.zero_le _, rfl, hst, hJ⟩
  rintro k s' ⟨i, hi, rfl, hst', hJ'⟩
  by_cases hlt : i < n
  · refine W.item i s' _ _ hlt hst' fun v s₂ hP hst₂ mv => ?_
    show wpAny _ _ (assign (.Name x px) env v) _ _ s₂
    refine wpAny_assign_Name (wpAny_passesOwn hE (wpAny_mono (step i v s' s₂ hlt hP hJ' mv hst₂) (fun _ s₃ h₃ => ?_) fun _ _ e => e))
    refine wpAny_passesOwn hE (wpAny_mono h₃ (fun f s₄ h₄ => ?_) fun _ _ e => e)
    rcases h₄ with ⟨rfl, h5, h6⟩ | ⟨v, rfl, h5⟩
    · exact ⟨n - (i + 1), by omega, i + 1, hlt, rfl, h5, h6⟩
    · exact h5
  · obtain rfl : i = n := by omega
    refine W.done s' _ _ hst' fun s₂ mv => ?_
    exact wpAny_execs_nil (hQ s' s₂ hJ' mv)
end

abbrev rangeItO (x left step : Int) : Obj := { cls := .type "range_iterator", dict := none, data := .fields #[rawInt x, rawInt left, rawInt step], slots := #[] }
theorem range_facts {b : Int} (h0 : 0 ≤ b) (h9 : b < 9) : Builtin.Range.small 0 (1 + b) 1 = true ∧ ∃ n : Nat, Builtin.Range.rangeSize 0 (1 + b) 1 = (n : Int) := by
  have : b = 0 ∨ b = 1 ∨ b = 2 ∨ b = 3 ∨ b = 4 ∨ b = 5 ∨ b = 6 ∨ b = 7 ∨ b = 8 := by omega
  rcases this with rfl | rfl | rfl | rfl | rfl | rfl | rfl | rfl | rfl
  · exact ⟨by decide +kernel, 1, by decide +kernel⟩
  · exact ⟨by decide +kernel, 2, by decide +kernel⟩
  · exact ⟨by decide +kernel, 3, by decide +kernel⟩
  · exact ⟨by decide +kernel, 4, by decide +kernel⟩
  · exact ⟨by decide +kernel, 5, by decide +kernel⟩
  · exact ⟨by decide +kernel, 6, by decide +kernel⟩
  · exact ⟨by decide +kernel, 7, by decide +kernel⟩
  · exact ⟨by decide +kernel, 8, by decide +kernel⟩
  · exact ⟨by decide +kernel, 9, by decide +kernel⟩

end Mine
end -- L0

section -- R5
open PySem PySem.W PyProof.Rows
namespace Mine
theorem fresh_R5 : True := by
  w_top off
  k_with_none
  trivial
local macro_rules | `(tactic| walk_at "no such key") => `(tactic| fail)
set_option maxRecDepth 100000
set_option maxHeartbeats 8000000

local macro_rules | `(tactic| walk_at "execs cons") => `(tactic| (k_here; refine toks_gen ?_; intro tk))
local macro_rules | `(tactic| walk_at "execs nil") => `(tactic| (k_here; refine toks_gen ?_; intro tk))
local macro_rules | `(tactic| k_all) => `(tactic| assumption)
local macro_rules | `(tactic| walk_at "call ref") => `(tactic| (k_here; (with_reducible show wpAny _ _ (call (Value.ref _) [Value.ref _, Value.int _ _]) _ _ _); k_dflt (refine' take_use ?k1 ?k2 ?k3 ?k4 ?k5 ?kK ?kD ?kU ?km ?km2 ?kd ?ku ?_; (case k1 => k_asm); (case k2 => k_asm); (case k3 => k_asm); (case k4 => k_asm); (case k5 => k_asm); (case kK => first | exact rfl | assumption); (case kD => assumption); (case kU => (intro od' ol'; exact ⟨_, by k_upd, by k_upd⟩)); (case km => decide); (case km2 => decide); (case kd => exact Nat.le_of_ble_eq_true rfl); (case ku => exact Nat.le_of_ble_eq_true rfl); (intro r' t' od' ol' h' tk' F' N' D' r0' r1'); (try dsimp only at N')); (try k_sweep)))
local macro_rules | `(tactic| walk_at "subscriptTail") => `(tactic| (k_here; (with_reducible show wpAny _ _ (subscriptTail _ _ (Value.ref _) (Value.int _ _)) _ _ _); k_dflt (refine' KTb.item_list ?ktbl ?ktbw ?ktb0 ?ktb1 ?ktbf ?_; (case ktbl => exact News.isList (by k_asm) (by k_mem)); (case ktbw => repeat constructor); (case ktb0 => omega); (case ktb1 => (simp only [List.length_cons, List.length_nil]; omega)); (case ktbf => omega)); intro t' lt'))
theorem mark_two {k : Nat} (h : k < [Str.ofString "'", Str.ofString "\""].length) : [Str.ofString "'", Str.ofString "\""].getD k Str.empty = Str.ofString "'" ∨ [Str.ofString "'", Str.ofString "\""].getD k Str.empty = Str.ofString "\"" := by
  match k, h with
  | 0, _ => exact .inl rfl
  | 1, _ => exact .inr rfl
local macro_rules | `(tactic| walk_at "call ref") => `(tactic| (k_here; (with_reducible show wpAny _ _ (call (Value.ref _) [Value.ref _, Value.str _ _]) _ _ _); k_dflt (refine' piece_use ?k1 ?k2 ?k3 ?k4 ?k5 ?kK ?kD ?kU ?km ?kd ?ku ?_; (case k1 => k_asm); (case k2 => k_asm); (case k3 => k_asm); (case k4 => k_asm); (case k5 => k_asm); (case kK => first | exact rfl | assumption); (case kD => assumption); (case kU => (intro od' ol'; exact ⟨_, by k_upd, by k_upd⟩)); (case km => exact mark_two (by assumption)); (case kd => exact Nat.le_of_ble_eq_true rfl); (case ku => exact Nat.le_of_ble_eq_true rfl); (intro x' text' left' t1' t2' od' ol' n' h' tk' F' N' D' lt' pb'); (try dsimp only at N')); (have hl' := piece_len pb'); (try k_lt lt'); (try k_sweep)))
local macro_rules | `(tactic| walk_at "call ref") => `(tactic| (k_here; (with_reducible show wpAny _ _ (call (Value.ref _) [Value.ref _, Value.str _ _]) _ _ _); k_dflt (refine' within_use ?k1 ?k2 ?k3 ?k4 ?k5 ?kK ?kD ?kU ?km ?kd ?ku ?_; (case k1 => k_asm); (case k2 => k_asm); (case k3 => k_asm); (case k4 => k_asm); (case k5 => k_asm); (case kK => first | exact rfl | assumption); (case kD => assumption); (case kU => (intro od' ol'; exact ⟨_, by k_upd, by k_upd⟩)); (case km => assumption); (case kd => exact Nat.le_of_ble_eq_true rfl); (case ku => exact Nat.le_of_ble_eq_true rfl); (intro x' text' b' t1' od' ol' n' h' tk' F' N' D' lt' pb'); (try dsimp only at N')); (have hl' := within_len pb'); (try k_lt lt'); (try k_sweep)))

theorem tri_eq {q : Str} (hq : q = Str.ofString "'''" ∨ q = Str.ofString "\"\"\"") : (q == Str.ofString "") = false := by
  rcases hq with rfl | rfl <;> decide +kernel
theorem tri_ne {q : Str} (hq : q = Str.ofString "'''" ∨ q = Str.ofString "\"\"\"") : (q != Str.ofString "") = true := by
  rcases hq with rfl | rfl <;> decide +kernel
theorem sp_len : (Str.ofString " ").length = 1 := by decide +kernel
theorem join_room {q : Str} {ws : List Str} {t : Str} (h : Closed q ws) (hn : ws.length ≤ 8) (ht : t.length ≤ 30) : ((ws ++ [t]).map (·.length)).sum + (ws ++ [t]).length * (Str.ofString " ").length ≤ 16777216 := by
  have := sum_le h.plain
  rw [sp_len]
  simp only [List.map_append, List.sum_append, List.map_cons, List.map_nil, List.sum_cons, List.sum_nil, List.length_append, List.length_cons, List.length_nil]
  omega
theorem join_room0 {q : Str} {ws : List Str} (h : Closed q ws) (hn : ws.length ≤ 8) : (ws.map (·.length)).sum + ws.length * (Str.ofString " ").length ≤ 16777216 := by
  have := sum_le h.plain
  rw [sp_len]
  omega
theorem push_snoc {vs : List Value} {v : Value} : vs.toArray.push v = (vs ++ [v]).toArray := by simp
theorem items_len {vs : List Value} {ws : List Str} (h : StrsAre vs ws) (hn : ws.length ≤ 8) : vs.toArray.size ≤ sizeLine := by
  rw [sizeLine_eq, List.size_toArray, StrsAre.len h]; omega
local macro_rules | `(tactic| walk_at "call builtin:list.append") => `(tactic| (k_here; (with_reducible show wpAny _ _ (call (Value.builtin _) [Value.ref _, _]) _ _ _); k_dflt (refine' append_K ?k1 ?k2 ?k3 ?_ ?z; (case k1 => k_asm); (case k2 => k_asm); (case k3 => k_upd); (case z => exact items_len (by assumption) (by assumption)); k_whole); intro h' F' N'; (try rw [push_snoc] at N'); (try k_sweep)))
local macro_rules | `(tactic| walk_at "call builtin:str.join") => `(tactic| (k_here; (with_reducible show wpAny _ _ (call (Value.builtin "str.join") [Value.str _ _, Value.ref _]) _ _ _); k_dflt (refine' join_list ?kl ?ks ?ko ?_; (case kl => exact News.isList (by k_asm) (by k_mem)); (case ks => exact StrsAre.snoc (by assumption)); (case ko => exact join_room (by assumption) (by assumption) (by assumption))); intro t' k'))

/-- _law_row's scope and statements, out of the program -/
def rowParts : Scope × List Stmt := match PySem.Challenge.pw_gn5014_01.main.body with
  | _ :: _ :: _ :: _ :: _ :: _ :: _ :: _ :: _ :: _ :: .FunctionDef _ _ body _ _ _ scope _ _ _ :: _ => (scope, body)
  | _ => ({ kind := .function, names := [], isGenerator := false, isCoroutine := false }, [])
def rowFor : Stmt := match rowParts.2 with
  | _ :: _ :: _ :: x :: _ => x
  | _ => .Pass ⟨0, 0, 0, 0⟩
def rowIter : Expr := match rowFor with
  | .For _ it _ _ _ => it
  | _ => .Constant .none 0 ⟨0, 0, 0, 0⟩
def rowBody : List Stmt := match rowFor with
  | .For _ _ b _ _ => b
  | _ => []
abbrev rowEnv (L' : Addr) : Env := envOf (Str.ofString "_law_row") rowParts.1 L' 176 (Value.ref 175)
abbrev MW (d wa : Addr) (u : Str → Option Value) : Str → Option Value := fun y =>
  if y = Str.ofString "draw" then some (.ref d) else if y = Str.ofString "words" then some (.ref wa) else u y
theorem fr_mw {g h : Heap} {L d wa : Addr} {m : Str → Option Value} (F : Fr g L h m) (h1 : m (Str.ofString "draw") = some (.ref d)) (h2 : m (Str.ofString "words") = some (.ref wa)) : Fr g L h (MW d wa m) := by
  have e : MW d wa m = m := by
    funext y
    unfold MW
    split
    · rename_i e; rw [e, h1]
    split
    · rename_i e; rw [e, h2]
    · rfl
  rw [e]; exact F
/-- the order of the places in a row's ledger -/
structure Far (d l z y wa : Addr) : Prop where
  dl : @Ne Nat d l
  zd : @Ne Nat z d
  zl : @Ne Nat z l
  yd : @Ne Nat y d
  yl : @Ne Nat y l
  dw : @LT.lt Nat _ d wa
  lw : @LT.lt Nat _ l wa
  zw : @LT.lt Nat _ z wa
  yw : @LT.lt Nat _ y wa
abbrev pairO (text left : Str) (t1 t2 : Tok) (n : Nat) : Obj := { cls := .type "tuple", data := .seq #[.str text t1, .str left t2] n }

section
variable {w : World} {p : Program} {loose : List Str} {mean : ExcName → Option Value} {mg mb : Str → Option Value}
  {gd : Option (List Code)} {cn : Str} {cs : Scope} {L a : Addr} {ccd : Value} {cl' : List (Str × Addr)} {outer : List Env} {base g : Heap} {L' : Addr} {s : Shared} {E E2 : Value → Shared → Prop}

theorem row_turn {Q : Flow → Shared → Prop}
  {d l z y wa I : Addr} {od ol oz oy oI : Obj} {qs : Str} {vs : List Value} {ws : List Str} {n : Nat} {u : Str → Option Value}
  (B : Below (ktrTop 320 500 gd cn cs L a ccd cl' outer) base (envX cn cs L a ccd cl' :: outer) g) (F : Fr g L' s.heap (MW d wa u)) (X : (hd.heap_39 w.params).In g)
  (N : News g L' s.heap [(wa, listOf vs.toArray n), (d, od), (l, ol), (z, oz), (y, oy), (I, oI)]) (T : Top p loose mean mg mb g)
  (D : DrawIs l od ol) (P : Far d l z y wa) (hI : @LT.lt Nat _ wa I) (hV : StrsAre vs ws) (hC : Closed qs ws) (hn : ws.length ≤ 8)
  (next : ∀ (vs' : List Value) (ws' : List Str) (n' : Nat) (u' : Str → Option Value) (od' ol' : Obj) (h' : Heap) (tk' : Nat), StrsAre vs' ws' → Closed qs ws' → ws'.length = ws.length + 1 → DrawIs l od' ol' → Fr g L' h' (MW d wa u') →
     News g L' h' [(wa, listOf vs'.toArray n'), (d, od'), (l, ol'), (z, oz), (y, oy), (I, oI)] → Q .next { s with heap := h', toks := tk' })
  (back : ∀ (x : Addr) (text left : Str) (t1 t2 : Tok) (n' : Nat) (u' : Str → Option Value) (od' ol' : Obj) (h' : Heap) (tk' : Nat), RowB qs text left → DrawIs l od' ol' → Fr g L' h' u' → (@LT.lt Nat _ wa x) →
     News g L' h' [(x, pairO text left t1 t2 n'), (d, od'), (l, ol'), (z, oz), (y, oy)] → Q (.ret (.ref x)) { s with heap := h', toks := tk' }) :
  wpAny (model PySem.Challenge.rw_gn5014_01.row.prog w) ((ktrTop 320 500 gd cn cs L a ccd cl' outer).deeper (rowEnv L')) (execs rowBody (rowEnv L')) Q (fun e s' => wpAny (model PySem.Challenge.rw_gn5014_01.row.prog w) ((ktrTop 320 500 gd cn cs L a ccd cl' outer).deeper (rowEnv L')) (leaving (rowEnv L') e) (fun _ s'' => E e s'') (fun e' s'' => E2 e' s'') s') s := by
  revert X; k_fill; intro X
  obtain ⟨p1, p2, p3, p4, p5, p6, p7, p8, p9⟩ := P
  delta rowEnv
  delta MW at F
  conv in (occs := *) rowParts.1 => all_goals whnf
  show wpAny _ _ (execs [_, _, _, _] _) _ _ _
  k_unmd
  k_steps
  all_goals first
    | (refine' next _ _ _ _ _ _ _ _ ?hV ?hC ?hl ?hD ?hF ?hN
       case hF => exact fr_mw (by assumption) rfl rfl
       case hN => exact cb_drop (by assumption) (List.forall_mem_cons.mpr ⟨by k_mem, List.forall_mem_cons.mpr ⟨by k_mem, List.forall_mem_cons.mpr ⟨by k_mem, List.forall_mem_cons.mpr ⟨by k_mem, List.forall_mem_cons.mpr ⟨by k_mem, List.forall_mem_cons.mpr ⟨by k_mem, List.forall_mem_nil _⟩⟩⟩⟩⟩⟩)
       case hV => exact StrsAre.snoc (by assumption)
       case hC => exact Closed.snoc (by assumption) (by assumption) (by assumption)
       case hl => simp
       case hD => assumption)
    | (refine' back _ _ _ _ _ _ _ _ _ _ _ ?hR ?hD ?hF ?hx ?hN
       case hF => assumption
       case hN => exact cb_drop (by assumption) (List.forall_mem_cons.mpr ⟨by k_mem, List.forall_mem_cons.mpr ⟨by k_mem, List.forall_mem_cons.mpr ⟨by k_mem, List.forall_mem_cons.mpr ⟨by k_mem, List.forall_mem_cons.mpr ⟨by k_mem, List.forall_mem_nil _⟩⟩⟩⟩⟩)
       case hD => assumption
       case hx => omega
       case hR => first
         | exact (Closed.add (by assumption) (RB.hash (by assumption) (by assumption)) (by assumption)).text
         | exact (Closed.add (by assumption) (RB.open (by assumption) (by assumption) (by assumption)) (by assumption)).text)

theorem range_small {b : Int} (h0 : 0 ≤ b) (h9 : b < 4) : Builtin.Range.small 0 b 1 = true ∧ ∃ n : Nat, Builtin.Range.rangeSize 0 b 1 = (n : Int) ∧ n ≤ 3 := by
  have : b = 0 ∨ b = 1 ∨ b = 2 ∨ b = 3 := by omega
  rcases this with rfl | rfl | rfl | rfl
  · exact ⟨by decide +kernel, 0, by decide +kernel, by decide⟩
  · exact ⟨by decide +kernel, 1, by decide +kernel, by decide⟩
  · exact ⟨by decide +kernel, 2, by decide +kernel, by decide⟩
  · exact ⟨by decide +kernel, 3, by decide +kernel, by decide⟩

theorem iter_row {E Q : Value → Shared → Prop} {d l z y wa : Addr} {od ol oz oy ow : Obj} {u : Str → Option Value}
  (B : Below (ktrTop 320 500 gd cn cs L a ccd cl' outer) base (envX cn cs L a ccd cl' :: outer) g) (F : Fr g L' s.heap (MW d wa u)) (X : (hd.heap_39 w.params).In g)
  (N : News g L' s.heap [(wa, ow), (d, od), (l, ol), (z, oz), (y, oy)]) (T : Top p loose mean mg mb g) (D : DrawIs l od ol) (P : Far d l z y wa)
  (ret : ∀ (r : Addr) (b : Int) (t₁ u₁ v₁ : Tok) (od' ol' : Obj) (h' : Heap) (tk' : Nat), IsRange h' r 0 b 1 t₁ u₁ v₁ → 0 ≤ b → b < 4 → DrawIs l od' ol' → Fr g L' h' (MW d wa u) → News g L' h' [(wa, ow), (d, od'), (l, ol'), (z, oz), (y, oy)] → Q (.ref r) { s with heap := h', toks := tk' }) :
  wpAny (model PySem.Challenge.rw_gn5014_01.row.prog w) ((ktrTop 320 500 gd cn cs L a ccd cl' outer).deeper (rowEnv L')) (eval rowIter (rowEnv L')) Q E s := by
  revert X; k_fill; intro X
  obtain ⟨p1, p2, p3, p4, p5, p6, p7, p8, p9⟩ := P
  delta rowEnv
  delta MW at F
  conv in (occs := *) rowParts.1 => all_goals whnf
  show wpAny _ _ (eval (.Call _ _ _ _) _) _ _ _
  k_steps
  exact ret _ _ _ _ _ _ _ _ _ (by assumption) (by assumption) (by assumption) (by assumption) (by assumption) (by assumption)

theorem row_for {Q : Flow → Shared → Prop}
  {d l z y wa : Addr} {od ol oz oy : Obj} {qs : Str} {vs : List Value} {ws : List Str} {n : Nat} {u : Str → Option Value}
  (B : Below (ktrTop 320 500 gd cn cs L a ccd cl' outer) base (envX cn cs L a ccd cl' :: outer) g) (F : Fr g L' s.heap (MW d wa u)) (X : (hd.heap_39 w.params).In g)
  (N : News g L' s.heap [(wa, listOf vs.toArray n), (d, od), (l, ol), (z, oz), (y, oy)]) (T : Top p loose mean mg mb g)
  (D : DrawIs l od ol) (P : Far d l z y wa) (hV : StrsAre vs ws) (hC : Closed qs ws) (hn : ws.length ≤ 1)
  (next : ∀ (vs' : List Value) (ws' : List Str) (n' : Nat) (u' : Str → Option Value) (od' ol' : Obj) (h' : Heap) (tk' : Nat), StrsAre vs' ws' → Closed qs ws' → ws'.length ≤ 8 → DrawIs l od' ol' → Fr g L' h' (MW d wa u') →
     News g L' h' [(wa, listOf vs'.toArray n'), (d, od'), (l, ol'), (z, oz), (y, oy)] → Q .next { s with heap := h', toks := tk' })
  (back : ∀ (x : Addr) (text left : Str) (t1 t2 : Tok) (n' : Nat) (u' : Str → Option Value) (od' ol' : Obj) (h' : Heap) (tk' : Nat), RowB qs text left → DrawIs l od' ol' → Fr g L' h' u' → (@LT.lt Nat _ wa x) →
     News g L' h' [(x, pairO text left t1 t2 n'), (d, od'), (l, ol'), (z, oz), (y, oy)] → Q (.ret (.ref x)) { s with heap := h', toks := tk' }) :
  wpAny (model PySem.Challenge.rw_gn5014_01.row.prog w) ((ktrTop 320 500 gd cn cs L a ccd cl' outer).deeper (rowEnv L')) (exec rowFor (rowEnv L')) Q (fun e s' => wpAny (model PySem.Challenge.rw_gn5014_01.row.prog w) ((ktrTop 320 500 gd cn cs L a ccd cl' outer).deeper (rowEnv L')) (leaving (rowEnv L') e) (fun _ s'' => E e s'') (fun e' s'' => E2 e' s'') s') s := by
  show wpAny _ _ (exec (.For (.Name (Str.ofString "k") _) rowIter rowBody [] _) (rowEnv L')) _ _ _
  refine for_it ?_
  refine iter_row B F X N T D P ?_
  intro r b t₁ u₁ v₁ od₁ ol₁ h₁ tk₁ hr hb0 hb9 D₁ F₁ N₁
  obtain ⟨hsm, k, hk, hk3⟩ := range_small hb0 hb9
  refine wpAny_pyIter_range hr hsm ?_
  have hLlt : L' < h₁.objs.size := F₁.ns.lt
  have hgl : ∀ b, h₁.objs.size ≤ b → g.get? b = none := fun b hb => by
    cases q : g.get? b with
    | none => rfl
    | some o' => exact absurd (Heap.lt_size (F₁.keep _ _ q)) (Nat.not_lt.mpr hb)
  have hlt : ∀ p ∈ [(wa, listOf vs.toArray n), (d, od₁), (l, ol₁), (z, oz), (y, oy)], p.1 < h₁.objs.size := fun p hp => Heap.lt_size (N₁ p hp).1
  have hw : @LT.lt Nat _ wa h₁.objs.size := hlt (wa, listOf vs.toArray n) (by simp)
  have ne : ∀ (ow od' ol' : Obj), ∀ p ∈ [(wa, ow), (d, od'), (l, ol'), (z, oz), (y, oy)], p.1 ∉ [h₁.objs.size] := by
    intro ow od' ol' p hp hm
    obtain ⟨_, _, _, _, _, p6, p7, p8, p9⟩ := P
    have hm' : @Eq Nat p.1 h₁.objs.size := List.mem_singleton.mp hm
    simp only [List.mem_cons, List.not_mem_nil, or_false] at hp
    rcases hp with rfl | rfl | rfl | rfl | rfl
    · exact Nat.ne_of_lt hw hm'
    · exact Nat.ne_of_lt (Nat.lt_trans p6 hw) hm'
    · exact Nat.ne_of_lt (Nat.lt_trans p7 hw) hm'
    · exact Nat.ne_of_lt (Nat.lt_trans p8 hw) hm'
    · exact Nat.ne_of_lt (Nat.lt_trans p9 hw) hm'
  refine ⟨h₁.objs.size, _, _, _, k, _, _, fun i s' => ∃ (vs' : List Value) (ws' : List Str) (n' : Nat) (u' : Str → Option Value) (od' ol' : Obj), StrsAre vs' ws' ∧ Closed qs ws' ∧ ws'.length ≤ 1 + i ∧ DrawIs l od' ol' ∧ s'.gens = s.gens ∧ s'.drawn = s.drawn ∧ s'.os = s.os ∧ Fr g L' s'.heap (MW d wa u') ∧
     News g L' s'.heap [(wa, listOf vs'.toArray n'), (d, od'), (l, ol'), (z, oz), (y, oy)], rfl, (Walks.range rfl h₁.objs.size 0 1 k).toS, ?_, ?_, ?_, ?_⟩
  · show IsRangeIter _ _ _ _ _
    rw [hk]; simpa using Heap.get?_push_size _ rfl
  · exact ⟨vs, ws, n, u, od₁, ol₁, hV, hC, hn, D₁, rfl, rfl, rfl, F₁.push _, fun p hp => ⟨Heap.get?_push_of_some _ (N₁ p hp).1, (N₁ p hp).2⟩⟩
  · rintro i v s' s₂ hi ⟨t, rfl⟩ ⟨vs', ws', n', u', od', ol', hV', hC', hn', D', hg1, hg2, hg3, F', N'⟩ mv hst
    have Fs := F'.moved mv (by intro b hb; rw [List.mem_singleton.mp hb]; exact hLlt)
    have Ns : News g L' s₂.heap [(wa, listOf vs'.toArray n'), (d, od'), (l, ol'), (z, oz), (y, oy), (h₁.objs.size, rangeItO (0 + ((i + 1 : Nat) : Int) * 1) ((k : Int) - ((i + 1 : Nat) : Int)) 1)] := by
      have old : News g L' s₂.heap [(wa, listOf vs'.toArray n'), (d, od'), (l, ol'), (z, oz), (y, oy)] := fun p hp => ⟨mv.heap _ _ (ne _ od' ol' _ hp) (N' p hp).1, (N' p hp).2⟩
      intro p hp
      rcases List.mem_append.mp (show p ∈ [(wa, listOf vs'.toArray n'), (d, od'), (l, ol'), (z, oz), (y, oy)] ++ [(h₁.objs.size, rangeItO (0 + ((i + 1 : Nat) : Int) * 1) ((k : Int) - ((i + 1 : Nat) : Int)) 1)] from hp) with hp | hp
      · exact old p hp
      · rw [List.mem_singleton.mp hp]
        exact ⟨hst, Nat.ne_of_gt hLlt, hgl _ (Nat.le_refl _)⟩
    have e1 : s₂.gens = s.gens := mv.gens.trans hg1
    have e2 : s₂.drawn = s.drawn := mv.drawn.trans hg2
    have e3 : s₂.os = s.os := mv.os.trans hg3
    refine stN Fs Ns (fun h₃ F₃ N₃ => ?_)
    refine row_turn (s := ⟨h₃, s₂.gens, s₂.drawn, s₂.toks + 1, s₂.os⟩) (u := _) B (fr_mw F₃ rfl rfl) X N₃ T D' P hw hV' hC' (by omega) ?_ ?_
    · intro vs4 ws4 n4 u4 od4 ol4 h4 tk4 hV4 hC4 hl4 D4 F4 N4
      refine .inl ⟨rfl, (N4 (h₁.objs.size, _) (by simp)).1, vs4, ws4, n4, u4, od4, ol4, hV4, hC4, by omega, D4, e1, e2, e3, F4, fun p hp => N4 p ?_⟩
      exact List.mem_append_left [(h₁.objs.size, _)] hp
    · intro x text left t1 t2 n4 u4 od4 ol4 h4 tk4 hR D4 F4 hx N4
      refine .inr ⟨_, rfl, ?_⟩
      have := back x text left t1 t2 n4 u4 od4 ol4 h4 tk4 hR D4 F4 hx N4
      show Q _ ⟨h4, s₂.gens, s₂.drawn, tk4, s₂.os⟩
      rw [e1, e2, e3]; exact this
  · rintro s' s₂ ⟨vs', ws', n', u', od', ol', hV', hC', hn', D', hg1, hg2, hg3, F', N'⟩ mv
    have e1 : s₂.gens = s.gens := mv.gens.trans hg1
    have e2 : s₂.drawn = s.drawn := mv.drawn.trans hg2
    have e3 : s₂.os = s.os := mv.os.trans hg3
    have := next vs' ws' n' u' od' ol' s₂.heap s₂.toks hV' hC' (by omega) D' (F'.moved mv (by intro b hb; rw [List.mem_singleton.mp hb]; exact hLlt)) (fun p hp => ⟨mv.heap _ _ (ne _ od' ol' _ hp) (N' p hp).1, (N' p hp).2⟩)
    rw [← e1, ← e2, ← e3] at this
    exact this
end
end Mine
end -- R5

section -- R6
open PySem PySem.W PyProof.Rows
namespace Mine
theorem fresh_R6 : True := by
  w_top off
  k_with_none
  trivial
set_option maxRecDepth 100000
set_option maxHeartbeats 8000000

local macro_rules | `(tactic| walk_at "execs cons") => `(tactic| (k_here; refine toks_gen ?_; intro tk))
local macro_rules | `(tactic| walk_at "execs nil") => `(tactic| (k_here; refine toks_gen ?_; intro tk))
local macro_rules | `(tactic| k_all) => `(tactic| assumption)
local macro_rules | `(tactic| walk_at "call ref") => `(tactic| (k_here; (with_reducible show wpAny _ _ (call (Value.ref _) [Value.ref _, Value.int _ _]) _ _ _); k_dflt (refine' take_use ?k1 ?k2 ?k3 ?k4 ?k5 ?kK ?kD ?kU ?km ?km2 ?kd ?ku ?_; (case k1 => k_asm); (case k2 => k_asm); (case k3 => k_asm); (case k4 => k_asm); (case k5 => k_asm); (case kK => first | exact rfl | assumption); (case kD => assumption); (case kU => (intro od' ol'; exact ⟨_, by k_upd, by k_upd⟩)); (case km => decide); (case km2 => decide); (case kd => exact Nat.le_of_ble_eq_true rfl); (case ku => exact Nat.le_of_ble_eq_true rfl); (intro r' t' od' ol' h' tk' F' N' D' r0' r1'); (try dsimp only at N')); (try k_sweep)))
local macro_rules | `(tactic| walk_at "subscriptTail") => `(tactic| (k_here; (with_reducible show wpAny _ _ (subscriptTail _ _ (Value.ref _) (Value.int _ _)) _ _ _); k_dflt (refine' KTb.item_list ?ktbl ?ktbw ?ktb0 ?ktb1 ?ktbf ?_; (case ktbl => exact News.isList (by k_asm) (by k_mem)); (case ktbw => repeat constructor); (case ktb0 => omega); (case ktb1 => (simp only [List.length_cons, List.length_nil]; omega)); (case ktbf => omega)); intro t' lt'))
local macro_rules | `(tactic| walk_at "call ref") => `(tactic| (k_here; (with_reducible show wpAny _ _ (call (Value.ref _) [Value.ref _, Value.str _ _]) _ _ _); k_dflt (refine' piece_use ?k1 ?k2 ?k3 ?k4 ?k5 ?kK ?kD ?kU ?km ?kd ?ku ?_; (case k1 => k_asm); (case k2 => k_asm); (case k3 => k_asm); (case k4 => k_asm); (case k5 => k_asm); (case kK => first | exact rfl | assumption); (case kD => assumption); (case kU => (intro od' ol'; exact ⟨_, by k_upd, by k_upd⟩)); (case km => exact mark_two (by assumption)); (case kd => exact Nat.le_of_ble_eq_true rfl); (case ku => exact Nat.le_of_ble_eq_true rfl); (intro x' text' left' t1' t2' od' ol' n' h' tk' F' N' D' lt' pb'); (try dsimp only at N')); (have hl' := piece_len pb'); (try k_lt lt'); (try k_sweep)))
local macro_rules | `(tactic| walk_at "call ref") => `(tactic| (k_here; (with_reducible show wpAny _ _ (call (Value.ref _) [Value.ref _, Value.str _ _]) _ _ _); k_dflt (refine' within_use ?k1 ?k2 ?k3 ?k4 ?k5 ?kK ?kD ?kU ?km ?kd ?ku ?_; (case k1 => k_asm); (case k2 => k_asm); (case k3 => k_asm); (case k4 => k_asm); (case k5 => k_asm); (case kK => first | exact rfl | assumption); (case kD => assumption); (case kU => (intro od' ol'; exact ⟨_, by k_upd, by k_upd⟩)); (case km => assumption); (case kd => exact Nat.le_of_ble_eq_true rfl); (case ku => exact Nat.le_of_ble_eq_true rfl); (intro x' text' b' t1' od' ol' n' h' tk' F' N' D' lt' pb'); (try dsimp only at N')); (have hl' := within_len pb'); (try k_lt lt'); (try k_sweep)))
local macro_rules | `(tactic| walk_at "call builtin:str.join") => `(tactic| (k_here; (with_reducible show wpAny _ _ (call (Value.builtin "str.join") [Value.str _ _, Value.ref _]) _ _ _); k_dflt (refine' join_list ?kl ?ks ?ko ?_; (case kl => exact News.isList (by k_asm) (by k_mem)); (case ks => assumption); (case ko => exact join_room0 (by assumption) (by assumption))); intro t' k'))
theorem Closed.first' {q t : Str} {b : Bool} (hq : q = Str.ofString "'''" ∨ q = Str.ofString "\"\"\"") (h : withinB q t b = true) (hb : b = true) : Closed q [t] := by
  subst hb
  exact Closed.first hq h
theorem news_cut1 {g h : Heap} {L : Addr} {x : Addr × Obj} {l : List (Addr × Obj)} (N : News g L h (x :: l)) : News g L h l := fun p hp => N p (.tail _ hp)
theorem strs_nil : StrsAre (#[] : Array Value).toList [] := .nil
theorem strs_one {t : Str} {u : Tok} : StrsAre [Value.str t u] [t] := .cons t u .nil
local macro_rules | `(tactic| walk_at "exec For Name Call cons nil") => `(tactic| (k_here; (with_reducible show wpAny _ _ (exec (Stmt.For _ _ _ _ _) _) _ _ _); k_dflt (refine' row_for ?k1 (fr_mw ?k2 ?e1 ?e2) ?k3 ?k4 ?k5 ?kD ?kP ?kV ?kC ?kn ?_ ?_; (case k1 => k_asm); (case k2 => k_asm); (case e1 => exact rfl); (case e2 => exact rfl); (case k3 => k_asm); (case k5 => k_asm); (case k4 => first | assumption | exact news_cut1 (by assumption)); (case kV => first | exact strs_nil | exact strs_one); (case kC => first | exact (rfl : Closed (Str.ofString "") []) | exact Closed.first' (by assumption) (by assumption) (by assumption)); (case kD => assumption); (case kP => constructor <;> omega); (case kn => simp))))
section
variable {w : World} {p : Program} {loose : List Str} {mean : ExcName → Option Value} {mg mb : Str → Option Value}
  {gd : Option (List Code)} {cn : Str} {cs : Scope} {a : Addr} {ccd : Value} {cl : List (Str × Addr)} {outer : List Env} {A₀ : Around} {base h₀ : Heap} {L : Addr} {m : Str → Option Value} {s : Shared} {Q E : Value → Shared → Prop}

theorem row_spec
  {d l z y : Addr} {od ol oz oy : Obj} {qs : Str} {tm : Tok}
  (B : Below A₀ base outer h₀) (F : Fr h₀ L s.heap m) (X : (hd.heap_39 w.params).In h₀)
  (N : News h₀ L s.heap [(d, od), (l, ol), (z, oz), (y, oy)]) (T : Top p loose mean mg mb h₀) (hk : cs.kind = .function)
  (D : DrawIs l od ol) (hdl : @Ne Nat d l) (hzd : @Ne Nat z d) (hzl : @Ne Nat z l) (hyd : @Ne Nat y d) (hyl : @Ne Nat y l) (hq : Lefts qs)
  (ret : ∀ x text left t1 t2 od' ol' n h' tk', Fr h₀ L h' m → News h₀ L h' [(x, ({ cls := .type "tuple", data := .seq #[.str text t1, .str left t2] n } : Obj)), (d, od'), (l, ol'), (z, oz), (y, oy)] → DrawIs l od' ol' → RowB qs text left →
     Q (.ref x) { s with heap := h', toks := tk' }) :
  wpAny (model PySem.Challenge.rw_gn5014_01.row.prog w) (ktrTop 320 500 gd cn cs L a ccd cl outer) (call (.ref 176) [.ref d, .str qs tm]) Q E s := by
  revert X; k_fill; intro X
  refine wpAny_call ?_
  k_dflt cell_enter
  rcases hq with rfl | hqq
  rotate_left
  have hqn : (qs != Str.ofString "") = true := tri_ne hqq
  have hqe : (qs == Str.ofString "") = false := tri_eq hqq
  all_goals k_steps
  all_goals (
    refine' ret _ _ _ _ _ _ _ _ _ _ ?hF ?hN ?hD ?hR
    case hF => assumption
    case hN => exact cb_drop (by assumption) (List.forall_mem_cons.mpr ⟨by k_mem, List.forall_mem_cons.mpr ⟨by k_mem, List.forall_mem_cons.mpr ⟨by k_mem, List.forall_mem_cons.mpr ⟨by k_mem, List.forall_mem_cons.mpr ⟨by k_mem, List.forall_mem_nil _⟩⟩⟩⟩⟩)
    case hD => assumption
    case hR => first
      | assumption
      | exact (Closed.rb (by assumption) (by omega)).text
      | exact RowB.stay' (by assumption) (by assumption) (by assumption))
end
end Mine
end -- R6

section -- C6
open PySem PySem.W PyProof.Rows
namespace Mine
theorem fresh_C6 : True := by
  w_top off
  k_with_none
  trivial
set_option maxRecDepth 100000
set_option maxHeartbeats 8000000
local macro_rules | `(tactic| walk_at "execs cons") => `(tactic| (k_here; refine toks_gen ?_; intro tk))
local macro_rules | `(tactic| walk_at "execs nil") => `(tactic| (k_here; refine toks_gen ?_; intro tk))
local macro_rules | `(tactic| k_all) => `(tactic| assumption)
local macro_rules | `(tactic| walk_at "call type:bool") => `(tactic| (k_here; (with_reducible show wpAny _ _ (call (Value.type "bool") [Value.str _ _]) _ _ _); refine call_bool_str (by omega) ?_))
theorem size1000 {x : Str} (h : x.length ≤ 1000) : x.length ≤ sizeLine := by rw [sizeLine_eq]; omega
local macro_rules | `(tactic| walk_at "subscriptTail") => `(tactic| (k_here; (with_reducible show wpAny _ _ (subscriptTail _ _ (Value.str _ _) (Value.int _ _)) _ _ _); (refine KXi.item rfl (by omega) (by omega) (by omega) ?_); intro kxiE))
local macro_rules | `(tactic| walk_at "subscriptTail") => `(tactic| (k_here; (with_reducible show wpAny _ _ (subscriptTail _ (Expr.Slice (some _) (some _) none _) (Value.str _ _) (Value.ref _)) _ _ _); (with_reducible rename Fr _ _ _ _ => F'); (with_reducible rename News _ _ _ _ => N'); (refine slice_strN_ss (hsz := ?hsz) (s := ⟨_, _, _, _, _⟩) F' N' ?_); (case hsz => exact size1000 (by assumption)); intro _ _ _ _ _))

/-- skip_line's scope and statements, out of the program -/
def skipParts : Scope × List Stmt := match PySem.Challenge.pw_gn5014_01.main.body with
  | _ :: _ :: _ :: _ :: .FunctionDef _ _ body _ _ _ scope _ _ _ :: _ => (scope, body)
  | _ => ({ kind := .function, names := [], isGenerator := false, isCoroutine := false }, [])
def skipIf : Stmt := match skipParts.2 with
  | _ :: _ :: x :: _ => x
  | _ => .Pass ⟨0, 0, 0, 0⟩
abbrev skipEnv (L' : Addr) : Env := envOf (Str.ofString "skip_line") skipParts.1 L' 143 (Value.ref 142)

abbrev M4 (line : Str) (tl : Tok) (q : Str) (tq : Tok) (nb sb : Bool) (u : Str → Option Value) : Str → Option Value := fun y =>
  if y = Str.ofString "line" then some (.str line tl) else if y = Str.ofString "in_quote" then some (.str q tq) else if y = Str.ofString "needs_\x69mport" then some (.bool nb) else if y = Str.ofString "should_skip" then some (.bool sb) else u y
theorem fr_m4 {g h : Heap} {L' : Addr} {m : Str → Option Value} {line q : Str} {tl tq : Tok} {nb sb : Bool} (F : Fr g L' h m) (h1 : m (Str.ofString "line") = some (.str line tl)) (h2 : m (Str.ofString "in_quote") = some (.str q tq))
    (h3 : m (Str.ofString "needs_\x69mport") = some (.bool nb)) (h4 : m (Str.ofString "should_skip") = some (.bool sb)) : Fr g L' h (M4 line tl q tq nb sb m) := by
  have e : M4 line tl q tq nb sb m = m := by
    funext y
    unfold M4
    split
    · rename_i e; rw [e, h1]
    split
    · rename_i e; rw [e, h2]
    split
    · rename_i e; rw [e, h3]
    split
    · rename_i e; rw [e, h4]
    · rfl
  rw [e]; exact F

section
variable {w : World} {p : Program} {loose : List Str} {mean : ExcName → Option Value} {mg mb : Str → Option Value}
  {gd : Option (List Code)} {cn : Str} {cs : Scope} {L a : Addr} {ccd : Value} {cl' : List (Str × Addr)} {outer : List Env} {base g : Heap} {L' : Addr} {s : Shared} {Q : Flow → Shared → Prop} {E E2 : Value → Shared → Prop}

theorem loop_spec
  {line q0 : Str} {nb sb : Bool} {tl tq : Tok} {u : Str → Option Value} {news : List (Addr × Obj)}
  (B : Below (ktrTop 320 500 gd cn cs L a ccd cl' outer) base (envX cn cs L a ccd cl' :: outer) g) (F : Fr g L' s.heap (M4 line tl q0 tq nb sb u)) (X : (hd.heap_39 w.params).In g)
  (N : News g L' s.heap news) (T : Top p loose mean mg mb g)
  (hlen : line.length ≤ 1000) (hq : Lefts q0)
  (ret : ∀ q t u' h' tk', cl q = scan (cl line) 0 (cl q0) → q.length ≤ 3 → Fr g L' h' (M4 line tl q t nb sb u') → News g L' h' news → Q .next { s with heap := h', toks := tk' }) :
  wpAny (model PySem.Challenge.rw_gn5014_01.row.prog w) ((ktrTop 320 500 gd cn cs L a ccd cl' outer).deeper (skipEnv L')) (exec skipIf (skipEnv L')) Q (fun e s' => wpAny (model PySem.Challenge.rw_gn5014_01.row.prog w) ((ktrTop 320 500 gd cn cs L a ccd cl' outer).deeper (skipEnv L')) (leaving (skipEnv L') e) (fun _ s'' => E e s'') (fun e' s'' => E2 e' s'') s') s := by
  revert X; k_fill; intro X
  have hql : q0.length ≤ 3 := by rcases hq with rfl | rfl | rfl <;> decide +kernel
  delta skipEnv
  delta M4 at F
  conv in (occs := *) skipParts.1 => all_goals whnf
  show wpAny _ _ (exec (.If _ _ _ _) _) _ _ _
  k_unmd
  k_with "state" => (first
    | exact ⟨by omega, by omega, by assumption, sc_start⟩
    | exact ⟨by omega, by omega, by assumption, sc_stroke (by assumption) (by assumption) (by assumption) (by assumption)⟩
    | exact ⟨by omega, by omega, nil_len, sc_close (by assumption) (by assumption) (by assumption) (by assumption) (by assumption) (by assumption)⟩
    | exact ⟨by omega, by omega, by assumption, sc_in (by assumption) (by assumption) (by assumption) (by assumption) (by assumption) (by assumption)⟩
    | exact ⟨by omega, sc_long (by assumption) (by assumption) (by assumption) (by assumption) (by assumption) (by assumption) (by assumption)⟩
    | exact ⟨by omega, by omega, item_len1 (by assumption) (by assumption), sc_short (by assumption) (by assumption) (by assumption) (by assumption) (by assumption) (by assumption) (by assumption)⟩
    | exact ⟨by omega, by omega, by assumption, sc_plain (by assumption) (by assumption) (by assumption) (by assumption) (by assumption) (by assumption) (by assumption)⟩)
  k_with "measure" => omega
  k_with "exec While Compare cons nil" => k_while (fun script i q => 0 ≤ i ∧ i ≤ line.length + 1 ∧ q.length ≤ 3 ∧ Sc line q0 i q) (fun script i q => line.length + 2 - i.toNat) "char_index" "in_quote"
  k_steps
  all_goals first
    | exact ret _ _ _ _ _ (noq_same hq (by assumption) (by assumption)) hql (fr_m4 (by assumption) rfl rfl rfl rfl) (by first | assumption | exact cb_drop (by assumption) (by intro p hp; repeat (first | exact hp | refine List.Mem.tail _ ?_)))
    | exact ret _ _ _ _ _ (sc_hash (by assumption) (by assumption) (by assumption) (by assumption) (by assumption) (by assumption) (by assumption)) (by assumption) (fr_m4 (by assumption) rfl rfl rfl rfl) (by first | assumption | exact cb_drop (by assumption) (by intro p hp; repeat (first | exact hp | refine List.Mem.tail _ ?_)))
    | exact ret _ _ _ _ _ (sc_end (by assumption) (by assumption) (by assumption)) (by assumption) (fr_m4 (by assumption) rfl rfl rfl rfl) (by first | assumption | exact cb_drop (by assumption) (by intro p hp; repeat (first | exact hp | refine List.Mem.tail _ ?_)))
end
end Mine
end -- C6

section -- C7
open PySem PySem.W PyProof.Rows
namespace Mine
theorem fresh_C7 : True := by
  w_top off
  k_with_none
  trivial
set_option maxRecDepth 100000
set_option maxHeartbeats 8000000

section
variable {M : Model} {A : Around} {E : Value → Shared → Prop} {s : Shared} {env : Env}
theorem callWith_kwM {pos : Pos} {id : String} {self : Value} {e : Expr} {rest : List Expr} {kws : List Keyword} {Q : Value → Shared → Prop}
    (h : wpAny M A (spliced (backTo pos (starEach (e :: rest) env))) (fun vs s₁ => wpAny M A (evalAll ((backToKw pos (keywordEach kws env)).map (·.2)))
      (fun kvs s₂ => wpAny M A (call (.builtin id) (self :: vs) (((backToKw pos (keywordEach kws env)).filterMap (·.1)).zip kvs)) Q E s₂) E s₁) E s)
    (he : backTo pos (starEach (e :: rest) env) = (false, eval e env) :: backTo pos (starEach rest env) := by rfl)
    (hplain : (backTo pos (starEach (e :: rest) env)).any (·.1) = false := by rfl)
    (hall : (backToKw pos (keywordEach kws env)).all (·.1.isSome) = true := by rfl)
    (hkw : (backToKw pos (keywordEach kws env)).any (·.1.isNone) = false := by rfl) :
    wpAny M A (callWith pos (.builtin id) [self] (backTo pos (starEach (e :: rest) env)) (backToKw pos (keywordEach kws env))) Q E s := by
  refine callWith_builtin_kwB hplain hkw ?_
  rw [he] at h ⊢
  exact evalArgs_kwB hall h
end

theorem args_split_kw (a b c : Value) : argsOk "str.split" ⟨[a, b], [(Str.ofString "maxsplit", c)]⟩ := by
  unfold argsOk; rw [signature?_of (id := "str.split") (n := ['t', 'i', 'l', 'p', 's']) (o := ['r', 't', 's']) (by kernel_rfl) PySem.F.owner_str]; kernel_rfl

open PySem.Builtin PySem.Builtin.Str in
theorem split_kw_tree (x y : Str) (k : Int) (t u v : Tok) (hk : (decide (k < -(2 ^ 63 : Int)) || decide (k ≥ 2 ^ 63)) = false) : ∃ raising : Sem Fin, «str.split» ⟨[.str x t, .str y u], [(Str.ofString "maxsplit", .int k v)]⟩ =
    (if (decide (x.length < y.length) || decide (strKind x < strKind y)) = true then (do rule "str.split.sep-cannot-occur"; ret (← newList [.str x t])) else
     if (y.length == 0) = true then raising else
     if (true && (occurrences x y 0 x.length (limitOf x k)).isEmpty) = true then (do rule "str.split.same-object"; ret (← newList [.str x t])) else
     (do ret (← newList (← (partsBetween x (occurrences x y 0 x.length (limitOf x k)) y.length).mapM mkStr)))) := by
  refine ⟨?r, ?h⟩
  case h =>
    show (do let limit ← countLimit "str.split" (some (.int k v)) (x.length + 1); _) = _
    rw [countLimit_int "str.split" k v (x.length + 1) hk]
    rfl

open PySem.Builtin PySem.Builtin.Str in
/-- the part ahead of the first '#' -/
def hdS (x : Str) : Str := if (decide (x.length < (Str.ofString "#").length) || decide (strKind x < strKind (Str.ofString "#"))) = true then x else
  match occurrences x (Str.ofString "#") 0 x.length 1 with
  | [] => x
  | c :: _ => strSub x 0 c

section
open PySem.Builtin PySem.Builtin.Str
variable {prog : Program} {w : World} {A : Around} {E : Value → Shared → Prop} {s : Shared} {h₀ : Heap} {L : Addr} {m : Str → Option Value} {news : List (Addr × Obj)}

theorem hash_len : ((Str.ofString "#").length == 0) = false := by decide +kernel

theorem split_kw {x : Str} {t u v : Tok} {Q : Value → Shared → Prop} (hx : x.length ≤ 1000) (F : Fr h₀ L s.heap m) (N : News h₀ L s.heap news)
    (h : ∀ a h' tk rest t' n, Fr h₀ L h' m → News h₀ L h' ((a, listOf (Value.str (hdS x) t' :: rest).toArray n) :: news) → Q (.ref a) { s with heap := h', toks := tk }) :
    wpAny (model prog w) A (call (.builtin "str.split") [.str x t, .str (Str.ofString "#") u] [(Str.ofString "maxsplit", .int 1 v)]) Q E s := by
  refine wpAny_call_entry_kw PySem.F.slot_str_split (typeIs_str _ _ _) PySem.F.entry_str_split ?_ (args_split_kw _ _ _)
  obtain ⟨raising, e⟩ := split_kw_tree x (Str.ofString "#") 1 t u v (by decide)
  rw [e]
  have one : ∀ (tag : String), hdS x = x → wpAny (model prog w) A.in1 (do rule tag; ret (← newList [.str x t])) (fun fin s' => ∃ v, fin = .done (.ret v) ∧ Q v s') E s := fun tag ex => by
    refine wpAny_bind (wpAny_rule (wpAny_bind (newList_N F N (fun h' F' N' => wpAny_pure ⟨_, rfl, ?_⟩) (by show 1 ≤ sizeLine; decide))))
    refine h _ h' s.toks [] t 0 F' ?_
    rw [ex]; exact N'
  have hlim : limitOf x 1 = 1 := rfl
  rw [hlim, hash_len]
  by_cases h1 : (decide (x.length < (Str.ofString "#").length) || decide (strKind x < strKind (Str.ofString "#"))) = true
  · rw [if_pos h1]
    exact one _ (by unfold hdS; rw [if_pos h1])
  rw [if_neg h1, if_neg (by decide)]
  by_cases h2 : (true && (occurrences x (Str.ofString "#") 0 x.length 1).isEmpty) = true
  · rw [if_pos h2]
    refine one _ ?_
    unfold hdS
    rw [if_neg h1]
    rw [Bool.true_and, List.isEmpty_iff] at h2
    rw [h2]
  rw [if_neg h2]
  rw [Bool.true_and, List.isEmpty_iff] at h2
  cases hc : occurrences x (Str.ofString "#") 0 x.length 1 with
  | nil => exact absurd hc h2
  | cons c cs =>
    have hp : partsBetween x (c :: cs) (Str.ofString "#").length = strSub x 0 c :: ((((c :: cs).map (· + (Str.ofString "#").length)).zip (cs ++ [x.length])).map fun (i, j) => strSub x i j) := rfl
    have hh : hdS x = strSub x 0 c := by
      unfold hdS
      rw [if_neg h1, hc]
    have hn : (c :: cs).length ≤ 1 := by
      rw [← hc]
      exact StrLaws.occ_length_le x (Str.ofString "#") 0 x.length 1
    show wpAny _ _ (do ret (← newList (← (partsBetween x (c :: cs) (Str.ofString "#").length).mapM mkStr))) _ _ s
    refine wpAny_bind (wpAny_mapM_mkStr _ _ _ (fun p hp => ?_) (wpAny_bind (newList_N F N (fun h' F' N' => wpAny_pure ⟨_, rfl, ?_⟩) ?_)))
    · simp only [partsBetween, List.mem_map] at hp
      obtain ⟨⟨i, j⟩, _, rfl⟩ := hp
      exact Nat.le_trans (strSub_length_le ..) (by rw [sizeLine_eq]; omega)
    · rw [hp] at N'
      refine h _ h' _ (strsFrom (s.toks + 1) ((((c :: cs).map (· + (Str.ofString "#").length)).zip (cs ++ [x.length])).map fun (i, j) => strSub x i j)) s.toks 0 F' ?_
      rw [hh]
      exact N'
    · rw [strsFrom_length]
      simp only [partsBetween, List.length_map, List.length_zip, List.length_cons, List.length_append] at hn ⊢
      rw [sizeLine_eq]
      omega
end

end Mine
end -- C7

section -- C8
open PySem PySem.W PySem.W.X PyProof.Rows
namespace Mine
theorem fresh_C8 : True := by
  w_top off
  k_with_none
  trivial
set_option maxRecDepth 100000
set_option maxHeartbeats 8000000

/-- the written part without skip_line's code table -/
noncomputable def K2 (P : Params) : Frag := (hdx.heap_39 P).filter fun p => !(Nat.beq p.1 138)
def instIs (b : Bool) (q : Str) (o : Obj) : Prop := o.cls = .ref 132 ∧ (∃ n tq, o.data = .seq #[.bool b, .str q tq] n) ∧ o.isFreed = false
def MkEnd (s : Shared) (b : Bool) (q : Str) (Q : Value → Shared → Prop) : Prop :=
  ∀ a o h' tk, (∀ c o, s.heap.get? c = some o → h'.get? c = some o) → h'.get? a = some o → instIs b q o → s.heap.get? a = none → Q (.ref a) { s with heap := h', toks := tk }
theorem MkEnd.use {s : Shared} {b : Bool} {q : Str} {Q : Value → Shared → Prop} (H : MkEnd s b q Q) {h' : Heap} {tk : Nat} {news : List (Addr × Obj)} {a : Addr} {o : Obj} (D : Mem s.heap h' [] news) (hm : (a, o) ∈ news) (hi : instIs b q o) :
    Q (.ref a) ⟨h', s.gens, s.drawn, tk, s.os⟩ :=
  H a o h' tk (fun c o e => D.keep c o e (by simp [away])) (D.nw _ hm).1 hi (D.nw _ hm).2
local macro_rules | `(tactic| x_close) => `(tactic| (refine MkEnd.use (by assumption) (by assumption) (by k_mem) ⟨rfl, ⟨_, _, rfl⟩, rfl⟩))

section
variable {w : World} {gd : Option (List Code)} {cn : Str} {cs : Scope} {L a : Addr} {ccd : Value} {cl' : List (Str × Addr)} {outer : List Env} {s : Shared} {Q E : Value → Shared → Prop} {env : Env}

theorem mk_result {b : Bool} {q : Str} {tq : Tok} (X : (K2 w.params).In s.heap) (H : MkEnd s b q Q) :
  wpAny (model PySem.Challenge.rw_gn5014_01.row.prog w) ({ handled := none, depth := 322, frames := some outer, guards := gd, units := 600 } : Around) (call (.ref 132) [] [(Str.ofString "should_skip", .bool b), (Str.ofString "in_quote", .str q tq)]) Q E s := by
  revert X; k_fill; intro X
  x_run
end
end Mine
end -- C8

section -- C9
open PySem PySem.W PySem.W.X PyProof.Rows
namespace Mine
theorem fresh_C9 : True := by
  w_top off
  k_with_none
  trivial
set_option maxRecDepth 100000
set_option maxHeartbeats 8000000

def NeEnd (s : Shared) (Q : Value → Shared → Prop) : Prop :=
  ∀ h' tk, (∀ c o, s.heap.get? c = some o → h'.get? c = some o) → Q (.bool false) { s with heap := h', toks := tk }
theorem NeEnd.use {s : Shared} {Q : Value → Shared → Prop} (H : NeEnd s Q) {h' : Heap} {tk : Nat} {news : List (Addr × Obj)} (D : Mem s.heap h' [] news) : Q (.bool false) ⟨h', s.gens, s.drawn, tk, s.os⟩ :=
  H h' tk (fun c o e => D.keep c o e (by simp [away]))
theorem NeEnd.same {s : Shared} {Q : Value → Shared → Prop} (H : NeEnd s Q) : Q (.bool false) ⟨s.heap, s.gens, s.drawn, s.toks, s.os⟩ := H s.heap s.toks fun _ _ e => e
local macro_rules | `(tactic| x_close) => `(tactic| (exact NeEnd.same (by assumption)))

section
variable {w : World} {gd : Option (List Code)} {outer : List Env} {s : Shared} {Q E : Value → Shared → Prop}

theorem tup_ne_call {b : Bool} {q : Str} {x y : Addr} {dx dy : Option Addr} {nx ny : Nat} {t1 t2 : Tok} {sx sy : Array (Option Value)} (X : (K2 w.params).In s.heap) (hq : Lefts q)
   (hx : s.heap.get? x = some ⟨.ref 132, dx, .seq #[.bool b, .str q t1] nx, sx⟩) (hy : s.heap.get? y = some ⟨.type "tuple", dy, .seq #[.bool b, .str q t2] ny, sy⟩) (H : NeEnd s Q) :
  wpAny (model PySem.Challenge.rw_gn5014_01.row.prog w) ({ handled := none, depth := 322, frames := some outer, guards := gd, units := 600 } : Around) (call (.builtin "tuple.__ne__") [.ref x, .ref y]) Q E s := by
  revert X; k_fill; intro X
  rcases hq with rfl | rfl | rfl <;> cases b <;> x_run

theorem ne_bind (self : Value) : bindSpecial (.builtin "tuple.__ne__") self = pure (.builtin "tuple.__ne__", [self]) := PySem.F.slot_tuple_ne.bind self
theorem looks_cls {M : Model} {h : Heap} {x : Addr} {o : Obj} (hx : h.get? x = some o) : Looks M h (typeOf (.ref x)) o.cls := (Looks.ld hx).andThen .now

/-- told != (the same pair): False -/
theorem told_ne {b : Bool} {q : Str} {x y : Addr} {dx dy : Option Addr} {nx ny : Nat} {t1 t2 : Tok} {sx sy : Array (Option Value)} (X2 : (K2 w.params).In s.heap) (X : (hd.heap_39 w.params).In s.heap) (hq : Lefts q)
   (hx : s.heap.get? x = some ⟨.ref 132, dx, .seq #[.bool b, .str q t1] nx, sx⟩) (hy : s.heap.get? y = some ⟨.type "tuple", dy, .seq #[.bool b, .str q t2] ny, sy⟩) (H : NeEnd s Q) :
  wpAny (model PySem.Challenge.rw_gn5014_01.row.prog w) ({ handled := none, depth := 322, frames := some outer, guards := gd, units := 600 } : Around) (compareOp .NotEq (.ref x) (.ref y)) Q E s := by
  revert X; k_fill; intro X
  have hf : findIn (hd.heap_39 w.params) (.ref 132) "__ne__" = some (some (.builtin "tuple.__ne__")) := by
    k_is
  have hs : subIn (hd.heap_39 w.params) (.type "tuple") (.ref 132) = some false := by
    k_is
  have one : wpAny (model PySem.Challenge.rw_gn5014_01.row.prog w) ({ handled := none, depth := 322, frames := some outer, guards := gd, units := 600 } : Around) (tryCompare (.ref x) "__ne__" (.ref y)) (fun r s' => ∃ v, r = some v ∧ Q v s') E s := by
    unfold tryCompare
    refine wpAny_bind ?_
    simp only [callSpecialIfBound?, bindSpecialIfBound?]
    refine wpAny_holding (wpAny_bind (wpAny_bind (wpAny_bind ((looks_cls hx).here ((looks_findIn X hf).here ?_)))))
    refine wpAny_bind (wpAny_askSetting (wpAny_ite ?_))
    have fin : wpAny (model PySem.Challenge.rw_gn5014_01.row.prog w) ({ handled := none, depth := 322, frames := some outer, guards := gd, units := 600 } : Around) (call (.builtin "tuple.__ne__") ([.ref x] ++ [.ref y]) >>= fun v => pure (some v)) (fun r s' => r = some (.bool false) ∧ Q (.bool false) s') E s :=
      wpAny_bind (tup_ne_call X2 hq hx hy (fun h' tk k => wpAny_pure ⟨rfl, H h' tk k⟩))
    split
    · rw [ne_bind]
      refine wpAny_bind (wpAny_pure (wpAny_pure (wpAny_mono fin (fun r s' z => ?_) fun _ _ e => e)))
      obtain ⟨rfl, hz⟩ := z
      exact wpAny_pure ⟨_, rfl, hz⟩
    · rw [ne_bind]
      refine wpAny_tryCatch (wpAny_bind (wpAny_pure (wpAny_pure (wpAny_mono fin (fun r s' z => ?_) fun _ _ e => e))))
      obtain ⟨rfl, hz⟩ := z
      exact wpAny_pure ⟨_, rfl, hz⟩
  show wpAny _ _ (richCompare .NotEq (.ref x) (.ref y)) _ _ _
  unfold richCompare
  simp only [oneThing_ref]
  refine wpAny_holding (wpAny_bind (wpAny_cRoomFor (show 600 < cLine by decide) ?_))
  refine wpAny_bind ((looks_cls hx).here (wpAny_bind ((looks_cls hy).here ?_)))
  split
  · refine wpAny_bind ((looks_subIn X hs).here ?_)
    simp only [Bool.false_eq_true, if_false]
    refine wpAny_bind (wpAny_mono one (fun r s' z => ?_) fun _ _ e => e)
    obtain ⟨v, rfl, hz⟩ := z
    exact wpAny_pure hz
  · rename_i q
    simp at q
end
end Mine
end -- C9

section -- R1
open PySem PySem.W PySem.W.X PyProof.Rows
namespace Mine
theorem fresh_R1 : True := by
  w_top off
  k_with_none
  trivial
set_option maxRecDepth 100000
set_option maxHeartbeats 8000000
theorem fr_ext {g h h' : Heap} {L : Addr} {m : Str → Option Value} (F : Fr g L h m) (k : ∀ b o, h.get? b = some o → h'.get? b = some o) : Fr g L h' m := by
  obtain ⟨oL, a1, a2, hL, a3⟩ := F.ns
  exact ⟨⟨oL, a1, a2, k _ _ hL, a3⟩, fun b o' e => k _ _ (F.keep b o' e), F.above⟩
theorem news_ext {g h h' : Heap} {L : Addr} {news : List (Addr × Obj)} (N : News g L h news) (k : ∀ b o, h.get? b = some o → h'.get? b = some o) : News g L h' news :=
  fun p hp => ⟨k _ _ (N p hp).1, (N p hp).2.1, (N p hp).2.2⟩
theorem news_add {g h h' : Heap} {L : Addr} {m : Str → Option Value} {news : List (Addr × Obj)} (F : Fr g L h m) (N : News g L h news) (k : ∀ b o, h.get? b = some o → h'.get? b = some o)
    {x : Addr} {o : Obj} (hx : h'.get? x = some o) (hn : h.get? x = none) : News g L h' ((x, o) :: news) := by
  intro p hp
  rcases List.mem_cons.mp hp with rfl | hp
  · refine ⟨hx, ?_, ?_⟩
    · rintro rfl
      obtain ⟨oL, _, _, hL, _⟩ := F.ns
      rw [hL] at hn; cases hn
    · cases hq : g.get? x with
      | none => rfl
      | some o' => rw [F.keep _ _ hq] at hn; cases hn
  · exact news_ext N k p hp

section
variable {w : World} {gd : Option (List Code)} {cn : Str} {cs : Scope} {L a : Addr} {ccd : Value} {cl' : List (Str × Addr)} {outer : List Env} {s : Shared} {Q E : Value → Shared → Prop} {env : Env}
  {g : Heap} {L' : Addr} {m : Str → Option Value} {news : List (Addr × Obj)}
theorem mk_resK {b : Bool} {q : Str} {tq : Tok} (X2 : (K2 w.params).In g) (F : Fr g L' s.heap m) (N : News g L' s.heap news)
   (ret : ∀ x o h' tk', Fr g L' h' m → News g L' h' ((x, o) :: news) → instIs b q o → Q (.ref x) { s with heap := h', toks := tk' }) :
  wpAny (model PySem.Challenge.rw_gn5014_01.row.prog w) ((ktrTop 320 500 gd cn cs L a ccd cl' outer).deeper env) (call (.ref 132) [] [(Str.ofString "should_skip", .bool b), (Str.ofString "in_quote", .str q tq)]) Q E s :=
  fun Γ p hΓ => mk_result (tq := tq) (X2.keeps F.keep) (fun x o h' tk k hx hi hn => ret x o h' tk (fr_ext F k) (news_add F N k hx hn) hi) Γ p (in_up (Nat.le_of_ble_eq_true rfl) (Nat.le_of_ble_eq_true rfl) hΓ)
end
end Mine
end -- R1

section -- G1
open PySem PySem.W PyProof.Rows
namespace Mine
theorem fresh_G1 : True := by
  w_top off
  k_with_none
  trivial
set_option maxRecDepth 100000
set_option maxHeartbeats 8000000

theorem quiet_strip {prog : Program} {w : World} {cenv : Env} {pz : Nat → Bool} {fp wr : List Addr} {items : Array Value} {href : Heap} {p1 p2 p3 : Pos}
   (hk : cenv.scope.kind = .function) (hl : cenv.kindOf (Str.ofString "part") = some .local) (hline : (p2.endLine == p3.line) = true) (hpz : ∀ i, pz i = true)
   (hstr : ∀ (i : Nat) (v : Value), items[i]? = some v → ∃ (x : Str) (t : Tok), v = Value.str x t ∧ x.length ≤ 1000) :
   QuietGen prog w cenv (Str.ofString "part") [] (.Call (.Attribute (.Name (Str.ofString "part") p1) (Str.ofString "strip") p2) [] [] p3) fp wr (fun i v => items[i]? = some v) pz
     (fun i y => ∃ (x : Str) (t u : Tok), items[i]? = some (Value.str x t) ∧ y = Value.str (Txt.strip x) u) href where
  tests := fun A' E' i v s₂ m₂ _ _ _ _ _ => by
    show wpAny _ _ (pure true) _ _ _
    exact wpAny_pure ⟨(hpz i).symm, ⟨s₂.heap, s₂.toks, rfl, fun _ _ e => e⟩⟩
  elt := fun A' E' i v s₂ m₂ _ hv _ hns hm _ => by
    obtain ⟨x, t, rfl, hx⟩ := hstr i v hv
    refine Call_method0 rfl hline (wpAny_Name (wpAny_loadName_local hk hl hns hm ?_))
    exact SB.strip (fun t' k => ⟨⟨x, t, t', hv, rfl⟩, ⟨s₂.heap, k, rfl, fun _ _ e => e⟩⟩) (size1000 hx)
end Mine
end -- G1

section -- G2
open PySem PySem.W PyProof.Rows
namespace Mine
theorem fresh_G2 : True := by
  w_top off
  k_with_none
  trivial
set_option maxRecDepth 100000
set_option maxHeartbeats 8000000

section
variable {prog : Program} {w : World} {A : Around} {E : Value → Shared → Prop} {s : Shared}
abbrev listIt (l : Addr) : Obj := { cls := .type "list_iterator", data := .fields #[.ref l, .int 0 0] }
abbrev allP : Nat → Bool := fun _ => true
abbrev StripOf (items : Array Value) (i : Nat) (y : Value) : Prop := ∃ (x : Str) (t u : Tok), items[i]? = some (Value.str x t) ∧ y = Value.str (Txt.strip x) u

theorem genexp_small {env : Env} {iter : Expr} {px p1 p2 p3 : Pos} {scope : Scope} {cl : List (Str × Addr)} {pos : Pos} {Q : Value → Shared → Prop}
    (hh : A.handled = none) (hco : scope.isCoroutine = false) (hclos : closureFor scope env = pure cl) (hcell : ∀ y ∈ scope.names, y.2 ≠ .cell) (h0 : scope.names.lookup (".0" : Str) = some NameKind.local)
    (hx : scope.names.lookup (Str.ofString "part") = some .local) (hkind : scope.kind = .function) (hroom : A.depth < recursionLimit) (hline : (p2.endLine == p3.line) = true)
    (h : wpAny (model prog w) A (eval iter env) (fun xv s₁ => ∃ l items, xv = .ref l ∧ s₁.heap.IsList l items ∧ s₁.heap.NoLimit ∧ (∀ (i : Nat) (v : Value), items[i]? = some v → ∃ (x : Str) (t : Tok), v = Value.str x t ∧ x.length ≤ 1000) ∧
      wpAny (model prog w) A (genexprCode env pos (env.qual ++ "<genexpr>") scope) (fun code s₃ => wpAny (model prog w) A (builtinsFor env.globals env.builtins) (fun bi s₄ =>
        (∀ b ∈ [s₁.heap.objs.size, l, cStatics], ∀ o, (s₁.heap.push (listIt l)).get? b = some o → s₄.heap.get? b = some o) ∧ s₁.heap.objs.size < s₄.heap.objs.size ∧
        (∀ a h₅ tk gs St, gs.bare = true → s₄.heap.objs.size < a → h₅.objs.size = a + 1 → (∀ b o, s₄.heap.get? b = some o → h₅.get? b = some o) →
            WalksS prog w A.in4 a [a, s₄.heap.objs.size, s₁.heap.objs.size, l, cStatics] [s₄.heap.objs.size, s₁.heap.objs.size] (GenOnlyQ s₄.gens.size) (passing allP items.size 0).length
              (fun j y => ∃ i, (passing allP items.size 0)[j]? = some i ∧ StripOf items i y) St →
            (∀ i (s' : Shared) tk', St i s' → St i { s' with toks := tk' }) → St 0 { s₄ with gens := s₄.gens.push gs, toks := tk, heap := h₅ } →
            Q (.ref a) { s₄ with gens := s₄.gens.push gs, toks := tk, heap := h₅ })) E s₃) E { s₁ with heap := s₁.heap.push (listIt l) }) E s)
    (hs : ∀ x, genFold iter env x = pure x) :
    wpAny (model prog w) A (eval (.GeneratorExp (.Call (.Attribute (.Name (Str.ofString "part") p1) (Str.ofString "strip") p2) [] [] p3) [⟨.Name (Str.ofString "part") px, iter, [], 0⟩] scope pos) env) Q E s := by
  refine wpAny_GeneratorExp_make hco hclos hcell h0 hkind hroom (wpAny_mono h (fun xv s₁ h₁ => ?_) fun _ _ e => e) hs
  obtain ⟨l, items, rfl, hl, hlim, hstr, hcode⟩ := h₁
  have hlt : l < s₁.heap.objs.size := by obtain ⟨_, e, _⟩ := hl; exact Heap.lt_size e
  have hclt : cStatics < s₁.heap.objs.size := let ⟨_, hn, _⟩ := hlim; hn.lt
  refine wpAny_pyIter_list hl ⟨hlim.push _, wpAny_mono hcode (fun code s₃ h₃ => wpAny_mono h₃ (fun bi s₄ h₄ => ?_) fun _ _ e => e) fun _ _ e => e⟩
  obtain ⟨hk₄, hsz₄, hQ⟩ := h₄
  intro h' hn' hs'
  have hsz : h'.objs.size = s₄.heap.objs.size + 1 := by rw [hs'.1, Heap.size_push]
  have keep' : ∀ b o, s₄.heap.get? b = some o → h'.get? b = some o := fun b o e => hs'.extBut b o (Nat.ne_of_lt (Heap.lt_size e)) (Heap.get?_push_of_some _ e)
  have keep₅ : ∀ b o, s₄.heap.get? b = some o → (h'.push { cls := .type "generator", data := .fields #[.int s₄.gens.size 0, .str "<genexpr>" (s₄.toks + 1), .str (env.qual ++ "<genexpr>") (s₄.toks + 1 + 1)] }).get? b = some o :=
    fun b o e => Heap.get?_push_of_some _ (keep' b o e)
  have W₀ : ∀ A' : Around, A'.handled = none → Walks prog w A' s₁.heap.objs.size [s₁.heap.objs.size, l, cStatics] [s₁.heap.objs.size] items.size _ _ := fun A' hA =>
    (Walks.list hA _ _ (Nat.ne_of_lt hlt) items).mono_fp (by intro b hb; rcases List.mem_cons.mp hb with rfl | hb <;> simp_all)
  have hlim₄ : s₄.heap.NoLimit := by
    obtain ⟨m, hn, r⟩ := hlim.push (listIt l)
    exact ⟨m, hn.at' (fun o e => hk₄ cStatics (by simp) o e), r⟩
  have haC : h'.objs.size ≠ s₄.heap.objs.size := by rw [hsz]; exact Nat.succ_ne_self _
  have haf : h'.objs.size ∉ [s₁.heap.objs.size, l, cStatics] := fun hm => by
    have hb : ∀ b ∈ [s₁.heap.objs.size, l, cStatics], b < h'.objs.size := by
      intro b hb
      rw [hsz]
      refine Nat.lt_succ_of_lt ?_
      rcases List.mem_cons.mp hb with rfl | hb
      · exact hsz₄
      rcases List.mem_cons.mp hb with rfl | hb
      · exact Nat.lt_trans hlt hsz₄
      rcases List.mem_cons.mp hb with rfl | hb
      · exact Nat.lt_trans hclt hsz₄
      cases hb
    exact Nat.lt_irrefl _ (hb _ hm)
  have hCf : s₄.heap.objs.size ∉ [s₁.heap.objs.size, l, cStatics] := fun hm => by
    rcases List.mem_cons.mp hm with e | hb
    · exact Nat.lt_irrefl _ (e ▸ hsz₄)
    rcases List.mem_cons.mp hb with e | hb
    · exact Nat.lt_irrefl _ (e ▸ Nat.lt_trans hlt hsz₄)
    rcases List.mem_cons.mp hb with e | hb
    · exact Nat.lt_irrefl _ (e ▸ Nat.lt_trans hclt hsz₄)
    cases hb
  refine hQ _ _ _ _ _ rfl (by omega) (by rw [Heap.size_push]) keep₅ (WalksS.genexpQ (A := A.in4) hh _ _ s₄.heap.objs.size [s₁.heap.objs.size, l, cStatics] [s₁.heap.objs.size] allP items.size _ haC haf (by simp) hroom (by simp)
    (Nat.ne_of_lt (Nat.lt_trans hclt hsz₄)) (fun hm => by rcases List.mem_cons.mp hm with e | hb; exact absurd (e ▸ hclt) (Nat.lt_irrefl _); cases hb)) (fun _ _ _ h => h) ?_
  refine GenAt.fresh (A := A.in4) (cenv := genEnv scope cl s₄.heap.objs.size code bi env) (m := fun y => if y = ".0" then some (.ref s₁.heap.objs.size) else none) hh
    W₀ allP _ hx (by simp [genEnv, hkind]) hco hCf (quiet_strip hkind hx hline (fun _ => rfl) hstr) ⟨_, _, _, Heap.get?_push_size _ rfl, rfl, rfl, rfl⟩ (Array.getElem?_push_size ..)
    ((W₀ A hh).frame _ _ _ ⟨⟨_, Heap.get?_push_size _ rfl, rfl, rfl⟩, hl.push _⟩ fun b hb o e => keep₅ b o (hk₄ b hb o e)) (hn'.push _) (hlim₄.keeps keep₅)
end
end Mine
end -- G2

section -- G3
open PySem PySem.W PyProof.Rows
namespace Mine
theorem fresh_G3 : True := by
  w_top off
  k_with_none
  trivial
set_option maxRecDepth 100000
set_option maxHeartbeats 8000000

section
variable {prog : Program} {w : World} {A : Around} {E : Value → Shared → Prop} {s : Shared} {env : Env}

/-- a for over a walker whose steps move the generators too; the invariant is over the whole state -/
theorem for_gen {x : Str} {px pos : Pos} {iter : Expr} {body : List Stmt} {Q : Flow → Shared → Prop}
    (h : wpAny (model prog w) A (eval iter env) (fun xv s₁ => ∃ (I : Addr) (fp wr : List Addr) (G : Array GenState → Array GenState → Prop) (n : Nat) (P : Nat → Value → Prop) (St J : Nat → Shared → Prop),
      xv = .ref I ∧ WalksS prog w A I fp wr G n P St ∧ St 0 s₁ ∧ J 0 s₁ ∧
      (∀ i v s' s₂, i < n → P i v → J i s' → Moved wr G s' s₂ → St (i + 1) s₂ →
        wpAny (model prog w) A (storeName env x v) (fun _ s₃ => wpAny (model prog w) A (execs body env) (fun f s₄ => f = .next ∧ St (i + 1) s₄ ∧ J (i + 1) s₄) E s₃) E s₂) ∧
      (∀ s' s₂, J n s' → Moved wr G s' s₂ → Q .next s₂)) E s)
    (hs : ∀ x, foldedSetIterable iter env x = pure x := by intro _; rfl)
    (hE : PassesOwn (model prog w) A env E := by passes_own) :
    wpAny (model prog w) A (exec (.For (.Name x px) iter body [] pos) env) Q E s := by
  refine wpAny_For (wpAny_mono h (fun xv s₁ h₁ => ?_) fun _ _ e => e) hs
  obtain ⟨I, fp, wr, G, n, P, St, J, rfl, W, hst, hJ, step, hQ⟩ := h₁
  refine W.self 0 _ _ _ hst ?_
  refine codeAny_forLoop (fun k s' => ∃ i, i ≤ n ∧ k = n - i ∧ St i s' ∧ J i s') ?_ n ⟨0, Nat.zero_le _, rfl, hst, hJ⟩
  rintro k s' ⟨i, hi, rfl, hst', hJ'⟩
  by_cases hlt : i < n
  · refine W.item i s' _ _ hlt hst' fun v s₂ hP hst₂ mv => ?_
    show wpAny _ _ (assign (.Name x px) env v) _ _ s₂
    refine wpAny_assign_Name (wpAny_passesOwn hE (wpAny_mono (step i v s' s₂ hlt hP hJ' mv hst₂) (fun _ s₃ h₃ => ?_) fun _ _ e => e))
    refine wpAny_passesOwn hE (wpAny_mono h₃ (fun f s₄ h₄ => ?_) fun _ _ e => e)
    obtain ⟨rfl, h5, h6⟩ := h₄
    exact ⟨n - (i + 1), by omega, i + 1, hlt, rfl, h5, h6⟩
  · obtain rfl : i = n := by omega
    refine W.done s' _ _ hst' fun s₂ mv => ?_
    exact wpAny_execs_nil (hQ s' s₂ hJ' mv)
end
end Mine
end -- G3

section -- G4
open PySem PySem.W PyProof.Rows
namespace Mine
theorem fresh_G4 : True := by
  w_top off
  k_with_none
  trivial
set_option maxRecDepth 100000
set_option maxHeartbeats 8000000

section
variable {w : World} {M : Model} {A : Around} {E : Value → Shared → Prop} {s : Shared} {env : Env} {g : Heap} {L : Addr} {m : Str → Option Value} {news : List (Addr × Obj)}

def tabO (ps : Array Value) : Obj := { cls := .none, data := .fields ps }
def CodeLike (g : Heap) (c P : Addr) : Prop := ∀ (h : Heap) (ps : Array Value), (∀ (b : Addr) (o : Obj), g.get? b = some o → h.get? b = some o) → h.get? P = some (tabO ps) → TriplesOk ps.toList → h.IsCode c P ps ∧ h.TableAt c P ps
/-- the table: nothing yet, or this expression's code -/
def TabOk (pos : Pos) (ps : Array Value) : Prop := TriplesOk ps.toList ∧ (ps = #[] ∨ ∃ c', codeAmong pos ps.toList = some c')

theorem code_led {c P : Addr} {ps : Array Value} {pos : Pos} {q : Str} {scope : Scope} {Q : Value → Shared → Prop} (hc : env.code = .ref c) (C : CodeLike g c P) (ok : TabOk pos ps)
   (F : Fr g L s.heap m) (N : News g L s.heap ((P, tabO ps) :: news)) (hnp : ∀ p ∈ news, p.1 ≠ P)
   (ret : ∀ (c' : Value) (h' : Heap) (tk : Nat) (ps' : Array Value), TabOk pos ps' → Fr g L h' m → News g L h' ((P, tabO ps') :: news) → (∀ b o, b ≠ P → s.heap.get? b = some o → h'.get? b = some o) → s.heap.objs.size ≤ h'.objs.size → Q c' { s with heap := h', toks := tk }) :
   wpAny M A (genexprCode env pos q scope) Q E s := by
  obtain ⟨hP, hPL, hPg⟩ := N _ (List.mem_cons_self ..)
  obtain ⟨hI, hT⟩ := C s.heap ps F.keep hP ok.1
  rcases ok.2 with e | ⟨c', e⟩
  · refine wpAny_genexprCodeX hc hI hT (by rw [e]; rfl) fun c' h' tk hx hge hlt hI' _ hT' _ => ?_
    have hk : ∀ b o, b ≠ P → s.heap.get? b = some o → h'.get? b = some o := hx
    refine ret (.ref c') h' tk (ps ++ #[rawInt pos.line, rawInt pos.col, .ref c']) ⟨?_, .inr ⟨.ref c', by have := codeAmong_snoc (pos := pos) (c := .ref c') _ ok.1 (by rw [e]; rfl); simpa using this⟩⟩ ⟨F.ns.extBut hx (fun e => hPL e.symm), fun b o eb => hk b o (fun q => by rw [q, hPg] at eb; cases eb) (F.keep b o eb), F.above⟩ ?_ hk (Nat.le_trans hge (Nat.le_of_lt hlt))
    · obtain ⟨_, _, _, _, _, _, _, _, _, _, _, _, _, _, _, _, _, _, _, ht, _⟩ := hI'
      exact ht
    · intro p hp
      rcases List.mem_cons.mp hp with rfl | hp
      · exact ⟨hT'.2, hPL, hPg⟩
      · have := N p (List.mem_cons_of_mem _ hp)
        exact ⟨hk _ _ (hnp p hp) this.1, this.2⟩
  · exact wpAny_genexprCode_hit hc hI e (ret c' s.heap s.toks ps ok F N (fun _ _ _ e => e) (Nat.le_refl _))
end
end Mine
end -- G4

section -- G5
open PySem PySem.W PyProof.Rows
namespace Mine
theorem fresh_G5 : True := by
  w_top off
  k_with_none
  trivial
set_option maxRecDepth 100000
set_option maxHeartbeats 8000000
local macro_rules | `(tactic| walk_at "execs cons") => `(tactic| (k_here; refine toks_gen ?_; intro tk))
local macro_rules | `(tactic| walk_at "execs nil") => `(tactic| (k_here; refine toks_gen ?_; intro tk))
local macro_rules | `(tactic| k_all) => `(tactic| assumption)

def skipFor : Stmt := match skipParts.2 with
  | _ :: _ :: _ :: .If _ (x :: _) _ _ :: _ => x
  | _ => .Pass ⟨0, 0, 0, 0⟩
def skipIter : Expr := match skipFor with
  | .For _ (.GeneratorExp _ [⟨_, it, _, _⟩] _ _) _ _ _ => it
  | _ => .Constant .none 0 ⟨0, 0, 0, 0⟩

section
variable {w : World} {p : Program} {loose : List Str} {mean : ExcName → Option Value} {mg mb : Str → Option Value}
  {gd : Option (List Code)} {cn : Str} {cs : Scope} {L a : Addr} {ccd : Value} {cl' : List (Str × Addr)} {outer : List Env} {base g : Heap} {L' : Addr} {s : Shared} {Q : Value → Shared → Prop} {E E2 : Value → Shared → Prop}

theorem iter_spec
  {line q0 : Str} {nb sb : Bool} {tl tq : Tok} {u : Str → Option Value} {news : List (Addr × Obj)}
  (B : Below (ktrTop 320 500 gd cn cs L a ccd cl' outer) base (envX cn cs L a ccd cl' :: outer) g) (F : Fr g L' s.heap (M4 line tl q0 tq nb sb u)) (X : (hd.heap_39 w.params).In g)
  (N : News g L' s.heap news) (T : Top p loose mean mg mb g)
  (hlen : line.length ≤ 1000) 
  (ret : ∀ (x : Addr) (l : List (Str × Tok)) (o : Obj) (h' : Heap) (tk' : Nat), l.map (fun y => y.1) = Txt.split line (Str.ofString ";") → (∀ y ∈ l.map (fun y => y.1), y.length ≤ 1000) → h'.IsList x (strValues l).toArray →
     Fr g L' h' (M4 line tl q0 tq nb sb u) → News g L' h' ((x, o) :: news) → Q (.ref x) { s with heap := h', toks := tk' }) :
  wpAny (model PySem.Challenge.rw_gn5014_01.row.prog w) ((ktrTop 320 500 gd cn cs L a ccd cl' outer).deeper (skipEnv L')) (eval skipIter (skipEnv L')) Q E s := by
  revert X; k_fill; intro X
  delta skipEnv
  delta M4 at F
  conv in (occs := *) skipParts.1 => all_goals whnf
  show wpAny _ _ (eval (.Call _ _ _ _) _) _ _ _
  k_steps
  exact ret _ _ _ _ _ (by assumption) (fun y hy => Nat.le_trans ((by assumption : ∀ a : Str, _ → a.length ≤ line.length) y hy) hlen) (by assumption) (by delta M4; assumption) (by assumption)
end
end Mine
end -- G5

section -- G6
open PySem PySem.W PyProof.Rows
namespace Mine
theorem fresh_G6 : True := by
  w_top off
  k_with_none
  trivial
local macro_rules | `(tactic| walk_at "no such key") => `(tactic| fail)
set_option maxRecDepth 100000
set_option maxHeartbeats 8000000
local macro_rules | `(tactic| walk_at "execs cons") => `(tactic| (k_here; refine toks_gen ?_; intro tk))
local macro_rules | `(tactic| walk_at "execs nil") => `(tactic| (k_here; refine toks_gen ?_; intro tk))
local macro_rules | `(tactic| k_all) => `(tactic| assumption)

def skipGenPos : Pos := match skipFor with
  | .For _ (.GeneratorExp _ _ _ p) _ _ _ => p
  | _ => ⟨0, 0, 0, 0⟩
def skipForBody : List Stmt := match skipFor with
  | .For _ _ b _ _ => b
  | _ => []
/-- a part that makes the row one to pass over -/
def badP (x : Str) : Bool := x != Str.ofString "" && !(Txt.startswith x (Str.ofString "from ")) && !(Txt.startswith x (Str.ofString "\x69mport ") || Txt.startswith x (Str.ofString "c\x69mport "))
def partsB (line : Str) (i : Nat) : Bool := ((Txt.split line (Str.ofString ";")).take i).any fun x => badP (Txt.strip x)

end Mine
end -- G6

section -- G8
open PySem PySem.W PyProof.Rows
namespace Mine
theorem fresh_G8 : True := by
  w_top off
  k_with_none
  trivial
set_option maxRecDepth 100000
set_option maxHeartbeats 8000000
section
variable {prog : Program} {w : World} {A : Around} {E : Value → Shared → Prop} {s : Shared}
open PySem.Builtin PySem.Builtin.Str in
theorem starts_tup {y a b : Str} {ty ta tb : Tok} {D : Addr} {o : Obj} {n : Nat} {Q : Value → Shared → Prop} (ho : s.heap.get? D = some o) (hc : o.cls = .type "tuple") (hd : o.data = .seq #[.str a ta, .str b tb] n)
   (hq : Q (.bool (Txt.startswith y a || Txt.startswith y b)) s) :
   wpAny (model prog w) A (call (.builtin "str.startswith") [.str y ty, .ref D]) Q E s := by
  refine wpAny_call_entry F.slot_str_startswith (typeIs_str _ _ _) F.entry_str_startswith ?_ (F.args_str_startswith_2 _ _)
  show wpAny _ _ (do
    let r ← asStr? (.ref D)
    _) _ _ _
  refine wpAny_bind (wpAny_bind (wpAny_load ho ?_))
  rw [hd]
  refine wpAny_pure ?_
  refine wpAny_bind (wpAny_isInstance (T := "tuple") (U := "tuple") (b := true) ⟨o, ho, hc⟩ (by rfl) ?_)
  simp only [if_true]
  refine wpAny_bind (wpAny_rule ?_)
  refine wpAny_bind (wpAny_seqItems ho hd ?_)
  have e : ∀ z : Str, (decide (Int.toNat 0 + z.length ≤ Min.min (↑y.length : Int).toNat y.length) && subAt y z (Int.toNat 0)) = Txt.startswith y z := fun z => by
    simp [Txt.startswith]
  simp only [e]
  have f : ∀ (α : Type) (g : Value → α → Sem (ForInStep α)) (i : α) (u v : Value), forIn #[u, v] i g = (do match ← g u i with | .done r => pure r | .yield r => (do match ← g v r with | .done r => pure r | .yield r => pure r)) := by
    intros; rfl
  rw [f]
  clear f e
  refine wpAny_bind (wpAny_bind (wpAny_bind (wpAny_pure ?_)))
  dsimp only
  by_cases h1 : Txt.startswith y a = true
  · rw [if_pos h1]
    rw [h1, Bool.true_or] at hq
    exact wpAny_bind (wpAny_pure (wpAny_pure (wpAny_pure (wpAny_pure ⟨_, rfl, hq⟩))))
  · rw [if_neg h1]
    rw [Bool.not_eq_true] at h1
    rw [h1, Bool.false_or] at hq
    refine wpAny_pure (wpAny_bind (wpAny_bind (wpAny_pure ?_)))
    dsimp only
    by_cases h2 : Txt.startswith y b = true
    · rw [if_pos h2]
      rw [h2] at hq
      exact wpAny_bind (wpAny_pure (wpAny_pure (wpAny_pure (wpAny_pure ⟨_, rfl, hq⟩))))
    · rw [if_neg h2]
      rw [Bool.not_eq_true] at h2
      rw [h2] at hq
      exact wpAny_pure (wpAny_pure (wpAny_pure ⟨_, rfl, hq⟩))
end
end Mine
end -- G8

section -- G7
open PySem PySem.W PyProof.Rows
namespace Mine
theorem fresh_G7 : True := by
  w_top off
  k_with_none
  trivial
local macro_rules | `(tactic| walk_at "no such key") => `(tactic| fail)
set_option maxRecDepth 100000
set_option maxHeartbeats 8000000
local macro_rules | `(tactic| walk_at "execs cons") => `(tactic| (k_here; refine toks_gen ?_; intro tk))
local macro_rules | `(tactic| walk_at "execs nil") => `(tactic| (k_here; refine toks_gen ?_; intro tk))
local macro_rules | `(tactic| k_all) => `(tactic| assumption)

local macro_rules | `(tactic| walk_at "call builtin:str.startswith") => `(tactic| (k_here; (with_reducible show wpAny _ _ (call (Value.builtin "str.startswith") [Value.str _ _, Value.ref _]) _ _ _); k_dflt (refine' starts_tup ?k1 ?k2 ?k3 ?_; (case k1 => exact (News.get (by assumption) (List.mem_cons_self ..))); (case k2 => exact rfl); (case k3 => exact rfl))))
theorem bad_nil {y : Str} (h : (y.length : Int) = 0) : badP y = false := by
  have e : y = Str.ofString "" := str_of_cl (by rw [q_nil h]; rfl)
  rw [e]; decide +kernel
theorem bad_from {y : Str} (h : Txt.startswith y (Str.ofString "from ") = true) : badP y = false := by simp [badP, h]
theorem bad_imp {y : Str} (h : (Txt.startswith y (Str.ofString "\x69mport ") || Txt.startswith y (Str.ofString "c\x69mport ")) = true) : badP y = false := by unfold badP; rw [h]; simp
theorem bad_yes {y : Str} (h : (y.length : Int) ≠ 0) (h1 : Txt.startswith y (Str.ofString "from ") = false) (h2 : (Txt.startswith y (Str.ofString "\x69mport ") || Txt.startswith y (Str.ofString "c\x69mport ")) = false) : badP y = true := by
  have e : (y != Str.ofString "") = true := by
    rw [bne_iff_ne]
    rintro rfl
    exact h (by decide)
  unfold badP; rw [h1, h2, e]; rfl
section
variable {w : World} {p : Program} {loose : List Str} {mean : ExcName → Option Value} {mg mb : Str → Option Value}
  {gd : Option (List Code)} {cn : Str} {cs : Scope} {L a : Addr} {ccd : Value} {cl' : List (Str × Addr)} {outer : List Env} {base g : Heap} {L' : Addr} {s : Shared} {Q : Flow → Shared → Prop} {E E2 : Value → Shared → Prop}

theorem body_spec
  {line q0 y : Str} {nb sb : Bool} {tl tq ty : Tok} {u : Str → Option Value} {news : List (Addr × Obj)}
  (B : Below (ktrTop 320 500 gd cn cs L a ccd cl' outer) base (envX cn cs L a ccd cl' :: outer) g) (F : Fr g L' s.heap (fun z => if z = Str.ofString "part" then some (.str y ty) else M4 line tl q0 tq nb sb u z)) (X : (hd.heap_39 w.params).In g)
  (N : News g L' s.heap news) (T : Top p loose mean mg mb g)
  (hlen : y.length ≤ 1000) 
  (ret : ∀ (u' : Str → Option Value) (h' : Heap) (tk' : Nat), Fr g L' h' (M4 line tl q0 tq nb (sb || badP y) u') → News g L' h' news → Q .next { s with heap := h', toks := tk' }) :
  wpAny (model PySem.Challenge.rw_gn5014_01.row.prog w) ((ktrTop 320 500 gd cn cs L a ccd cl' outer).deeper (skipEnv L')) (execs skipForBody (skipEnv L')) Q (fun e s' => wpAny (model PySem.Challenge.rw_gn5014_01.row.prog w) ((ktrTop 320 500 gd cn cs L a ccd cl' outer).deeper (skipEnv L')) (leaving (skipEnv L') e) (fun _ s'' => E e s'') (fun e' s'' => E2 e' s'') s') s := by
  revert X; k_fill; intro X
  delta skipEnv
  delta M4 at F
  conv in (occs := *) skipParts.1 => all_goals whnf
  show wpAny _ _ (execs [.If _ _ _ _] _) _ _ _
  k_unmd
  k_steps
  all_goals first
    | (have hb : badP y = false := bad_nil (by assumption)
       rw [hb, Bool.or_false] at ret
       exact ret _ _ _ (fr_m4 (by assumption) rfl rfl rfl rfl) (by assumption))
    | (have hb : badP y = false := bad_from (by assumption)
       rw [hb, Bool.or_false] at ret
       exact ret _ _ _ (fr_m4 (by assumption) rfl rfl rfl rfl) (by assumption))
    | (have hb : badP y = false := bad_imp (by assumption)
       rw [hb, Bool.or_false] at ret
       exact ret _ _ _ (fr_m4 (by assumption) rfl rfl rfl rfl) (cb_drop (by assumption) (by intro p hp; exact List.Mem.tail _ hp)))
    | (have hb : badP y = true := bad_yes (by assumption) (by assumption) (by assumption)
       rw [hb, Bool.or_true] at ret
       exact ret _ _ _ (fr_m4 (by assumption) rfl rfl rfl rfl) (cb_drop (by assumption) (by intro p hp; exact List.Mem.tail _ hp)))
end
end Mine
end -- G7

section -- G9
open PySem PySem.W PyProof.Rows
namespace Mine
theorem fresh_G9 : True := by
  w_top off
  k_with_none
  trivial
set_option maxRecDepth 100000
set_option maxHeartbeats 8000000
local macro_rules | `(tactic| walk_at "execs cons") => `(tactic| (k_here; refine toks_gen ?_; intro tk))
local macro_rules | `(tactic| walk_at "execs nil") => `(tactic| (k_here; refine toks_gen ?_; intro tk))
local macro_rules | `(tactic| k_all) => `(tactic| assumption)

theorem parts_succ {line y : Str} {t : Tok} {l : List (Str × Tok)} {k : Nat} (hl : l.map (fun y => y.1) = Txt.split line (Str.ofString ";")) (hy : (strValues l).toArray[k]? = some (Value.str y t)) :
    partsB line (k + 1) = (partsB line k || badP (Txt.strip y)) := by
  simp only [strValues, List.getElem?_toArray, List.getElem?_map, Option.map_eq_some_iff] at hy
  obtain ⟨⟨y', t'⟩, hy1, hy2⟩ := hy
  cases hy2
  have e : (Txt.split line (Str.ofString ";"))[k]? = some y' := by rw [← hl, List.getElem?_map, hy1]; rfl
  unfold partsB
  rw [List.take_add_one, e, List.any_append]
  simp

section
variable {w : World} {p : Program} {loose : List Str} {mean : ExcName → Option Value} {mg mb : Str → Option Value}
  {gd : Option (List Code)} {cn : Str} {cs : Scope} {L a : Addr} {ccd : Value} {cl' : List (Str × Addr)} {outer : List Env} {base g : Heap} {L' : Addr} {s : Shared} {Q : Flow → Shared → Prop} {E E2 : Value → Shared → Prop}

theorem for_part
  {line q0 : Str} {nb sb : Bool} {tl tq : Tok} {u : Str → Option Value} {news : List (Addr × Obj)} {ps : Array Value}
  (B : Below (ktrTop 320 500 gd cn cs L a ccd cl' outer) base (envX cn cs L a ccd cl' :: outer) g) (F : Fr g L' s.heap (M4 line tl q0 tq nb sb u)) (X : (hd.heap_39 w.params).In g)
  (N : News g L' s.heap ((138, tabO ps) :: news)) (T : Top p loose mean mg mb g) (C : CodeLike g 142 138) (ok : TabOk skipGenPos ps) (hnp : ∀ p ∈ news, p.1 ≠ 138) (G : AllBare s.gens)
  (hlen : line.length ≤ 1000) 
  (ret : ∀ (u' : Str → Option Value) (s' : Shared) (ps' : Array Value), TabOk skipGenPos ps' → Fr g L' s'.heap (M4 line tl q0 tq nb (sb || partsB line (Txt.split line (Str.ofString ";")).length) u') → News g L' s'.heap ((138, tabO ps') :: news) → AllBare s'.gens → s'.os = s.os → s'.drawn = s.drawn → Q .next s') :
  wpAny (model PySem.Challenge.rw_gn5014_01.row.prog w) ((ktrTop 320 500 gd cn cs L a ccd cl' outer).deeper (skipEnv L')) (exec skipFor (skipEnv L')) Q (fun e s' => wpAny (model PySem.Challenge.rw_gn5014_01.row.prog w) ((ktrTop 320 500 gd cn cs L a ccd cl' outer).deeper (skipEnv L')) (leaving (skipEnv L') e) (fun _ s'' => E e s'') (fun e' s'' => E2 e' s'') s') s := by
  show wpAny _ _ (exec (.For (.Name (Str.ofString "part") _) (.GeneratorExp _ [⟨.Name (Str.ofString "part") _, skipIter, [], 0⟩] _ skipGenPos) skipForBody [] _) (skipEnv L')) _ _ _
  refine for_gen ?_
  refine genexp_small rfl rfl rfl (by decide) rfl rfl rfl (by show 321 < recursionLimit; decide) rfl ?_ (by intro _; rfl)
  refine iter_spec B F X N T hlen ?_
  intro x l o h₁ tk₁ hl hle hL F₁ N₁
  have hlt : x < h₁.objs.size := by obtain ⟨_, e, _⟩ := hL; exact Heap.lt_size e
  have hx : x ≠ 138 := by
    intro e
    obtain ⟨ob, ho, hcl, _⟩ := hL
    have := (N₁ _ (List.mem_cons_of_mem _ (List.mem_cons_self ..))).1
    rw [e, this] at ho; cases ho; exact absurd hcl (by simp [tabO])
  have hP := N₁ _ (List.mem_cons_of_mem _ (List.mem_cons_self ..))
  have hS : cStatics ≠ 138 := by
    intro e
    obtain ⟨_, hn, _⟩ := T.nolimit
    obtain ⟨oS, _, _, ho, _⟩ := hn
    rw [e, hP.2.2] at ho; cases ho
  refine ⟨x, _, rfl, hL, T.nolimit.keeps F₁.keep, ?_, ?_⟩
  · intro i v hv
    simp only [strValues, List.getElem?_toArray, List.getElem?_map, Option.map_eq_some_iff] at hv
    obtain ⟨⟨y, t⟩, hy, rfl⟩ := hv
    exact ⟨y, t, rfl, hle y (List.mem_map.mpr ⟨(y, t), List.mem_of_getElem? hy, rfl⟩)⟩
  refine code_led (c := 142) (P := 138) (ps := ps) (news := (x, o) :: news) rfl C ok (Fr.push F₁ _) ?_ ?_ ?_
  · intro p hp
    have hp' : p ∈ (x, o) :: (138, tabO ps) :: news := by
      rcases List.mem_cons.mp hp with rfl | hp
      · exact List.mem_cons_of_mem _ (List.mem_cons_self ..)
      rcases List.mem_cons.mp hp with rfl | hp
      · exact List.mem_cons_self ..
      · exact List.mem_cons_of_mem _ (List.mem_cons_of_mem _ hp)
    exact ⟨Heap.get?_push_of_some _ (N₁ p hp').1, (N₁ p hp').2⟩
  · intro p hp
    rcases List.mem_cons.mp hp with rfl | hp
    · exact hx
    · exact hnp p hp
  intro c' h₂ tk₂ ps' ok' F₂ N₂ hk₂ hsz₂
  obtain ⟨bm, ob, hb1, hb2, hb3, hb4, hb5, hb6⟩ := T.bmain
  refine wpAny_builtinsFor (T.g.keeps F₂.keep) hb1 hb2 (F₂.keep _ _ hb3) hb4 hb5 hb6 ?_
  refine ⟨?_, ?_, ?_⟩
  · intro b hb o' e
    refine hk₂ b o' ?_ e
    rcases List.mem_cons.mp hb with rfl | hb
    · exact (Nat.ne_of_gt (Heap.lt_size hP.1))
    rcases List.mem_cons.mp hb with rfl | hb
    · exact hx
    rcases List.mem_cons.mp hb with rfl | hb
    · exact hS
    cases hb
  · refine Nat.lt_of_lt_of_le ?_ hsz₂
    show h₁.objs.size < (h₁.push _).objs.size
    rw [Heap.size_push]; exact Nat.lt_succ_self _
  intro a₅ h₅ tk₅ gs St hbare hlt₅ hsz₅ hk₅ W htk hst
  have hLlt : L' < h₁.objs.size := by obtain ⟨oL, _, _, hoL, _⟩ := F₁.ns; exact Heap.lt_size hoL
  have hsz12 : h₁.objs.size < h₂.objs.size := by
    refine Nat.lt_of_lt_of_le ?_ hsz₂
    show h₁.objs.size < (h₁.push _).objs.size
    rw [Heap.size_push]; exact Nat.lt_succ_self _
  have hwr : ∀ b ∈ [h₂.objs.size, h₁.objs.size], L' < b := by
    intro b hb
    rcases List.mem_cons.mp hb with rfl | hb
    · exact Nat.lt_trans hLlt hsz12
    rcases List.mem_cons.mp hb with rfl | hb
    · exact hLlt
    cases hb
  have hnw : ∀ (ps'' : Array Value), ∀ p ∈ (138, tabO ps'') :: news, p.1 ∉ [h₂.objs.size, h₁.objs.size] := by
    intro ps'' p hp hm
    have hlt : p.1 < h₁.objs.size := by
      rcases List.mem_cons.mp hp with rfl | hp
      · exact Heap.lt_size hP.1
      · exact Heap.lt_size (N₁ p (List.mem_cons_of_mem _ (List.mem_cons_of_mem _ hp))).1
    rcases List.mem_cons.mp hm with e | hb
    · rw [e] at hlt; exact Nat.lt_irrefl _ (Nat.lt_trans hlt hsz12)
    rcases List.mem_cons.mp hb with e | hb
    · rw [e] at hlt; exact Nat.lt_irrefl _ hlt
    cases hb
  have hpass : passing allP (strValues l).toArray.size 0 = List.range (Txt.split line (Str.ofString ";")).length := by
    rw [← hl]
    simp [passing, strValues]
  refine ⟨a₅, _, _, _, _, _, St, fun i s' => ∃ (u' : Str → Option Value) (ps'' : Array Value), TabOk skipGenPos ps'' ∧ Fr g L' s'.heap (M4 line tl q0 tq nb (sb || partsB line i) u') ∧ News g L' s'.heap ((138, tabO ps'') :: news) ∧ AllBare s'.gens ∧ s'.os = s.os ∧ s'.drawn = s.drawn,
    rfl, W.of_in1.of_in1.of_in1.of_in1, hst, ?_, ?_, ?_⟩
  · refine ⟨u, ps', ok', ?_, fun p hp => ?_, G.push hbare, rfl, rfl⟩
    · have e0 : partsB line 0 = false := rfl
      rw [e0, Bool.or_false]
      exact F₂.keeps hk₅
    · have hp' : p ∈ (138, tabO ps') :: (x, o) :: news := by
        rcases List.mem_cons.mp hp with rfl | hp
        · exact List.mem_cons_self ..
        · exact List.mem_cons_of_mem _ (List.mem_cons_of_mem _ hp)
      exact ⟨hk₅ _ _ (N₂ p hp').1, (N₂ p hp').2⟩
  · rintro i v s' s₂ hi ⟨k, hk, y, t, u0, hy, rfl⟩ ⟨u', ps'', ok'', F', N', G', ho, hd⟩ mv hst₂
    rw [hpass] at hi hk
    rw [List.length_range] at hi
    have hki : k = i := by rw [List.getElem?_range hi] at hk; exact (Option.some.inj hk).symm
    subst hki
    have Fs := F'.moved mv hwr
    have Ns : News g L' s₂.heap ((138, tabO ps'') :: news) := fun p hp => ⟨mv.heap _ _ (hnw _ p hp) (N' p hp).1, (N' p hp).2⟩
    have hgl : ∀ b, h₁.objs.size ≤ b → g.get? b = none := fun b hb => by
      cases q : g.get? b with
      | none => rfl
      | some o' => exact absurd (Heap.lt_size (F₁.keep _ _ q)) (Nat.not_lt.mpr hb)
    have hx1 := N₁ _ (List.mem_cons_self ..)
    have hfp : ∀ b ∈ [a₅, h₂.objs.size, h₁.objs.size, x], b ≠ L' ∧ g.get? b = none := by
      intro b hb
      rcases List.mem_cons.mp hb with rfl | hb
      · exact ⟨Nat.ne_of_gt (Nat.lt_trans hLlt (Nat.lt_trans hsz12 hlt₅)), hgl _ (Nat.le_of_lt (Nat.lt_trans hsz12 hlt₅))⟩
      rcases List.mem_cons.mp hb with rfl | hb
      · exact ⟨Nat.ne_of_gt (Nat.lt_trans hLlt hsz12), hgl _ (Nat.le_of_lt hsz12)⟩
      rcases List.mem_cons.mp hb with rfl | hb
      · exact ⟨Nat.ne_of_gt hLlt, hgl _ (Nat.le_refl _)⟩
      rcases List.mem_cons.mp hb with rfl | hb
      · exact hx1.2
      cases hb
    have Nown : News g L' s₂.heap ([a₅, h₂.objs.size, h₁.objs.size, x].filterMap (fun b => (s₂.heap.get? b).map (fun o => (b, o))) ++ (138, tabO ps'') :: news) := by
      intro q hq
      rcases List.mem_append.mp hq with hq | hq
      · obtain ⟨b, hb, e⟩ := List.mem_filterMap.mp hq
        obtain ⟨ob, e1, rfl⟩ := Option.map_eq_some_iff.mp e
        exact ⟨e1, hfp b hb⟩
      · exact Ns q hq
    have hyl : y.length ≤ 1000 := by
      simp only [strValues, List.getElem?_toArray, List.getElem?_map, Option.map_eq_some_iff] at hy
      obtain ⟨⟨y', t'⟩, hy1, hy2⟩ := hy
      cases hy2
      exact hle _ (List.mem_map.mpr ⟨_, List.mem_of_getElem? hy1, rfl⟩)
    have Gs : AllBare s₂.gens := G'.movedS mv
    have hos : s₂.os = s.os := mv.os.trans ho
    have hdr : s₂.drawn = s.drawn := mv.drawn.trans hd
    refine stN Fs Nown (fun h₃ F₃ N₃ => ?_)
    refine body_spec (s := ⟨h₃, s₂.gens, s₂.drawn, s₂.toks + 1, s₂.os⟩) B F₃ X N₃ T (Nat.le_trans (len_strip y) hyl) (fun u'' h₄ tk₄ F₄ N₄ => ⟨rfl, ?_, u'', ps'', ok'', ?_, fun q hq => N₄ q (List.mem_append_right _ hq), Gs, hos, hdr⟩)
    · refine htk _ ⟨h₄, s₂.gens, s₂.drawn, s₂.toks, s₂.os⟩ tk₄ (W.frame _ s₂ h₄ s₂.toks hst₂ (Nat.le_refl _) fun b hb o' e => ?_)
      have hb' : b ∈ [a₅, h₂.objs.size, h₁.objs.size, x] ∨ b = cStatics := by
        simp only [List.mem_cons, List.not_mem_nil, or_false] at hb ⊢
        rcases hb with h | h | h | h | h <;> simp [h]
      rcases hb' with hb' | rfl
      · exact (N₄ (b, o') (List.mem_append_left _ (List.mem_filterMap.mpr ⟨b, hb', by rw [e]; rfl⟩))).1
      · obtain ⟨_, hn, _⟩ := T.nolimit
        obtain ⟨oS, _, _, hoS, _⟩ := hn
        rw [Fs.keep _ _ hoS] at e
        cases e
        exact F₄.keep _ _ hoS
    · rw [parts_succ hl hy, ← Bool.or_assoc]
      exact F₄
  · rintro s' s₂ ⟨u', ps'', ok'', F', N', G', ho, hd⟩ mv
    refine ret u' s₂ ps'' ok'' ?_ (fun p hp => ⟨mv.heap _ _ (hnw _ p hp) (N' p hp).1, (N' p hp).2⟩) (G'.movedS mv) (mv.os.trans ho) (mv.drawn.trans hd)
    have := F'.moved mv hwr
    rw [hpass, List.length_range] at this
    exact this
end
end Mine
end -- G9

section -- S1
open PySem PySem.W PySem.W.X PyProof.Rows
namespace Mine
theorem fresh_S1 : True := by
  w_top off
  k_with_none
  trivial
set_option maxRecDepth 100000
set_option maxHeartbeats 8000000
local macro_rules | `(tactic| walk_at "execs cons") => `(tactic| (k_here; refine toks_gen ?_; intro tk))
local macro_rules | `(tactic| walk_at "execs nil") => `(tactic| (k_here; refine toks_gen ?_; intro tk))
local macro_rules | `(tactic| k_all) => `(tactic| assumption)
local macro_rules | `(tactic| walk_at "call type:bool") => `(tactic| (k_here; (with_reducible show wpAny _ _ (call (Value.type "bool") [Value.str _ _]) _ _ _); refine call_bool_str (by omega) ?_))
local macro_rules | `(tactic| walk_at "exec If") => `(tactic| (k_here; (with_reducible show wpAny _ _ (exec (Stmt.If (PySem.Expr.BoolOp BoolOp.Or _ _) _ _ _) _) _ _ _); k_dflt (refine' loop_spec ?k1 (fr_m4 ?k2 ?e1 ?e2 ?e3 ?e4) ?k3 ?k4 ?k5 ?k6 ?k7 ?_; (case k1 => k_asm); (case k2 => k_asm); (case e1 => exact rfl); (case e2 => exact rfl); (case e3 => exact rfl); (case e4 => exact rfl); (case k3 => k_asm); (case k4 => k_asm); (case k5 => k_asm); (case k6 => assumption); (case k7 => assumption); (intro q' t' u' h' tk' hs' hl3' F' N'); (delta M4 at F'); (try k_sweep))))
local macro_rules | `(tactic| walk_at "callWith") => `(tactic| (k_here; (with_reducible show wpAny _ _ (callWith _ (Value.builtin _) [_] _ (backToKw _ (keywordEach (_ :: _) _))) _ _ _); k_dflt (refine callWith_kwM ?_)))
local macro_rules | `(tactic| walk_at "call builtin:str.split") => `(tactic| (k_here; k_dflt (refine' split_kw ?k1 ?k2 ?k3 ?_; (case k1 => assumption); (case k2 => k_asm); (case k3 => k_asm); (intro a' h' tk' rest' t' n' F' N'))))
theorem news_cut {g h : Heap} {L : Addr} {x : Addr × Obj} {l : List (Addr × Obj)} (N : News g L h (x :: l)) : News g L h l := fun p hp => N p (.tail _ hp)
theorem news_cut2 {g h : Heap} {L : Addr} {x y : Addr × Obj} {l : List (Addr × Obj)} (N : News g L h (x :: y :: l)) : News g L h (x :: l) := fun p hp => by
  rcases List.mem_cons.mp hp with rfl | hp
  · exact N _ (.head _)
  · exact N _ (.tail _ (.tail _ hp))
section
variable {n n' : Nat} {e nb pb : Bool}
theorem bn (n : Nat) : ((n : Int) != 0) = decide (n ≠ 0) := by rw [Bool.eq_iff_iff, bne_iff_ne, decide_eq_true_eq]; omega
theorem bfin1 (he : e = true) (h : (n : Int) ≠ 0) : ((n : Int) != 0) = (decide (n ≠ 0 ∨ n' ≠ 0) || !e && nb && pb) := by
  subst he; rw [bn, Bool.eq_iff_iff]; simp; omega
theorem bfin2 (he : e = true) (h : (n : Int) = 0) : ((n' : Int) != 0) = (decide (n ≠ 0 ∨ n' ≠ 0) || !e && nb && pb) := by
  subst he; rw [bn, Bool.eq_iff_iff]; simp; omega
theorem bfin3 (he : nb = false) (h : (n : Int) ≠ 0) : ((n : Int) != 0) = (decide (n ≠ 0 ∨ n' ≠ 0) || !e && nb && pb) := by
  subst he; rw [bn, Bool.eq_iff_iff]; simp; omega
theorem bfin4 (he : nb = false) (h : (n : Int) = 0) : ((n' : Int) != 0) = (decide (n ≠ 0 ∨ n' ≠ 0) || !e && nb && pb) := by
  subst he; rw [bn, Bool.eq_iff_iff]; simp; omega
theorem bfin5 (he : e = false) (hn : nb = true) (h : ((n : Int) != 0 || pb) = true) : ((n : Int) != 0 || pb) = (decide (n ≠ 0 ∨ n' ≠ 0) || !e && nb && pb) := by
  subst he hn; rw [h]; rw [bn] at h; cases pb
  · simp at h ⊢; omega
  · simp
theorem bfin6 (he : e = false) (hn : nb = true) (h : ((n : Int) != 0 || pb) = false) : ((n' : Int) != 0) = (decide (n ≠ 0 ∨ n' ≠ 0) || !e && nb && pb) := by
  subst he hn; rw [bn] at h ⊢; cases pb
  · simp at h; subst h; simp
  · simp at h
end
theorem codeLike_of {g : Heap} {c P : Addr} (C : CodeHd g c P) : CodeLike g c P := fun _ _ k hP ht => ⟨(C.keeps k).code hP ht, (C.keeps k).tab hP⟩
local macro_rules | `(tactic| walk_at "exec For") => `(tactic| (k_here; (with_reducible show wpAny _ _ (exec (Stmt.For (PySem.Expr.Name _ _) (PySem.Expr.GeneratorExp _ _ _ _) _ _ _) _) _ _ _); k_dflt (refine' for_part ?k1 (fr_m4 ?k2 ?e1 ?e2 ?e3 ?e4) ?k3 ?k4 ?k5 ?kC ?kO ?kn ?kG ?k6 ?_; (case k1 => k_asm); (case k2 => k_asm); (case e1 => exact rfl); (case e2 => exact rfl); (case e3 => exact rfl); (case e4 => exact rfl); (case k3 => k_asm); (case kO => assumption); (case kn => assumption); (case k4 => exact news_cut (by assumption)); (case k5 => k_asm); (case kC => exact codeLike_of (CodeHd.keeps (by assumption) (Fr.keep (by assumption)))); (case kG => assumption); (case k6 => assumption); (intro u' s' ps' ok' F' N' G' os' dr'); (obtain ⟨h', g', d', tk', o'⟩ := s'); (dsimp only at F' N' G' os' dr'); subst os' dr'; (delta M4 at F'); (try dsimp only); (try k_sweep))))

section
variable {w : World} {p : Program} {loose : List Str} {mean : ExcName → Option Value} {mg mb : Str → Option Value}
  {gd : Option (List Code)} {cn : Str} {cs : Scope} {a : Addr} {ccd : Value} {cl' : List (Str × Addr)} {outer : List Env} {A₀ : Around} {base h₀ : Heap} {L : Addr} {m : Str → Option Value} {s : Shared} {Q E : Value → Shared → Prop}

theorem skip_part
  {line q0 : Str} {nb : Bool} {tl tq : Tok} {rest : List (Addr × Obj)} {ps : Array Value}
  (B : Below A₀ base outer h₀) (F : Fr h₀ L s.heap m) (X : (hd.heap_39 w.params).In h₀) (X2 : (K2 w.params).In h₀)
  (N : News h₀ L s.heap ((138, tabO ps) :: rest)) (T : Top p loose mean mg mb h₀) (hk : cs.kind = .function)
  (C : CodeHd h₀ 142 138) (ok : TabOk skipGenPos ps) (hnp : ∀ p ∈ rest, p.1 ≠ 138) (G : AllBare s.gens)
  (hlen : line.length ≤ 1000) (hq : Lefts q0)
  (ret : ∀ x o b q' s' ps', cl q' = scan (cl line) 0 (cl q0) → q'.length ≤ 3 → b = (decide (q0.length ≠ 0 ∨ q'.length ≠ 0) || (!(Builtin.Str.occurrences (hdS line) (Str.ofString ";") 0 (hdS line).length 1).isEmpty && nb && partsB line (Txt.split line (Str.ofString ";")).length)) → instIs b q' o →
     Fr h₀ L s'.heap m → News h₀ L s'.heap ((x, o) :: (138, tabO ps') :: rest) → TabOk skipGenPos ps' → AllBare s'.gens → s'.os = s.os → s'.drawn = s.drawn → Q (.ref x) s') :
  wpAny (model PySem.Challenge.rw_gn5014_01.row.prog w) (ktrTop 320 500 gd cn cs L a ccd cl' outer) (call (.ref 143) [.str line tl, .str q0 tq, .bool nb]) Q E s := by
  revert X; k_fill; intro X
  have hql : q0.length ≤ 3 := by rcases hq with rfl | rfl | rfl <;> decide +kernel
  refine wpAny_call ?_
  k_dflt (refine' code_def ?k1 ?k2 ?k3 ?k4 ?k5 ?kA ?kF ?kK ?k6 ?k7 ?k8 ?k9 ?kB ?_ ?c2 ?c3 ?c4 ?c5; (case kA => exact rfl); (case kF => exact rfl); (case kK => assumption); (case k1 => k_asm); (case k2 => k_asm); (case k3 => k_asm); (case k4 => k_asm); (case k5 => k_asm); (case k6 => k_is); (case k7 => k_is); (case k8 => ktr_room); (case k9 => first | exact BindsTo.of_eq rfl | exact binds_K (by k_in) rfl (by k_is) rfl rfl rfl); (case c5 => decide); (case kB => exact locs rfl); (case c2 => exact rfl); (case c3 => exact rfl); (case c4 => exact rfl); k_whole; intro g' L' h' FG' F' N' B' X' T'; (try dsimp only); (try k_lift B'); (try k_fold))
  k_steps
  all_goals (
    (k_dflt (refine' mk_resK ?k1 ?k2 ?k3 ?_; (case k1 => exact X2.keeps (Fr.keep (by assumption))); (case k2 => k_asm); (case k3 => k_asm); (intro x' o' h' tk' F' N' hi')))
    k_steps)
  all_goals (
    refine ret _ _ _ _ _ _ (by assumption) (by assumption) ?_ hi' (by assumption) (by first | assumption | exact news_cut2 (by assumption)) (by assumption) (by assumption) rfl rfl
    first
      | exact bfin1 (by assumption) (by assumption)
      | exact bfin2 (by assumption) (by assumption)
      | exact bfin3 (by assumption) (by assumption)
      | exact bfin4 (by assumption) (by assumption)
      | exact bfin5 (by assumption) (by assumption) (by assumption)
      | exact bfin6 (by assumption) (by assumption) (by assumption))
end
end Mine
end -- S1

section -- P3
open PySem PySem.Builtin PySem.Builtin.Str PyProof.Rows
namespace Mine
theorem fresh_P3 : True := by
  w_top off
  k_with_none
  trivial
set_option maxRecDepth 100000

theorem hd_mem {t : Str} {c : Nat} (h : c ∈ cl (hdS t)) : c ∈ cl t := by
  unfold hdS at h
  split at h
  · exact h
  · split at h
    · exact h
    · rw [show cl (strSub t 0 _) = ((cl t).drop 0).take _ from StrLaws.strSub_toList ..] at h
      exact List.mem_of_mem_drop (List.mem_of_mem_take h)
theorem one_semi : Str.ofString ";" = ⟨#[59]⟩ := by decide +kernel
theorem nosemi {t : Str} (h : 59 ∉ cl t) : (occurrences (hdS t) (Str.ofString ";") 0 (hdS t).length 1).isEmpty = true := by
  have q := StrLaws.found_one (hdS t) 59
  rw [← one_semi] at q
  have : decide (59 ∈ (hdS t).cps.toList) = false := decide_eq_false fun hm => h (hd_mem hm)
  rw [this] at q
  simpa using q
/-- what skip_line tells of a row built without semicolons -/
theorem row_told {q t left q' : Str} {b nb : Bool} (R : RowB q t left) (h1 : cl q' = scan (cl t) 0 (cl q))
    (hb : b = (decide (q.length ≠ 0 ∨ q'.length ≠ 0) || (!(occurrences (hdS t) (Str.ofString ";") 0 (hdS t).length 1).isEmpty && nb && partsB t (Txt.split t (Str.ofString ";")).length))) :
    q' = left ∧ b = (q != Str.ofString "" || left != Str.ofString "") := by
  have e : q' = left := str_of_cl (h1.trans R.says)
  subst e
  refine ⟨rfl, ?_⟩
  rw [hb, nosemi R.semi]
  have z : ∀ x : Str, (x != Str.ofString "") = decide (x.length ≠ 0) := fun x => by
    rw [Bool.eq_iff_iff, bne_iff_ne, decide_eq_true_eq]
    constructor
    · intro hx hl
      exact hx (str_of_cl ((List.eq_nil_of_length_eq_zero (by rw [cl_len]; exact hl)).trans e0.symm))
    · intro hx hl
      exact hx (by rw [hl]; decide +kernel)
  rw [z, z]
  rw [Bool.eq_iff_iff]; simp
/-- the same of the written rows with semicolons -/
def partedB (t : Str) : Bool := (t == Str.ofString "from a \x69mport b; x = 1") || (t == Str.ofString "x; \x69mport a")
def partedTexts : List Str := [Str.ofString "\x69mport a; \x69mport b", Str.ofString "from a \x69mport b; x = 1", Str.ofString "x; \x69mport a", Str.ofString "\x69mport a;", Str.ofString "c\x69mport a; \x69mport b  # c"]
theorem parted_ok : ∀ t ∈ partedTexts, (scan (cl t) 0 [] == []) = true ∧ decide (t.length ≤ 1000) = true ∧
    ((!(occurrences (hdS t) (Str.ofString ";") 0 (hdS t).length 1).isEmpty && partsB t (Txt.split t (Str.ofString ";")).length) == partedB t) = true := by
  decide +kernel
theorem part_told {t q' : Str} {b nb : Bool} (ht : t ∈ partedTexts) (h1 : cl q' = scan (cl t) 0 (cl (Str.ofString "")))
    (hb : b = (decide ((Str.ofString "").length ≠ 0 ∨ q'.length ≠ 0) || (!(occurrences (hdS t) (Str.ofString ";") 0 (hdS t).length 1).isEmpty && nb && partsB t (Txt.split t (Str.ofString ";")).length))) :
    q' = Str.ofString "" ∧ b = (nb && partedB t) := by
  obtain ⟨e1, _, e3⟩ := parted_ok t ht
  have e : q' = Str.ofString "" := str_of_cl (by rw [h1, e0]; simpa using e1)
  subst e
  refine ⟨rfl, ?_⟩
  rw [beq_iff_eq] at e3
  rw [← e3, hb]
  have z : (Str.ofString "").length = 0 := by decide +kernel
  rw [z]
  cases nb <;> simp
theorem last_told {q' : Str} {b : Bool} (h1 : cl q' = scan (cl (Str.ofString "\x69mport a")) 0 (cl (Str.ofString "")))
    (hb : b = (decide ((Str.ofString "").length ≠ 0 ∨ q'.length ≠ 0) || (!(occurrences (hdS (Str.ofString "\x69mport a")) (Str.ofString ";") 0 (hdS (Str.ofString "\x69mport a")).length 1).isEmpty && true && partsB (Str.ofString "\x69mport a") (Txt.split (Str.ofString "\x69mport a") (Str.ofString ";")).length))) :
    q' = Str.ofString "" ∧ b = false := by
  have e : q' = Str.ofString "" := str_of_cl (by rw [h1]; decide +kernel)
  subst e
  refine ⟨rfl, ?_⟩
  rw [hb]; decide +kernel
end Mine
end -- P3

section -- L2
open PySem PySem.W PySem.W.X PyProof.Rows
namespace Mine
theorem fresh_L2 : True := by
  w_top off
  k_with_none
  trivial
set_option maxRecDepth 100000
set_option maxHeartbeats 8000000

def EqEnd (s : Shared) (Q : Value → Shared → Prop) : Prop :=
  ∀ h' tk, (∀ c o, s.heap.get? c = some o → h'.get? c = some o) → Q (.bool true) { s with heap := h', toks := tk }
theorem EqEnd.same {s : Shared} {Q : Value → Shared → Prop} (H : EqEnd s Q) : Q (.bool true) ⟨s.heap, s.gens, s.drawn, s.toks, s.os⟩ := H s.heap s.toks fun _ _ e => e
local macro_rules | `(tactic| x_close) => `(tactic| (exact EqEnd.same (by assumption)))

section
variable {w : World} {gd : Option (List Code)} {outer : List Env} {s : Shared} {Q E : Value → Shared → Prop}

theorem tup_eq_call {x y : Addr} {dx dy : Option Addr} {nx ny : Nat} {t1 t2 : Tok} {sx sy : Array (Option Value)} (X : (K2 w.params).In s.heap)
   (hx : s.heap.get? x = some ⟨.ref 132, dx, .seq #[.bool false, .str (Str.ofString "") t1] nx, sx⟩) (hy : s.heap.get? y = some ⟨.type "tuple", dy, .seq #[.bool false, .str (Str.ofString "") t2] ny, sy⟩) (H : EqEnd s Q) :
  wpAny (model PySem.Challenge.rw_gn5014_01.row.prog w) ({ handled := none, depth := 322, frames := some outer, guards := gd, units := 600 } : Around) (call (.builtin "tuple.__eq__") [.ref x, .ref y]) Q E s := by
  revert X; k_fill; intro X
  x_run

theorem eq_bind (self : Value) : bindSpecial (.builtin "tuple.__eq__") self = pure (.builtin "tuple.__eq__", [self]) := PySem.F.slot_tuple_eq.bind self

theorem told_eq {x y : Addr} {dx dy : Option Addr} {nx ny : Nat} {t1 t2 : Tok} {sx sy : Array (Option Value)} (X2 : (K2 w.params).In s.heap) (X : (hd.heap_39 w.params).In s.heap)
   (hx : s.heap.get? x = some ⟨.ref 132, dx, .seq #[.bool false, .str (Str.ofString "") t1] nx, sx⟩) (hy : s.heap.get? y = some ⟨.type "tuple", dy, .seq #[.bool false, .str (Str.ofString "") t2] ny, sy⟩) (H : EqEnd s Q) :
  wpAny (model PySem.Challenge.rw_gn5014_01.row.prog w) ({ handled := none, depth := 322, frames := some outer, guards := gd, units := 600 } : Around) (compareOp .Eq (.ref x) (.ref y)) Q E s := by
  revert X; k_fill; intro X
  have hf : findIn (hd.heap_39 w.params) (.ref 132) "__eq__" = some (some (.builtin "tuple.__eq__")) := by
    k_is
  have hs : subIn (hd.heap_39 w.params) (.type "tuple") (.ref 132) = some false := by
    k_is
  have one : wpAny (model PySem.Challenge.rw_gn5014_01.row.prog w) ({ handled := none, depth := 322, frames := some outer, guards := gd, units := 600 } : Around) (tryCompare (.ref x) "__eq__" (.ref y)) (fun r s' => ∃ v, r = some v ∧ Q v s') E s := by
    unfold tryCompare
    refine wpAny_bind ?_
    simp only [callSpecialIfBound?, bindSpecialIfBound?]
    refine wpAny_holding (wpAny_bind (wpAny_bind (wpAny_bind ((looks_cls hx).here ((looks_findIn X hf).here ?_)))))
    refine wpAny_bind (wpAny_askSetting (wpAny_ite ?_))
    have fin : wpAny (model PySem.Challenge.rw_gn5014_01.row.prog w) ({ handled := none, depth := 322, frames := some outer, guards := gd, units := 600 } : Around) (call (.builtin "tuple.__eq__") ([.ref x] ++ [.ref y]) >>= fun v => pure (some v)) (fun r s' => r = some (.bool true) ∧ Q (.bool true) s') E s :=
      wpAny_bind (tup_eq_call X2 hx hy (fun h' tk k => wpAny_pure ⟨rfl, H h' tk k⟩))
    split
    · rw [eq_bind]
      refine wpAny_bind (wpAny_pure (wpAny_pure (wpAny_mono fin (fun r s' z => ?_) fun _ _ e => e)))
      obtain ⟨rfl, hz⟩ := z
      exact wpAny_pure ⟨_, rfl, hz⟩
    · rw [eq_bind]
      refine wpAny_tryCatch (wpAny_bind (wpAny_pure (wpAny_pure (wpAny_mono fin (fun r s' z => ?_) fun _ _ e => e))))
      obtain ⟨rfl, hz⟩ := z
      exact wpAny_pure ⟨_, rfl, hz⟩
  show wpAny _ _ (richCompare .Eq (.ref x) (.ref y)) _ _ _
  unfold richCompare
  simp only [oneThing_ref]
  refine wpAny_holding (wpAny_bind (wpAny_cRoomFor (show 600 < cLine by decide) ?_))
  refine wpAny_bind ((looks_cls hx).here (wpAny_bind ((looks_cls hy).here ?_)))
  split
  · refine wpAny_bind ((looks_subIn X hs).here ?_)
    simp only [Bool.false_eq_true, if_false]
    refine wpAny_bind (wpAny_mono one (fun r s' z => ?_) fun _ _ e => e)
    obtain ⟨v, rfl, hz⟩ := z
    exact wpAny_pure hz
  · rename_i q
    simp at q
end

section
variable {w : World} {dp un : Nat} {gd : Option (List Code)} {outer : List Env} {s : Shared} {Q E : Value → Shared → Prop} {g : Heap} {L : Addr} {m : Str → Option Value} {news : List (Addr × Obj)}
/-- the same over a frame and its ledger -/
theorem told_neK {b e : Bool} {q : Str} {x y : Addr} {o : Obj} {n : Nat} {t : Tok} (hdp : dp ≤ 322) (hu : un ≤ 600) (X2 : (K2 w.params).In g) (F : Fr g L s.heap m) (N : News g L s.heap news) (X : (hd.heap_39 w.params).In g) (hq : Lefts q)
   (hx : (x, o) ∈ news) (hi : instIs b q o) (hy : (y, ({ cls := .type "tuple", data := .seq #[.bool e, .str q t] n } : Obj)) ∈ news) (hb : b = e)
   (ret : ∀ h' tk', Fr g L h' m → News g L h' news → Q (.bool false) { s with heap := h', toks := tk' }) :
  wpAny (model PySem.Challenge.rw_gn5014_01.row.prog w) ({ handled := none, depth := dp, frames := some outer, guards := gd, units := un } : Around) (compareOp .NotEq (.ref x) (.ref y)) Q E s := fun Γ p hΓ => by
  subst hb
  obtain ⟨c, dx, da, sx⟩ := o
  obtain ⟨rfl, ⟨n1, tq, rfl⟩, _⟩ := hi
  exact told_ne (X2.keeps F.keep) (X.keeps F.keep) hq (N _ hx).1 (N _ hy).1 (fun h' tk k => ret h' tk (fr_ext F k) (news_ext N k)) Γ p (in_up hdp hu hΓ)
theorem told_eqK {b : Bool} {q : Str} {x y : Addr} {o : Obj} {n : Nat} {t : Tok} (hdp : dp ≤ 322) (hu : un ≤ 600) (X2 : (K2 w.params).In g) (F : Fr g L s.heap m) (N : News g L s.heap news) (X : (hd.heap_39 w.params).In g)
   (hx : (x, o) ∈ news) (hi : instIs b q o) (hy : (y, ({ cls := .type "tuple", data := .seq #[.bool false, .str (Str.ofString "") t] n } : Obj)) ∈ news) (hb : q = Str.ofString "" ∧ b = false)
   (ret : ∀ h' tk', Fr g L h' m → News g L h' news → Q (.bool true) { s with heap := h', toks := tk' }) :
  wpAny (model PySem.Challenge.rw_gn5014_01.row.prog w) ({ handled := none, depth := dp, frames := some outer, guards := gd, units := un } : Around) (compareOp .Eq (.ref x) (.ref y)) Q E s := fun Γ p hΓ => by
  obtain ⟨rfl, rfl⟩ := hb
  obtain ⟨c, dx, da, sx⟩ := o
  obtain ⟨rfl, ⟨n1, tq, rfl⟩, _⟩ := hi
  exact told_eq (X2.keeps F.keep) (X.keeps F.keep) (N _ hx).1 (N _ hy).1 (fun h' tk k => ret h' tk (fr_ext F k) (news_ext N k)) Γ p (in_up hdp hu hΓ)
end

section
variable {w : World} {p : Program} {loose : List Str} {mean : ExcName → Option Value} {mg mb : Str → Option Value}
  {dp un : Nat} {gd : Option (List Code)} {cn : Str} {cs : Scope} {a : Addr} {ccd : Value} {cl' : List (Str × Addr)} {outer : List Env} {A₀ : Around} {base h₀ : Heap} {L : Addr} {m : Str → Option Value} {s : Shared} {Q E : Value → Shared → Prop}

theorem skip_use
  {line q0 : Str} {nb : Bool} {tl tq : Tok} {rest : List (Addr × Obj)} {ps : Array Value}
  (B : Below A₀ base outer h₀) (F : Fr h₀ L s.heap m) (X : (hd.heap_39 w.params).In h₀) (X2 : (K2 w.params).In h₀)
  (N : News h₀ L s.heap ((138, tabO ps) :: rest)) (T : Top p loose mean mg mb h₀) (hk : cs.kind = .function)
  (C : CodeHd h₀ 142 138) (ok : TabOk skipGenPos ps) (hnp : ∀ p ∈ rest, p.1 ≠ 138) (G : AllBare s.gens)
  (hlen : line.length ≤ 1000) (hq : Lefts q0) (hdp : dp ≤ 320) (hu : un ≤ 500)
  (ret : ∀ x o b q' s' ps', cl q' = scan (cl line) 0 (cl q0) → q'.length ≤ 3 → b = (decide (q0.length ≠ 0 ∨ q'.length ≠ 0) || (!(Builtin.Str.occurrences (hdS line) (Str.ofString ";") 0 (hdS line).length 1).isEmpty && nb && partsB line (Txt.split line (Str.ofString ";")).length)) → instIs b q' o →
     Fr h₀ L s'.heap m → News h₀ L s'.heap ((x, o) :: (138, tabO ps') :: rest) → TabOk skipGenPos ps' → AllBare s'.gens → s'.os = s.os → s'.drawn = s.drawn → Q (.ref x) s') :
  wpAny (model PySem.Challenge.rw_gn5014_01.row.prog w) (ktrTop dp un gd cn cs L a ccd cl' outer) (call (.ref 143) [.str line tl, .str q0 tq, .bool nb]) Q E s :=
  ktr_up hdp hu (skip_part B F X X2 N T hk C ok hnp G hlen hq ret)
end
end Mine
end -- L2

section -- L3
open PySem PySem.W PyProof.Rows
namespace Mine
theorem fresh_L3 : True := by
  w_top off
  k_with_none
  trivial
set_option maxRecDepth 100000
set_option maxHeartbeats 8000000
local macro_rules | `(tactic| walk_at "execs cons") => `(tactic| (k_here; refine toks_gen ?_; intro tk))
local macro_rules | `(tactic| walk_at "execs nil") => `(tactic| (k_here; refine toks_gen ?_; intro tk))
local macro_rules | `(tactic| k_all) => `(tactic| assumption)
local macro_rules | `(tactic| walk_at "call ref") => `(tactic| (k_here; (with_reducible show wpAny _ _ (call (Value.ref _) [Value.ref _, Value.int _ _]) _ _ _); k_dflt (refine' take_use ?k1 ?k2 ?k3 ?k4 ?k5 ?kK ?kD ?kU ?km ?km2 ?kd ?ku ?_; (case k1 => k_asm); (case k2 => k_asm); (case k3 => k_asm); (case k4 => k_asm); (case k5 => k_asm); (case kK => first | exact rfl | assumption); (case kD => assumption); (case kU => (intro od' ol'; exact ⟨_, by k_upd, by k_upd⟩)); (case km => decide); (case km2 => decide); (case kd => exact Nat.le_of_ble_eq_true rfl); (case ku => exact Nat.le_of_ble_eq_true rfl); (intro r' t' od' ol' h' tk' F' N' D' r0' r1'); (try dsimp only at N')); (try k_sweep)))

/-- the law's scope and statements, out of the program -/
def lawParts : Scope × List Stmt := match PySem.Challenge.pw_gn5014_01.main.body.getLast? with
  | some (.FunctionDef _ _ body _ _ _ scope _ _ _) => (scope, body)
  | _ => ({ kind := .function, names := [], isGenerator := false, isCoroutine := false }, [])
def lawFor : Stmt := match lawParts.2 with
  | _ :: _ :: x :: _ => x
  | _ => .Pass ⟨0, 0, 0, 0⟩
def lawIter : Expr := match lawFor with
  | .For _ it _ _ _ => it
  | _ => .Constant .none 0 ⟨0, 0, 0, 0⟩
def lawBody : List Stmt := match lawFor with
  | .For _ _ b _ _ => b
  | _ => []
abbrev lawEnv (L fa : Addr) (cd : Value) : Env := envOf (Str.ofString "law") lawParts.1 L fa cd

abbrev M2 (d : Addr) (q : Str) (tq : Tok) (u : Str → Option Value) : Str → Option Value := fun y =>
  if y = Str.ofString "draw" then some (.ref d) else if y = Str.ofString "quotes" then some (.str q tq) else u y
theorem fr_m2 {g h : Heap} {L d : Addr} {m : Str → Option Value} {q : Str} {tq : Tok} (F : Fr g L h m) (h1 : m (Str.ofString "draw") = some (.ref d)) (h2 : m (Str.ofString "quotes") = some (.str q tq)) : Fr g L h (M2 d q tq m) := by
  have e : M2 d q tq m = m := by
    funext y
    unfold M2
    split
    · rename_i e; rw [e, h1]
    split
    · rename_i e; rw [e, h2]
    · rfl
  rw [e]; exact F

section
variable {w : World} {p : Program} {loose : List Str} {mean : ExcName → Option Value} {mg mb : Str → Option Value}
  {fa L : Addr} {cd : Value} {g : Heap} {s : Shared}

theorem iter_law {E Q : Value → Shared → Prop} {d l : Addr} {od ol : Obj} {ps : Array Value} {q : Str} {tq : Tok} {u : Str → Option Value}
  (B : Below callerA g [] g) (F : Fr g L s.heap (M2 d q tq u)) (X : (hd.heap_39 w.params).In g)
  (N : News g L s.heap [(d, od), (l, ol), (138, tabO ps)]) (T : Top p loose mean mg mb g) (D : DrawIs l od ol) (hdl : @Ne Nat d l) (hzd : @Ne Nat 138 d) (hzl : @Ne Nat 138 l)
  (ret : ∀ (r : Addr) (b : Int) (t₁ u₁ v₁ : Tok) (od' ol' : Obj) (h' : Heap) (tk' : Nat), IsRange h' r 0 (1 + b) 1 t₁ u₁ v₁ → 0 ≤ b → b < 9 → DrawIs l od' ol' → Fr g L h' (M2 d q tq u) → News g L h' [(d, od'), (l, ol'), (138, tabO ps)] → Q (.ref r) { s with heap := h', toks := tk' }) :
  wpAny (model PySem.Challenge.rw_gn5014_01.row.prog w) (callerA.deeper (lawEnv L fa cd)) (eval lawIter (lawEnv L fa cd)) Q E s := by
  revert X; k_fill; intro X
  delta lawEnv
  delta M2 at F
  conv in (occs := *) lawParts.1 => all_goals whnf
  show wpAny _ _ (eval (.Call _ _ _ _) _) _ _ _
  k_steps
  exact ret _ _ _ _ _ _ _ _ _ (by assumption) (by assumption) (by assumption) (by assumption) (by assumption) (by assumption)
end

structure Places (d l I : Addr) : Prop where
  dl : @Ne Nat d l
  zd : @Ne Nat 138 d
  zl : @Ne Nat 138 l
  yd : @Ne Nat I d
  yl : @Ne Nat I l
  zy : @Ne Nat 138 I

section
variable {w : World} {p : Program} {loose : List Str} {mean : ExcName → Option Value} {mg mb : Str → Option Value}
  {fa L : Addr} {cd : Value} {g : Heap} {s : Shared}
/-- what a turn of the law's loop must do -/
def TurnOk (w : World) (fa L : Addr) (cd : Value) (g : Heap) (E E2 : Value → Shared → Prop) : Prop :=
  ∀ {Q : Flow → Shared → Prop} {s : Shared} {d l I : Addr} {od ol oI : Obj} {ps : Array Value} {q : Str} {tq : Tok} {u : Str → Option Value},
  Fr g L s.heap (M2 d q tq u) → News g L s.heap [(d, od), (l, ol), (138, tabO ps), (I, oI)] → TabOk skipGenPos ps → AllBare s.gens → DrawIs l od ol → Places d l I → Lefts q →
  (∀ (q' : Str) (t' : Tok) (u' : Str → Option Value) (od' ol' : Obj) (ps' : Array Value) (s' : Shared), Lefts q' → DrawIs l od' ol' → TabOk skipGenPos ps' → AllBare s'.gens → s'.os = s.os → Fr g L s'.heap (M2 d q' t' u') →
     News g L s'.heap [(d, od'), (l, ol'), (138, tabO ps'), (I, oI)] → Q .next s') →
  wpAny (model PySem.Challenge.rw_gn5014_01.row.prog w) (callerA.deeper (lawEnv L fa cd)) (execs lawBody (lawEnv L fa cd)) Q (fun e s' => wpAny (model PySem.Challenge.rw_gn5014_01.row.prog w) (callerA.deeper (lawEnv L fa cd)) (leaving (lawEnv L fa cd) e) (fun _ s'' => E e s'') (fun e' s'' => E2 e' s'') s') s

theorem law_for {E E2 : Value → Shared → Prop} {Q : Flow → Shared → Prop} {d l : Addr} {od ol : Obj} {ps : Array Value} {q : Str} {tq : Tok} {u : Str → Option Value}
  (turn : TurnOk w fa L cd g E E2)
  (B : Below callerA g [] g) (F : Fr g L s.heap (M2 d q tq u)) (X : (hd.heap_39 w.params).In g)
  (N : News g L s.heap [(d, od), (l, ol), (138, tabO ps)]) (T : Top p loose mean mg mb g) (D : DrawIs l od ol) (hdl : @Ne Nat d l) (hzd : @Ne Nat 138 d) (hzl : @Ne Nat 138 l) (ok : TabOk skipGenPos ps) (G : AllBare s.gens) (hq : Lefts q)
  (ret : ∀ (q' : Str) (t' : Tok) (u' : Str → Option Value) (od' ol' : Obj) (ps' : Array Value) (s' : Shared), Lefts q' → DrawIs l od' ol' → TabOk skipGenPos ps' → AllBare s'.gens → s'.os = s.os → Fr g L s'.heap (M2 d q' t' u') →
     News g L s'.heap [(d, od'), (l, ol'), (138, tabO ps')] → Q .next s') :
  wpAny (model PySem.Challenge.rw_gn5014_01.row.prog w) (callerA.deeper (lawEnv L fa cd)) (exec lawFor (lawEnv L fa cd)) Q (fun e s' => wpAny (model PySem.Challenge.rw_gn5014_01.row.prog w) (callerA.deeper (lawEnv L fa cd)) (leaving (lawEnv L fa cd) e) (fun _ s'' => E e s'') (fun e' s'' => E2 e' s'') s') s := by
  show wpAny _ _ (exec (.For (.Name (Str.ofString "k") _) lawIter lawBody [] _) (lawEnv L fa cd)) _ _ _
  refine for_it ?_
  refine iter_law B F X N T D hdl hzd hzl ?_
  intro r b t₁ u₁ v₁ od₁ ol₁ h₁ tk₁ hr hb0 hb9 D₁ F₁ N₁
  obtain ⟨hsm, n, hn⟩ := range_facts hb0 hb9
  refine wpAny_pyIter_range hr hsm ?_
  have hLlt : L < h₁.objs.size := F₁.ns.lt
  have hgl : ∀ b, h₁.objs.size ≤ b → g.get? b = none := fun b hb => by
    cases q : g.get? b with
    | none => rfl
    | some o' => exact absurd (Heap.lt_size (F₁.keep _ _ q)) (Nat.not_lt.mpr hb)
  have hlt : ∀ p ∈ [(d, od₁), (l, ol₁), (138, tabO ps)], p.1 < h₁.objs.size := fun p hp => Heap.lt_size (N₁ p hp).1
  have P : Places d l h₁.objs.size := ⟨hdl, hzd, hzl, Nat.ne_of_gt (hlt (d, od₁) (by simp)), Nat.ne_of_gt (hlt (l, ol₁) (by simp)), Nat.ne_of_lt (hlt (138, tabO ps) (by simp))⟩
  refine ⟨h₁.objs.size, _, _, _, n, _, _, fun _ s' => ∃ (q' : Str) (t' : Tok) (u' : Str → Option Value) (od' ol' : Obj) (ps' : Array Value), Lefts q' ∧ DrawIs l od' ol' ∧ TabOk skipGenPos ps' ∧ AllBare s'.gens ∧ s'.os = s.os ∧ Fr g L s'.heap (M2 d q' t' u') ∧
     News g L s'.heap [(d, od'), (l, ol'), (138, tabO ps')], rfl, (Walks.range rfl h₁.objs.size 0 1 n).toS, ?_, ?_, ?_, ?_⟩
  · show IsRangeIter _ _ _ _ _
    rw [hn]; simpa using Heap.get?_push_size _ rfl
  · exact ⟨q, tq, u, od₁, ol₁, ps, hq, D₁, ok, G, rfl, F₁.push _, fun p hp => ⟨Heap.get?_push_of_some _ (N₁ p hp).1, (N₁ p hp).2⟩⟩
  · rintro i v s' s₂ hi ⟨t, rfl⟩ ⟨q', t', u', od', ol', ps', hq', D', ok', G', hos, F', N'⟩ mv hst
    have Fs := F'.moved mv (by intro b hb; rw [List.mem_singleton.mp hb]; exact hLlt)
    have ne : ∀ (od' ol' : Obj) (ps' : Array Value), ∀ p ∈ [(d, od'), (l, ol'), (138, tabO ps')], p.1 ∉ [h₁.objs.size] := by
      intro od' ol' ps' p hp hm
      have hm' := List.mem_singleton.mp hm
      rcases List.mem_cons.mp hp with rfl | hp
      · exact P.yd hm'.symm
      rcases List.mem_cons.mp hp with rfl | hp
      · exact P.yl hm'.symm
      rcases List.mem_cons.mp hp with rfl | hp
      · exact P.zy hm'
      cases hp
    have Ns : News g L s₂.heap [(d, od'), (l, ol'), (138, tabO ps'), (h₁.objs.size, rangeItO (0 + ((i + 1 : Nat) : Int) * 1) ((n : Int) - ((i + 1 : Nat) : Int)) 1)] := by
      intro p hp
      rcases List.mem_cons.mp hp with rfl | hp
      · exact ⟨mv.heap _ _ (ne od' ol' ps' _ (by simp)) (N' (d, od') (by simp)).1, (N' (d, od') (by simp)).2⟩
      rcases List.mem_cons.mp hp with rfl | hp
      · exact ⟨mv.heap _ _ (ne od' ol' ps' _ (by simp)) (N' (l, ol') (by simp)).1, (N' (l, ol') (by simp)).2⟩
      rcases List.mem_cons.mp hp with rfl | hp
      · exact ⟨mv.heap _ _ (ne od' ol' ps' _ (by simp)) (N' (138, tabO ps') (by simp)).1, (N' (138, tabO ps') (by simp)).2⟩
      rcases List.mem_cons.mp hp with rfl | hp
      · exact ⟨hst, Nat.ne_of_gt hLlt, hgl _ (Nat.le_refl _)⟩
      cases hp
    have Gs : AllBare s₂.gens := by rw [mv.gens]; exact G'
    refine stN Fs Ns (fun h₃ F₃ N₃ => ?_)
    refine turn (s := ⟨h₃, s₂.gens, s₂.drawn, s₂.toks + 1, s₂.os⟩) (u := _) (fr_m2 F₃ rfl rfl) N₃ ok' Gs D' P hq' ?_
    intro q4 t4 u4 od4 ol4 ps4 s4 hq4 D4 ok4 G4 hos4 F4 N4
    refine .inl ⟨rfl, (N4 (h₁.objs.size, _) (by simp)).1, q4, t4, u4, od4, ol4, ps4, hq4, D4, ok4, G4, hos4.trans (mv.os.trans hos), F4, fun p hp => N4 p ?_⟩
    rcases List.mem_cons.mp hp with rfl | hp
    · simp
    rcases List.mem_cons.mp hp with rfl | hp
    · simp
    rcases List.mem_cons.mp hp with rfl | hp
    · simp
    cases hp
  · rintro s' s₂ ⟨q', t', u', od', ol', ps', hq', D', ok', G', hos, F', N'⟩ mv
    refine ret q' t' u' od' ol' ps' s₂ hq' D' ok' (by rw [mv.gens]; exact G') (mv.os.trans hos) (F'.moved mv (by intro b hb; rw [List.mem_singleton.mp hb]; exact hLlt)) ?_
    intro p hp
    refine ⟨mv.heap _ _ ?_ (N' p hp).1, (N' p hp).2⟩
    intro hm
    have hm' := List.mem_singleton.mp hm
    rcases List.mem_cons.mp hp with rfl | hp
    · exact P.yd hm'.symm
    rcases List.mem_cons.mp hp with rfl | hp
    · exact P.yl hm'.symm
    rcases List.mem_cons.mp hp with rfl | hp
    · exact P.zy hm'
    cases hp
end
end Mine
end -- L3

section -- L4
open PySem PySem.W PyProof.Rows
namespace Mine
theorem fresh_L4 : True := by
  w_top off
  k_with_none
  trivial
set_option maxRecDepth 100000
set_option maxHeartbeats 8000000
section
variable {w : World} {p : Program} {loose : List Str} {mean : ExcName → Option Value} {mg mb : Str → Option Value}
  {dp un : Nat} {gd : Option (List Code)} {cn : Str} {cs : Scope} {a : Addr} {ccd : Value} {cl' : List (Str × Addr)} {outer : List Env} {A₀ : Around} {base h₀ : Heap} {L : Addr} {m : Str → Option Value} {s : Shared} {Q E : Value → Shared → Prop}

theorem row_use
  {d l z y : Addr} {od ol oz oy : Obj} {qs : Str} {tm : Tok}
  (B : Below A₀ base outer h₀) (F : Fr h₀ L s.heap m) (X : (hd.heap_39 w.params).In h₀)
  (N : News h₀ L s.heap [(d, od), (l, ol), (z, oz), (y, oy)]) (T : Top p loose mean mg mb h₀) (hk : cs.kind = .function)
  (D : DrawIs l od ol) (hdl : @Ne Nat d l) (hzd : @Ne Nat z d) (hzl : @Ne Nat z l) (hyd : @Ne Nat y d) (hyl : @Ne Nat y l) (hq : Lefts qs) (hdp : dp ≤ 320) (hu : un ≤ 500)
  (ret : ∀ x text left t1 t2 od' ol' n h' tk', Fr h₀ L h' m → News h₀ L h' [(x, ({ cls := .type "tuple", data := .seq #[.str text t1, .str left t2] n } : Obj)), (d, od'), (l, ol'), (z, oz), (y, oy)] → DrawIs l od' ol' → RowB qs text left →
     Q (.ref x) { s with heap := h', toks := tk' }) :
  wpAny (model PySem.Challenge.rw_gn5014_01.row.prog w) (ktrTop dp un gd cn cs L a ccd cl' outer) (call (.ref 176) [.ref d, .str qs tm]) Q E s := by
  exact ktr_up hdp hu (row_spec B F X N T hk D hdl hzd hzl hyd hyl hq ret)

/-- the same for the law: by membership of the ledger -/
theorem row_law
  {d l I : Addr} {od ol oI : Obj} {ps : Array Value} {qs : Str} {tm : Tok} {news : List (Addr × Obj)}
  (P : Places d l I) (B : Below A₀ base outer h₀) (F : Fr h₀ L s.heap m) (X : (hd.heap_39 w.params).In h₀)
  (N : News h₀ L s.heap news) (T : Top p loose mean mg mb h₀) (hk : cs.kind = .function)
  (D : DrawIs l od ol) (m1 : (d, od) ∈ news) (m2 : (l, ol) ∈ news) (m3 : (138, tabO ps) ∈ news) (m4 : (I, oI) ∈ news) (hq : Lefts qs) (hdp : dp ≤ 320) (hu : un ≤ 500)
  (ret : ∀ x text left t1 t2 od' ol' n h' tk', Fr h₀ L h' m → News h₀ L h' [(x, ({ cls := .type "tuple", data := .seq #[.str text t1, .str left t2] n } : Obj)), (d, od'), (l, ol'), (138, tabO ps), (I, oI)] → DrawIs l od' ol' → RowB qs text left →
     Q (.ref x) { s with heap := h', toks := tk' }) :
  wpAny (model PySem.Challenge.rw_gn5014_01.row.prog w) (ktrTop dp un gd cn cs L a ccd cl' outer) (call (.ref 176) [.ref d, .str qs tm]) Q E s :=
  row_use B F X (cb_drop N (List.forall_mem_cons.mpr ⟨m1, List.forall_mem_cons.mpr ⟨m2, List.forall_mem_cons.mpr ⟨m3, List.forall_mem_cons.mpr ⟨m4, List.forall_mem_nil _⟩⟩⟩⟩)) T hk D P.dl P.zd P.zl P.yd P.yl hq hdp hu ret
theorem skip_law
  {d l I : Addr} {od ol oI : Obj} {line q0 : Str} {nb : Bool} {tl tq : Tok} {news : List (Addr × Obj)} {ps : Array Value}
  (P : Places d l I) (B : Below A₀ base outer h₀) (F : Fr h₀ L s.heap m) (X : (hd.heap_39 w.params).In h₀) (X2 : (K2 w.params).In h₀)
  (N : News h₀ L s.heap news) (T : Top p loose mean mg mb h₀) (hk : cs.kind = .function)
  (D : DrawIs l od ol) (m1 : (d, od) ∈ news) (m2 : (l, ol) ∈ news) (m3 : (138, tabO ps) ∈ news) (m4 : (I, oI) ∈ news)
  (C : CodeHd h₀ 142 138) (ok : TabOk skipGenPos ps) (G : AllBare s.gens)
  (hlen : line.length ≤ 1000) (hq : Lefts q0) (hdp : dp ≤ 320) (hu : un ≤ 500)
  (ret : ∀ x o b q' s' ps', cl q' = scan (cl line) 0 (cl q0) → b = (decide (q0.length ≠ 0 ∨ q'.length ≠ 0) || (!(Builtin.Str.occurrences (hdS line) (Str.ofString ";") 0 (hdS line).length 1).isEmpty && nb && partsB line (Txt.split line (Str.ofString ";")).length)) → instIs b q' o →
     Fr h₀ L s'.heap m → News h₀ L s'.heap [(x, o), (138, tabO ps'), (d, od), (l, ol), (I, oI)] → TabOk skipGenPos ps' → AllBare s'.gens → s'.os = s.os → Q (.ref x) s') :
  wpAny (model PySem.Challenge.rw_gn5014_01.row.prog w) (ktrTop dp un gd cn cs L a ccd cl' outer) (call (.ref 143) [.str line tl, .str q0 tq, .bool nb]) Q E s :=
  skip_use B F X X2 (cb_drop N (List.forall_mem_cons.mpr ⟨m3, List.forall_mem_cons.mpr ⟨m1, List.forall_mem_cons.mpr ⟨m2, List.forall_mem_cons.mpr ⟨m4, List.forall_mem_nil _⟩⟩⟩⟩)) T hk C ok
    (List.forall_mem_cons.mpr ⟨P.zd.symm, List.forall_mem_cons.mpr ⟨P.zl.symm, List.forall_mem_cons.mpr ⟨P.zy.symm, List.forall_mem_nil _⟩⟩⟩) G hlen hq hdp hu
    (fun x o b q' s' ps' h1 _ h2 h3 h4 h5 h6 h7 h8 _ => ret x o b q' s' ps' h1 h2 h3 h4 h5 h6 h7 h8)
end

local macro_rules | `(tactic| walk_at "execs cons") => `(tactic| (k_here; refine toks_gen ?_; intro tk))
local macro_rules | `(tactic| walk_at "execs nil") => `(tactic| (k_here; refine toks_gen ?_; intro tk))
local macro_rules | `(tactic| k_all) => `(tactic| assumption)
local macro_rules | `(tactic| walk_at "call ref") => `(tactic| (k_here; (with_reducible show wpAny _ _ (call (Value.ref _) [Value.ref _, Value.int _ _]) _ _ _); k_dflt (refine' take_use ?k1 ?k2 ?k3 ?k4 ?k5 ?kK ?kD ?kU ?km ?km2 ?kd ?ku ?_; (case k1 => k_asm); (case k2 => k_asm); (case k3 => k_asm); (case k4 => k_asm); (case k5 => k_asm); (case kK => first | exact rfl | assumption); (case kD => assumption); (case kU => (intro od' ol'; exact ⟨_, by k_upd, by k_upd⟩)); (case km => decide); (case km2 => decide); (case kd => exact Nat.le_of_ble_eq_true rfl); (case ku => exact Nat.le_of_ble_eq_true rfl); (intro r' t' od' ol' h' tk' F' N' D' r0' r1'); (try dsimp only at N')); (try k_sweep)))
local macro_rules | `(tactic| walk_at "call ref") => `(tactic| (k_here; (with_reducible show wpAny _ _ (call (Value.ref _) [Value.ref _, Value.str _ _]) _ _ _); k_dflt (refine' row_law ?kP ?k1 ?k2 ?k3 ?k4 ?k5 ?kK ?kD ?m1 ?m2 ?m3 ?m4 ?km ?kd ?ku ?_; (case kP => assumption); (case k1 => k_asm); (case k2 => k_asm); (case k3 => k_asm); (case k4 => k_asm); (case k5 => k_asm); (case kK => exact rfl); (case kD => assumption); (case m1 => k_mem); (case m2 => k_mem); (case m3 => k_mem); (case m4 => k_mem); (case km => assumption); (case kd => exact Nat.le_of_ble_eq_true rfl); (case ku => exact Nat.le_of_ble_eq_true rfl); (intro x' text' left' t1' t2' od' ol' n' h' tk' F' N' D' R')); (have hl' := R'.len); (have hf' := R'.lefts); (try k_sweep)))

theorem parted_fact : ∀ t ∈ partedTexts, (if (Txt.slice t none (some 1) != Str.ofString "c") = true then (partedB t == !([Str.ofString "\x69mport a; \x69mport b", Str.ofString "\x69mport a;"].any fun x => x == t)) else !(partedB t)) = true := by
  decide +kernel
section
variable {b e x y pB : Bool} {r : Int}
theorem kbF (h : b = (decide (0 < r) && pB)) (ha : ¬ 0 < r) : b = decide (0 < r) := by rw [h, decide_eq_false ha, Bool.false_and]
theorem kbP1 {t : Str} (h : b = (decide (0 < r) && partedB t)) (ht : t ∈ partedTexts) (ha : 0 < r) (hs : (Txt.slice t none (some 1) != Str.ofString "c") = true) : b = !([Str.ofString "\x69mport a; \x69mport b", Str.ofString "\x69mport a;"].any fun x => x == t) := by
  have := parted_fact t ht
  rw [if_pos hs, beq_iff_eq] at this
  rw [h, decide_eq_true ha, Bool.true_and, this]
theorem kbP2 {t : Str} (h : b = (decide (0 < r) && partedB t)) (ht : t ∈ partedTexts) (ha : 0 < r) (hs : (Txt.slice t none (some 1) != Str.ofString "c") = false) : b = (Txt.slice t none (some 1) != Str.ofString "c") := by
  have := parted_fact t ht
  rw [hs] at this
  rw [h, decide_eq_true ha, Bool.true_and, hs]
  simpa using this
theorem kbR (h : b = (x || y)) (hx : x = false) : b = y := by rw [h, hx, Bool.false_or]
theorem kbS (h : b = (x || y)) (hx : x = false) (hy : y = false) : b = false := by rw [h, hx, hy]; rfl
theorem kbT (h : b = (x || y)) (hx : x = true) : b = x := by rw [h, hx]; rfl
end
theorem ptk {k : Nat} (h : k < partedTexts.length) : partedTexts.getD k Str.empty ∈ partedTexts := by
  rw [List.getD_eq_getElem?_getD, List.getElem?_eq_getElem h]; exact List.getElem_mem h
theorem parted_len {t : Str} (h : t ∈ partedTexts) : t.length ≤ 1000 := by simpa using (parted_ok t h).2.1
local macro_rules | `(tactic| walk_at "call ref") => `(tactic| (k_here; (with_reducible show wpAny _ _ (call (Value.ref _) [Value.str _ _, Value.str _ _, Value.bool _]) _ _ _); k_dflt (refine' skip_law ?kP ?k1 ?k2 ?k3 ?kX2 ?k4 ?k5 ?kK ?kD ?m1 ?m2 ?m3 ?m4 ?kC ?kO ?kG ?kl ?km ?kd ?ku ?_; (case kP => assumption); (case k1 => k_asm); (case k2 => k_asm); (case k3 => k_asm); (case kX2 => assumption); (case k4 => k_asm); (case k5 => k_asm); (case kK => exact rfl); (case kD => assumption); (case m1 => k_mem); (case m2 => k_mem); (case kO => assumption); (case m3 => k_mem); (case m4 => k_mem); (case kC => assumption); (case kG => assumption); (case kl => assumption); (case km => assumption); (case kd => exact Nat.le_of_ble_eq_true rfl); (case ku => exact Nat.le_of_ble_eq_true rfl); (intro x' o' b' q' s' ps' h1' hb' hi' F' N' ok' G' os'); (obtain ⟨h', g', d', tk', o9'⟩ := s'); (dsimp only at F' N' G' os'); (subst os'); (first | (rename RowB _ _ _ => R9; obtain ⟨e9, b9⟩ := row_told R9 h1' hb') | (rename _ ∈ partedTexts => M9; obtain ⟨e9, b9⟩ := part_told M9 h1' hb')); (clear h1' hb'); (subst e9); (try dsimp only); (try k_sweep))))
section
variable {prog : Program} {w : World} {A : Around} {E : Value → Shared → Prop} {s : Shared} {value slice : PySem.Expr} {l : Addr} {vs : List Value} {i : Int} {u : Tok} {Q : Value → Shared → Prop}
theorem item_parted (hl : s.heap.IsList l vs.toArray) (hw : StrsAre vs partedTexts) (h0 : 0 ≤ i) (h1 : i < 5) (h : ∀ tx t', tx ∈ partedTexts → tx.length ≤ 1000 → Q (.str tx t') s)
    (hs : subscripted slice false (.ref l) (.int i u) = operate [.ref l, .int i u] (getItem (.ref l) (.int i u)) := by with_unfolding_all rfl) :
    wpAny (model prog w) A (subscriptTail value slice (.ref l) (.int i u)) Q E s :=
  KTb.item_list hl hw h0 (by show i < (5 : Int); exact h1) (by omega) (fun t' lt => h _ t' (ptk lt) (parted_len (ptk lt))) hs
end
local macro_rules | `(tactic| walk_at "subscriptTail") => `(tactic| (k_here; (with_reducible show wpAny _ _ (subscriptTail _ _ (Value.ref _) (Value.int _ _)) _ _ _); k_dflt (refine' item_parted ?kl ?kw ?k0 ?k1 ?_; (case kl => exact News.isList (by k_asm) (by k_mem)); (case kw => exact .cons _ _ (.cons _ _ (.cons _ _ (.cons _ _ (.cons _ _ .nil))))); (case k0 => omega); (case k1 => omega)); intro tx' t' htx' hl'))
local macro_rules | `(tactic| walk_at "subscriptTail") => `(tactic| (k_here; (with_reducible show wpAny _ _ (subscriptTail _ (Expr.Slice none (some _) none _) (Value.str _ _) (Value.ref _)) _ _ _); (with_reducible rename Fr _ _ _ _ => F'); (with_reducible rename News _ _ _ _ => N'); (refine slice_strN_ns (hsz := ?hsz) (s := ⟨_, _, _, _, _⟩) F' N' ?_); (case hsz => exact size1000 (by assumption)); intro _ _ _ _ _))
local macro_rules | `(tactic| walk_at "compareOp") => `(tactic| (k_here; (with_reducible show wpAny _ _ (compareOp CmpOp.NotEq (Value.ref _) (Value.ref _)) _ _ _); k_dflt (refine' told_neK ?kd ?ku ?kX2 ?k2 ?k4 ?k3 ?kq ?m1 ?ki ?m2 ?kb ?_; (case kd => exact Nat.le_of_ble_eq_true rfl); (case ku => exact Nat.le_of_ble_eq_true rfl); (case kX2 => assumption); (case k2 => k_asm); (case k4 => k_asm); (case k3 => k_asm); (case ki => assumption); (case m1 => k_mem); (case m2 => k_mem); (case kq => assumption); (case kb => first | (refine' kbP1 ?h1 ?h2 ?h3 ?h4; (case h1 => with_reducible assumption); (case h2 => with_reducible assumption); (case h3 => with_reducible assumption); (case h4 => with_reducible assumption)) | (refine' kbP2 ?h1 ?h2 ?h3 ?h4; (case h1 => with_reducible assumption); (case h2 => with_reducible assumption); (case h3 => with_reducible assumption); (case h4 => with_reducible assumption)) | (refine' kbF ?h1 ?h2; (case h1 => with_reducible assumption); (case h2 => with_reducible assumption)) | (refine' kbS ?h1 ?h2 ?h3; (case h1 => with_reducible assumption); (case h2 => decide +kernel); (case h3 => with_reducible assumption)) | (refine' kbR ?h1 ?h2; (case h1 => with_reducible assumption); (case h2 => decide +kernel)) | (refine' kbT ?h1 ?h2; (case h1 => with_reducible assumption); (case h2 => first | with_reducible assumption | decide +kernel))); (intro h' tk' F' N')); (try k_sweep)))

section
variable {w : World} {p : Program} {loose : List Str} {mean : ExcName → Option Value} {mg mb : Str → Option Value}
  {fa L : Addr} {cd : Value} {g : Heap}
theorem turn_spec {E E2 : Value → Shared → Prop}
  (B : Below callerA g [] g) (X : (hd.heap_39 w.params).In g) (X2 : (K2 w.params).In g) (T : Top p loose mean mg mb g) (C : CodeHd g 142 138) : TurnOk w fa L cd g E E2 := by
  unfold TurnOk
  revert X; k_fill; intro X
  intro Q s d l I od ol oI ps q tq u F N ok G D P hq ret
  have p1 := P.dl
  have p2 := P.zd
  have p3 := P.zl
  have p4 := P.yd
  have p5 := P.yl
  have p6 := P.zy
  delta lawEnv
  delta M2 at F
  conv in (occs := *) lawParts.1 => all_goals whnf
  show wpAny _ _ (execs [_, _, _, _, _, _] _) _ _ _
  k_unmd
  have hq' := hq
  rcases hq with rfl | hqq
  rotate_left
  have hqn : (q != Str.ofString "") = true := tri_ne hqq
  have hqe : (q == Str.ofString "") = false := tri_eq hqq
  all_goals k_steps
  all_goals (
    refine ret _ _ _ _ _ _ _ ?hl ?hD ?hO ?hG ?hos (fr_m2 (by assumption) rfl rfl) (cb_drop (by assumption) (List.forall_mem_cons.mpr ⟨by k_mem, List.forall_mem_cons.mpr ⟨by k_mem, List.forall_mem_cons.mpr ⟨by k_mem, List.forall_mem_cons.mpr ⟨by k_mem, List.forall_mem_nil _⟩⟩⟩⟩))
    case hl => assumption
    case hD => assumption
    case hO => assumption
    case hG => assumption
    case hos => rfl)
end
end Mine
end -- L4

section -- L1
open PySem PySem.W PyProof.Rows
namespace Mine
theorem fresh_L1 : True := by
  w_top off
  k_with_none
  trivial
set_option maxRecDepth 100000
set_option maxHeartbeats 8000000

/-- the end of the law: True, the older objects kept but for skip_line's code table -/
def LawEnd (s₁ : Shared) (r : Result) (s' : Shared) : Prop :=
  r = .ok (.ret (.bool true)) ∧ (∀ b o, (ghostOf s₁.heap [(142, 138)]).get? b = some o → s'.heap.get? b = some o) ∧ s'.os = s₁.os ∧ AllBare s'.gens ∧ GrownAt 138 s'.heap
theorem law_post {M : Model} {A : Around} {cd : Code} {s s₁ : Shared} {cw : ClaimW} {cl : Str → Option Addr} {mean : ExcName → Option Value} {args : List WData} (hT : TabsAt [(142, 138)] s₁.heap) (hr : ∀ x, cw.raises args x = false) (hp : cw.post args (.bool true) args = true)
    (h : codeAny M A cd (LawEnd s₁) s) : codeAny M A cd (GoodWG cw cl mean args s₁) s :=
  codeAny_mono h fun r s' ⟨hc, hk, hos, hg, hgr⟩ => by
    have keep : ∀ (b : Addr) (o : Obj), b ≠ 138 → s₁.heap.get? b = some o → s'.heap.get? b = some o := fun b o hb e => hk b o (ghost_ne e (by simpa using hb))
    obtain ⟨hC, hP⟩ := hT (142, 138) (.head _)
    obtain ⟨ps, hps⟩ := hgr
    refine ⟨.inl ⟨_, .bool true, [], hc, hr, .bool _, hp, fun _ => ⟨List.nodup_nil, fun _ h => nomatch h⟩⟩, ⟨fun b o e => ?_, fun b o e => ?_⟩, hos, hg⟩
    · by_cases hb : b = 138
      · subst hb
        rw [hP] at e
        cases e
        exact .inr (.inl ⟨(hC.tab hP).isCodeTable, rfl, #[], ps, rfl, by rw [Array.empty_append]; exact hps⟩)
      · exact .inl (keep b o hb e)
    · by_cases hb : b = 138
      · subst hb; exact ⟨_, hps⟩
      · exact ⟨o, keep b o hb e⟩

local macro_rules | `(tactic| walk_at "execs cons") => `(tactic| (k_here; refine toks_gen ?_; intro tk))
local macro_rules | `(tactic| walk_at "execs nil") => `(tactic| (k_here; refine toks_gen ?_; intro tk))
local macro_rules | `(tactic| k_all) => `(tactic| assumption)
theorem drawIs_cls {l : Addr} {od ol : Obj} (D : DrawIs l od ol) : od.cls = .type "list" ∧ ol.cls = .type "list" := by
  obtain ⟨vs, ns, sd, t, n1, n2, rfl, rfl, _⟩ := D
  exact ⟨rfl, rfl⟩
theorem draw_places {g h : Heap} {L d l : Addr} {od ol : Obj} {ps : Array Value} (D : DrawIs l od ol) (N : News g L h [(d, od), (l, ol), (138, tabO ps)]) : @Ne Nat d l ∧ @Ne Nat 138 d ∧ @Ne Nat 138 l := by
  obtain ⟨c1, c2⟩ := drawIs_cls D
  refine ⟨News.twoPlaces N (p := (d, od)) (q := (l, ol)) (by simp) (by simp) (drawIs_ne D), News.twoPlaces N (p := (138, tabO ps)) (q := (d, od)) (by simp) (by simp) ?_, News.twoPlaces N (p := (138, tabO ps)) (q := (l, ol)) (by simp) (by simp) ?_⟩
  · rintro rfl; cases c1
  · rintro rfl; cases c2
local macro_rules | `(tactic| walk_at "call ref") => `(tactic| (k_here; (with_reducible show wpAny _ _ (call (Value.ref _) [Value.ref _]) _ _ _); k_dflt (refine' draw_core ?k1 ?k2 ?k3 ?k4 ?k5 ?kK ?kS ?kI ?kl ?kd ?ku ?_; (case k1 => k_asm); (case k2 => k_asm); (case k3 => k_asm); (case k4 => k_asm); (case k5 => k_asm); (case kK => exact rfl); (case kS => assumption); (case kI => assumption); (case kl => assumption); (case kd => exact Nat.le_of_ble_eq_true rfl); (case ku => exact Nat.le_of_ble_eq_true rfl); (intro d' l' od' ol' h' tk' F' N' D'); (have n9 := draw_places D' N'); (obtain ⟨n1', n2', n3'⟩ := n9); (try k_sweep))))
local macro_rules | `(tactic| walk_at "exec For Name Call cons nil") => `(tactic| (k_here; (with_reducible show wpAny _ _ (exec (Stmt.For _ _ _ _ _) _) _ _ _); k_dflt (refine' law_for ?kT ?k1 (fr_m2 ?k2 ?e1 ?e2) ?k3 ?k4 ?k5 ?kD ?n1 ?n2 ?n3 ?kO ?kG ?kq ?_; (case k1 => k_asm); (case k2 => k_asm); (case e1 => exact rfl); (case e2 => exact rfl); (case k3 => k_asm); (case k4 => k_asm); (case k5 => k_asm); (case kD => assumption); (case n1 => assumption); (case n2 => assumption); (case n3 => assumption); (case kO => assumption); (case kG => assumption); (case kq => exact Or.inl rfl); (case kT => exact turn_spec (by assumption) (by assumption) (by assumption) (by assumption) (by assumption)); (intro q' t' u' od' ol' ps' s' hq' D' ok' G' os' F' N'); (obtain ⟨h', g', d', tk', o9'⟩ := s'); (dsimp only at F' N' G' os'); (subst os'); (delta M2 at F'); (try dsimp only); (try k_sweep))))
local macro_rules | `(tactic| walk_at "call ref") => `(tactic| (k_here; (with_reducible show wpAny _ _ (call (Value.ref _) [Value.str _ _, Value.str _ _, Value.bool _]) _ _ _); k_dflt (refine' skip_use ?k1 ?k2 ?k3 ?kX2 ?k4 ?k5 ?kK ?kC ?kO ?kn ?kG ?kl ?km ?kd ?ku ?_; (case k1 => k_asm); (case k2 => k_asm); (case k3 => k_asm); (case kX2 => assumption); (case k5 => k_asm); (case kK => exact rfl); (case kO => assumption); (case k4 => exact news_cut (news_cut (by assumption))); (case kn => exact fun _ h => nomatch h); (case kC => assumption); (case kG => assumption); (case kl => decide +kernel); (case km => exact Or.inl rfl); (case kd => exact Nat.le_of_ble_eq_true rfl); (case ku => exact Nat.le_of_ble_eq_true rfl); (intro x' o' b' q' s' ps' h1' _ hb' hi' F' N' ok' G' os' _); (obtain ⟨h', g', d', tk', o9'⟩ := s'); (dsimp only at F' N' G' os'); (subst os'); (have e9 := last_told h1' hb'); (clear h1' hb'); (try dsimp only))))
local macro_rules | `(tactic| walk_at "compareOp") => `(tactic| (k_here; (with_reducible show wpAny _ _ (compareOp CmpOp.Eq (Value.ref _) (Value.ref _)) _ _ _); k_dflt (refine' told_eqK ?kd ?ku ?kX2 ?k2 ?k4 ?k3 ?m1 ?ki ?m2 ?kb ?_; (case kd => exact Nat.le_of_ble_eq_true rfl); (case ku => exact Nat.le_of_ble_eq_true rfl); (case kX2 => assumption); (case k2 => k_asm); (case k4 => k_asm); (case k3 => k_asm); (case ki => assumption); (case m1 => k_mem); (case m2 => k_mem); (case kb => assumption); (intro h' tk' F' N'))))

section
variable {w : World} {p : Program} {loose : List Str} {mean : ExcName → Option Value} {mg mb : Str → Option Value}
  {fa L l : Addr} {cd : Value} {g : Heap} {s : Shared}
theorem law_spec {E E2 : Value → Shared → Prop} {Q : Flow → Shared → Prop} {vs : List Value} {ns : List Int}
  (B : Below callerA g [] g) (F : Fr g L s.heap (fun y => List.lookup y [(Str.ofString "script", Value.ref l)].reverse)) (X : (hd.heap_39 w.params).In g) (X2 : (K2 w.params).In g)
  (N : News g L s.heap [(138, tabO #[])]) (T : Top p loose mean mg mb g) (C : CodeHd g 142 138) (G : AllBare s.gens) (hS : g.IsList l vs.toArray) (hI : IntsAre vs ns) (hlen : ns.length ≤ 63)
  (ret : ∀ (m' : Str → Option Value) (ps' : Array Value) (s' : Shared), AllBare s'.gens → s'.os = s.os → Fr g L s'.heap m' → s'.heap.get? 138 = some (tabO ps') → Q (.ret (.bool true)) s') :
  wpAny (model PySem.Challenge.rw_gn5014_01.row.prog w) (callerA.deeper (lawEnv L fa cd)) (execs lawParts.2 (lawEnv L fa cd)) Q (fun e s' => wpAny (model PySem.Challenge.rw_gn5014_01.row.prog w) (callerA.deeper (lawEnv L fa cd)) (leaving (lawEnv L fa cd) e) (fun _ s'' => E e s'') (fun e' s'' => E2 e' s'') s') s := by
  revert X; k_fill; intro X
  have ok0 : TabOk skipGenPos #[] := ⟨True.intro, .inl rfl⟩
  delta lawEnv
  conv in (occs := *) lawParts.1 => all_goals whnf
  show wpAny _ _ (execs [_, _, _, _] _) _ _ _
  k_unmd
  k_steps
  exact ret _ _ _ (by assumption) rfl (by assumption) (News.get (by assumption) (by k_mem))
end

theorem hd_all (P : Params) : (hd.heap_39 P).map (fun p => (hdx.heap_39 P).lookup p.1) = (hd.heap_39 P).map (fun p => some p.2) := by kernel_rfl
theorem hd_in {P : Params} {h : Heap} (X : (hdx.heap_39 P).In h) : (hd.heap_39 P).In h := fun a o e =>
  X a o (List.map_inj_left.mp (hd_all P) (a, o) (mem_of_lookupK e))
theorem lookup_filter {f : Addr → Bool} {a : Addr} {o : Obj} : ∀ {K : Frag}, (K.filter fun p => f p.1).lookup a = some o → K.lookup a = some o ∧ f a = true
  | [], e => by cases e
  | (b, x) :: r, e => by
    rw [List.filter_cons] at e
    by_cases hb : f b = true
    · rw [if_pos hb, List.lookup_cons] at e
      rw [List.lookup_cons]
      cases hab : a == b with
      | true => rw [hab] at e; exact ⟨e, by rw [eq_of_beq hab]; exact hb⟩
      | false => rw [hab] at e; exact lookup_filter e
    · rw [if_neg hb] at e
      obtain ⟨e1, e2⟩ := lookup_filter e
      rw [List.lookup_cons]
      cases hab : a == b with
      | true => rw [eq_of_beq hab] at e2; exact absurd e2 hb
      | false => exact ⟨e1, e2⟩
theorem k2_in {P : Params} {h : Heap} (X : (hdx.heap_39 P).In h) : (K2 P).In (ghostOf h [(142, 138)]) := fun a o e => by
  obtain ⟨e1, e2⟩ := lookup_filter (f := fun a => !(Nat.beq a 138)) e
  refine ghost_ne (X a o e1) ?_
  rintro hm
  rcases List.mem_cons.mp hm with rfl | hm
  · cases e2
  · cases hm

theorem law_holds : PySem.Challenge.rw_gn5014_01.Holds := hdx (by
  k_fill
  intro w s₀ s₁ mg mb G Y fa o pm cd doc dV kV ho hd hcd hD hmg hg args vals as hpre hlay hrd hwl hlo
  have KX := kIn_of Y
  have V := (Ground.X G).2
  refine Ground.open G ?_
  intro T B D TE TW
  try (refine guard_noD D (by decide +kernel) ?_; clear D)
  have hT9 : TabsAt [(142, 138)] s₁.heap := List.forall_mem_cons.mpr ⟨⟨codeHd_of_K (c := 142) (P := 138) KX (by kernel_rfl), KX 138 _ (by kernel_rfl)⟩, fun _ h => nomatch h⟩
  obtain ⟨_, _, he, _⟩ := based_of_top T rfl hmg ho hd
  clear hmg
  wrow_args hpre hlay hrd hwl hlo
  refine enter_call ?_
  w_top on
  refine law_post hT9 (fun _ => rfl) ?hp ?_
  case hp => first | (with_unfolding_all rfl) | kernel_rfl | (simp; done)
  w_call any ho hd hcd hD T F
  clear hd
  refine law_spec (ghost_below hT9) (ghost_fr hT9 F) ?hX ?hX2 (ghost_news hT9 F (by assumption)) (ghost_top hT9 T) (ghost_code hT9).1 ?hG (ghost_list hT9 (by assumption)) (by assumption) ?hn ?hr
  case hX => exact ghost_K hT9 (hd_in KX) (by kernel_rfl)
  case hX2 => exact k2_in KX
  case hG => exact AllBare.of_eq hg
  case hn => omega
  case hr => exact fun m' ps' s' G' os' F' hP => ⟨rfl, F'.keep, os', G', ps', hP⟩)
end Mine
end -- L1

theorem PySem.Challenge.cw_gn5014_01_holds : PySem.Challenge.rw_gn5014_01.Holds := by
  exact Mine.law_holds
