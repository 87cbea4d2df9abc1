import PyProof.Rows.All
import Wide.All
import OpenK.AllK
import Wide.FinOn
import PyProof.Rows.WhileGen
import PyProof.Rows.StrSplitCount
import PySem.Challenge.RW_in0155_01
open PySem PySem.W PyProof.Rows
set_option Elab.async false
set_option maxRecDepth 100000
set_option maxHeartbeats 8000000
namespace Mine
open_top hd for PySem.Challenge.rw_in0155_01
end Mine
open PySem PySem.W PyProof.Rows PySem.Calls PySem.Spec
set_option maxRecDepth 100000
namespace Mine

/-- a call of a def of the text, from any frame with room for `lv` levels: it comes back with the value `R`, and nothing of the ledger is changed -/
def ClaimV (w : World) (lv : Nat) (f : Addr) (vs : List Value) (R : Tok → Value) : Prop :=
  ∀ (p : Program) (loose : List Str) (mean : ExcName → Option Value) (mg mb : Str → Option Value) (news : List (Addr × Obj))
    (dp un : Nat) (gd : Option (List Code)) (cn : Str) (cs : Scope) (a : Addr) (ccd : Value) (cl : List (Str × Addr)) (outer : List Env) (A₀ : Around) (base h₀ : Heap) (L : Addr) (m : Str → Option Value) (s : Shared) (Q E : Value → Shared → Prop),
    Below A₀ base outer h₀ → Fr h₀ L s.heap m → (hd.heap_39 w.params).In h₀ → News h₀ L s.heap news → Top p loose mean mg mb h₀ → cs.kind = .function → dp + 10 * lv < recursionLimit → un + 100 * lv < cLine →
    (∀ (t : Tok) (h' : Heap) (tk' : Nat), Fr h₀ L h' m → News h₀ L h' news → Q (R t) { s with heap := h', toks := tk' }) →
    wpAny (model PySem.Challenge.rw_in0155_01.row.prog w) (ktrTop dp un gd cn cs L a ccd cl outer) (call (.ref f) vs) Q E s

theorem claim_use {w : World} {lv : Nat} {f : Addr} {vs : List Value} {R : Tok → Value} {p : Program} {loose : List Str} {mean : ExcName → Option Value} {mg mb : Str → Option Value} {news : List (Addr × Obj)}
    {dp un : Nat} {gd : Option (List Code)} {cn : Str} {cs : Scope} {a : Addr} {ccd : Value} {cl : List (Str × Addr)} {outer : List Env} {A₀ : Around} {base h₀ : Heap} {L : Addr} {m : Str → Option Value} {s : Shared} {Q E : Value → Shared → Prop}
    (C : ClaimV w lv f vs R) (B : Below A₀ base outer h₀) (F : Fr h₀ L s.heap m) (X : (hd.heap_39 w.params).In h₀) (N : News h₀ L s.heap news) (T : Top p loose mean mg mb h₀) (hk : cs.kind = .function)
    (hd : dp + 10 * lv < recursionLimit) (hu : un + 100 * lv < cLine) (ret : ∀ (t : Tok) (h' : Heap) (tk' : Nat), Fr h₀ L h' m → News h₀ L h' news → Q (R t) { s with heap := h', toks := tk' }) :
    wpAny (model PySem.Challenge.rw_in0155_01.row.prog w) (ktrTop dp un gd cn cs L a ccd cl outer) (call (.ref f) vs) Q E s :=
  C p loose mean mg mb news dp un gd cn cs a ccd cl outer A₀ base h₀ L m s Q E B F X N T hk hd hu ret

/-- the signs that `_law_marked` counts -/
noncomputable def isMark (c : Nat) : Bool := [40, 41, 91, 93, 123, 125, 63, 43, 45, 124, 94, 36, 92, 46, 38, 126, 35].contains c
noncomputable def markN (l : List Nat) : Nat := (l.filter isMark).length

end Mine
open PySem PySem.W PyProof.Rows PySem.Calls PySem.Spec
set_option Elab.async false
set_option maxRecDepth 100000
set_option maxHeartbeats 8000000
namespace Mine
theorem markIn (x : Str) : ((signs x).filter (fun a => !(Builtin.Str.occurrences (Str.ofString "()[]{}?+-|^$\\.&~#") a 0 (Str.ofString "()[]{}?+-|^$\\.&~#").length 1).isEmpty)).length = markN x.cps.toList := by
  have e : ∀ c : Nat, (!(Builtin.Str.occurrences (Str.ofString "()[]{}?+-|^$\\.&~#") ⟨#[c]⟩ 0 (Str.ofString "()[]{}?+-|^$\\.&~#").length 1).isEmpty) = isMark c := by
    intro c
    rw [StrLaws.found_one]
    rw [show (Str.ofString "()[]{}?+-|^$\\.&~#").cps.toList = [40, 41, 91, 93, 123, 125, 63, 43, 45, 124, 94, 36, 92, 46, 38, 126, 35] from by decide +kernel]
    rw [Bool.eq_iff_iff]
    simp [isMark]
  unfold signs markN
  rw [List.filter_map, List.length_map]
  congr 1
  refine List.filter_congr fun c _ => ?_
  exact e c
theorem marked_spec (w : World) (x : Str) (t : Tok) (hx : x.length ≤ 4096) : ClaimV w 1 59 [.str x t] (fun t => .int (markN x.cps.toList) t) := by
  k_with_none
  w_top off
  unfold ClaimV
  intro p loose mean mg mb news
  k_fill
  intros
  rename_i hret
  refine wpAny_call ?_
  k_dflt cell_enter
  k_steps
  rename CarriedAll _ _ => hC
  have hl := hC.length_eq
  rw [List.length_map, markIn] at hl
  have hl2 : markN x.cps.toList ≤ 4096 := by
    refine Nat.le_trans (List.length_filter_le _ _) ?_
    simpa [Str.length] using hx
  refine len_list (by assumption) (by rw [List.size_toArray]; omega) ?_
  rw [List.size_toArray, hl]
  k_steps
  all_goals exact cb_retI hret rfl (by k_asm) (cb_drop (by assumption) fun _ hp => .tail _ hp)
end Mine
open PySem PySem.W PyProof.Rows PySem.Calls PySem.Spec
set_option Elab.async false
set_option maxRecDepth 100000
set_option maxHeartbeats 8000000
namespace Mine
noncomputable def starN (l : List Nat) : Nat := (l.filter (· == 42)).length
theorem count_star (x : Str) : Txt.count x (Str.ofString "*") = (starN x.cps.toList : Nat) := by
  rw [show Str.ofString "*" = ⟨#[42]⟩ from by decide +kernel, count_cnt]
  induction x.cps.toList with
  | nil => rfl
  | cons c r ih =>
    rw [show cnt 42 (c :: r) = (if c = 42 then 1 else 0) + cnt 42 r from cnt_cons 42 c r] 
    unfold starN at *
    rw [ih, List.filter_cons]
    by_cases h : c = 42
    · simp [h]; omega
    · simp [h]
local macro_rules | `(tactic| walk_at "binaryOp Pow int int") => `(tactic| k_extra "binaryOp Pow int int")
local macro_rules | `(tactic| walk_at "call ref") => `(tactic| k_extra "call ref")
theorem pow3 {prog : Program} {w : World} {A : Around} {E : Value → Shared → Prop} {s : Shared} {t u : Tok} {n P : Int} {Q : Value → Shared → Prop} (hn : n = 1 ∨ n = 2 ∨ n = 3) (hP : P = 2 ^ n.toNat) (h : Q (.int P s.toks) { s with toks := s.toks + 1 }) :
    wpAny (model prog w) A (binaryOp .Pow (.int 2 t) (.int n u)) Q E s := by
  subst hP
  exact pow_int_small (by omega) (by omega) (by decide) h
theorem counts_spec (w : World) (x y : Str) (t u v : Tok) (n P : Int) (hn : n = 1 ∨ n = 2 ∨ n = 3) (hP : P = 2 ^ n.toNat) (hx : x.length ≤ 4096) (hy : y.length ≤ 4096)
    (S : Int) (hS : S = if 1 > (starN x.cps.toList : Int) then 1 else (starN x.cps.toList : Int))
    (h1 : (starN y.cps.toList : Int) = S) (D : Int) (hD : D = (markN x.cps.toList : Int) + (P - 1) * ((markN x.cps.toList : Int) + 5 * S - 4))
    (h2 : (markN y.cps.toList : Int) = D)
    (h3 : (y.length : Int) = S + D + ((x.length : Int) - (starN x.cps.toList : Int) - (markN x.cps.toList : Int)) + n * (S - 1)) : ClaimV w 2 80 [.str x t, .str y u, .int n v] (fun _ => .bool true) := by
  have hP1 : 1 ≤ P ∧ P ≤ 8 := by rcases hn with rfl | rfl | rfl <;> (rw [hP]; decide)
  have hn1 : 1 ≤ n ∧ n ≤ 3 := by omega
  k_with_none
  w_top off
  unfold ClaimV
  k_with "call ref" => (k_here; k_dflt (refine' claim_use (marked_spec _ _ _ ?hx) ?k1 ?k2 ?k3 ?k4 ?k5 ?kK ?kd ?ku ?_; (case hx => assumption); (case k1 => k_asm); (case k2 => k_asm); (case k3 => k_asm); (case k4 => k_asm); (case k5 => k_asm); (case kK => first | exact rfl | assumption); (case kd => ktr_room); (case ku => ktr_units)); intro t9 h9 tk9 F9 N9; (try dsimp only); (try k_fold))
  k_with "binaryOp Pow int int" => (k_here; k_dflt (refine pow3 (P := P) (by assumption) (by assumption) ?_))
  intro p loose mean mg mb news
  k_fill
  intros
  rename_i hret
  refine wpAny_call ?_
  k_dflt cell_enter
  k_steps
  all_goals (refine cb_retB hret ?_ (by k_asm) (by k_asm))
  all_goals (
    simp only [count_star]
    rw [beq_iff_eq]
    try rw [← hS]
    first | exact h1 | (rw [← hD]; first | exact h2 | exact h3))
end Mine
open PySem PySem.W PyProof.Rows PySem.Calls PySem.Spec
set_option Elab.async false
set_option maxRecDepth 100000
set_option maxHeartbeats 1000000
namespace Mine
/-- the signs that `escape` marks -/
noncomputable def isSpec (c : Nat) : Bool := [40, 41, 91, 93, 123, 125, 63, 42, 43, 45, 124, 94, 36, 92, 46, 38, 126, 35, 32, 9, 10, 13, 11, 12].contains c
noncomputable def esc1 (c : Nat) : List Nat := if isSpec c then [92, c] else [c]
noncomputable def esc (l : List Nat) : List Nat := l.flatMap esc1
noncomputable def escS (x : Str) : Str := ⟨(esc x.cps.toList).toArray⟩

/-- the table says what `esc` does -/
def TabOk (h : Heap) (d : Addr) (prog : Program) (w : World) : Prop :=
  ∃ f : Int → Option Value, h.MapOf (intKind prog w) d f ∧ ∀ c : Nat, c < 128 → (isSpec c = true → ∃ t, f (c : Int) = some (.str ⟨#[92, c]⟩ t)) ∧ (isSpec c = false → f (c : Int) = none)
section
variable {prog : Program} {w : World} {A : Around} {E : Value → Shared → Prop} {s : Shared} {d : Addr}

theorem TabOk.keep {h h' : Heap} (T : TabOk h d prog w) (hk : ∀ b o, h.get? b = some o → h'.get? b = some o) : TabOk h' d prog w := by
  obtain ⟨f, ⟨o, es, ep, ho, r⟩, g⟩ := T
  exact ⟨f, ⟨o, es, ep, hk _ _ ho, r⟩, g⟩

theorem look_spec {c : Nat} {Q : Builtin.Str.Mapped → Shared → Prop} (T : TabOk s.heap d prog w) (hc : c < 128) (hs : isSpec c = true) (h : ∀ tk, Q (.text ⟨#[92, c]⟩) { s with toks := tk }) :
    wpAny (model prog w) A (Builtin.Str.tableLookup (.ref d) c) Q E s := by
  obtain ⟨f, hm, g⟩ := T
  obtain ⟨t, ht⟩ := (g c hc).1 hs
  unfold Builtin.Str.tableLookup
  refine wpAny_bind (wpAny_attempt (wpAny_bind (wpAny_mkInt ?_)))
  refine wpAny_getItem_of (s := { s with toks := s.toks + 1 }) (intKind_is prog w (c : Int) _) hm ht ?_
  obtain ⟨hp, gg, dd, tk, os⟩ := s
  wp_walk
  exact h _

theorem look_plain {c : Nat} {Q : Builtin.Str.Mapped → Shared → Prop} (T : TabOk s.heap d prog w) (hc : c < 128) (hd : (d == sysModules) = false) (hh : A.handled = none) (hs : isSpec c = false)
    (h : ∀ h' tk, (∀ b o, s.heap.get? b = some o → h'.get? b = some o) → Q .keep { s with heap := h', toks := tk }) :
    wpAny (model prog w) A (Builtin.Str.tableLookup (.ref d) c) Q E s := by
  obtain ⟨f, hm, g⟩ := T
  have ht := (g c hc).2 hs
  unfold Builtin.Str.tableLookup
  refine wpAny_bind (wpAny_attempt (wpAny_bind (wpAny_mkInt ?_)))
  refine wpAny_getItem_missing_of (s := { s with toks := s.toks + 1 }) (intKind_is prog w (c : Int) _) hd hh hm ht fun h' e hn => ?_
  obtain ⟨ob, t, hob, hcl, _⟩ := hn.there
  refine wpAny_bind (wpAny_isInstance (T := "KeyError") (b := true) (show ∃ o, h'.get? e = some o ∧ o.cls = .type "KeyError" from ⟨ob, hob, hcl⟩) (by rw [isSubtype_type]; kernel_rfl) ?_)
  wp_walk
  exact h h' _ hn.keeps

/-- what the loop of `str.translate` holds: the pieces put down, last one first -/
noncomputable def flatP (ps : List Str) : List Nat := ps.reverse.flatMap fun p => p.cps.toList
theorem flatP_cons (p : Str) (ps : List Str) : flatP (p :: ps) = flatP ps ++ p.cps.toList := by simp [flatP]
theorem flatP_fold (l : List Str) : ∀ acc : Array Nat, (l.foldl (fun acc p => acc ++ p.cps) acc) = acc ++ (l.flatMap fun p => p.cps.toList).toArray := by
  induction l with
  | nil => intro acc; simp
  | cons p r ih => intro acc; rw [List.foldl_cons, ih]; apply Array.toList_inj.mp; simp
theorem esc_append (a b : List Nat) : esc (a ++ b) = esc a ++ esc b := by simp [esc]
theorem esc_len : ∀ l : List Nat, (esc l).length ≤ 2 * l.length
  | [] => by simp [esc]
  | c :: r => by
    have h := esc_len r
    have h1 : (esc1 c).length ≤ 2 := by unfold esc1; split <;> simp
    have e : esc (c :: r) = esc1 c ++ esc r := rfl
    rw [e, List.length_append, List.length_cons]
    omega

def TrInv (s : Shared) (x : Str) (rest : List Nat) (b : List Str × Nat × Bool × List (Nat × Option Nat) × Bool) (s' : Shared) : Prop :=
  ∃ pre, x.cps.toList = pre ++ rest ∧ flatP b.1 = esc pre ∧ b.2.1 = (esc pre).length ∧ (∀ c a, b.2.2.2.1.lookup c = some a → isSpec c = false ∧ a = some c) ∧ b.2.2.2.2 = false ∧
    ∃ h' tk, s' = { s with heap := h', toks := tk } ∧ ∀ b o, s.heap.get? b = some o → h'.get? b = some o

theorem TrInv.plain {s : Shared} {x : Str} {c : Nat} {rest : List Nat} {ps : List Str} {total : Nat} {fast fast' : Bool} {known known' : List (Nat × Option Nat)} {h' : Heap} {tk : Nat} {s₁ : Shared}
    (I : TrInv s x (c :: rest) (ps, total, fast, known, false) s₁) (hc : isSpec c = false) (hk : ∀ c a, known'.lookup c = some a → isSpec c = false ∧ a = some c) (e : ∀ b o, s₁.heap.get? b = some o → h'.get? b = some o) :
    TrInv s x rest (⟨#[c]⟩ :: ps, total + 1, fast', known', false) { s₁ with heap := h', toks := tk } := by
  obtain ⟨pre, h1, h2, h3, h4, _, h'', tk'', rfl, h6⟩ := I
  have e1 : esc (pre ++ [c]) = esc pre ++ [c] := by rw [esc_append]; simp [esc, esc1, hc]
  refine ⟨pre ++ [c], by rw [h1]; simp, ?_, ?_, hk, rfl, h', tk, rfl, fun b o q => e b o (h6 b o q)⟩
  · rw [flatP_cons, e1]; dsimp only at h2; rw [h2]
  · rw [e1, List.length_append]; dsimp only at h3 ⊢; rw [h3]; rfl
theorem TrInv.spec {s : Shared} {x : Str} {c : Nat} {rest : List Nat} {ps : List Str} {total : Nat} {fast fast' : Bool} {known known' : List (Nat × Option Nat)} {h' : Heap} {tk : Nat} {s₁ : Shared}
    (I : TrInv s x (c :: rest) (ps, total, fast, known, false) s₁) (hc : isSpec c = true) (hk : ∀ c a, known'.lookup c = some a → isSpec c = false ∧ a = some c) (e : ∀ b o, s₁.heap.get? b = some o → h'.get? b = some o) :
    TrInv s x rest (⟨#[92, c]⟩ :: ps, total + (⟨#[92, c]⟩ : Str).length, fast', known', false) { s₁ with heap := h', toks := tk } := by
  obtain ⟨pre, h1, h2, h3, h4, _, h'', tk'', rfl, h6⟩ := I
  have e1 : esc (pre ++ [c]) = esc pre ++ [92, c] := by rw [esc_append]; simp [esc, esc1, hc]
  refine ⟨pre ++ [c], by rw [h1]; simp, ?_, ?_, hk, rfl, h', tk, rfl, fun b o q => e b o (h6 b o q)⟩
  · rw [flatP_cons, e1]; dsimp only at h2; rw [h2]
  · rw [e1, List.length_append]; dsimp only at h3 ⊢; rw [h3]; rfl

/-- what a turn of the loop may lean on -/
theorem TrInv.elim {s s₁ : Shared} {x : Str} {rest : List Nat} {c : Nat} {b : List Str × Nat × Bool × List (Nat × Option Nat) × Bool} {motive : List Str × Nat × Bool × List (Nat × Option Nat) × Bool → Shared → Prop} (hx : x.length ≤ 4096) (ha : ∀ c ∈ x.cps.toList, c < 128)
    (I : TrInv s x (c :: rest) b s₁)
    (h : ∀ (ps : List Str) (total : Nat) (fast : Bool) (known : List (Nat × Option Nat)) (h'' : Heap) (tk : Nat), TrInv s x (c :: rest) (ps, total, fast, known, false) { s with heap := h'', toks := tk } → c < 128 →
      (∀ c a, known.lookup c = some a → isSpec c = false ∧ a = some c) → Builtin.Str.tooLong total = false → (∀ b o, s.heap.get? b = some o → h''.get? b = some o) → motive (ps, total, fast, known, false) { s with heap := h'', toks := tk }) : motive b s₁ := by
  obtain ⟨ps, total, fast, known, ad⟩ := b
  have I0 := I
  obtain ⟨pre, h1, h2, h3, h4, h5, h'', tk'', rfl, h6⟩ := I
  dsimp only at h5
  subst h5
  dsimp only at h2 h3 h4
  refine h ps total fast known h'' tk'' I0 (ha c (by rw [h1]; simp)) h4 ?_ h6
  have hlen : (esc pre).length ≤ 8192 := by
    have := esc_len pre
    have h7 : x.cps.toList.length = x.length := by simp [Str.length]
    rw [h1, List.length_append] at h7
    omega
  rw [h3]; simp [Builtin.Str.tooLong, sizeLine_eq]; omega
theorem TrInv.last {s s₁ : Shared} {x : Str} {b : List Str × Nat × Bool × List (Nat × Option Nat) × Bool} {motive : List Str × Nat × Bool × List (Nat × Option Nat) × Bool → Shared → Prop} (hx : x.length ≤ 4096)
    (I : TrInv s x [] b s₁)
    (h : ∀ (ps : List Str) (total : Nat) (fast : Bool) (known : List (Nat × Option Nat)) (h'' : Heap) (tk : Nat), flatP ps = esc x.cps.toList → Builtin.Str.tooLong total = false → (escS x).length ≤ sizeLine → (∀ b o, s.heap.get? b = some o → h''.get? b = some o) →
      motive (ps, total, fast, known, false) { s with heap := h'', toks := tk }) : motive b s₁ := by
  obtain ⟨ps, total, fast, known, ad⟩ := b
  obtain ⟨pre, h1, h2, h3, h4, h5, h'', tk'', rfl, h6⟩ := I
  rw [List.append_nil] at h1
  dsimp only at h2 h3 h4 h5
  subst h1
  subst h5
  have hlen : (esc x.cps.toList).length ≤ 8192 := by
    have := esc_len x.cps.toList
    have h7 : x.cps.toList.length = x.length := by simp [Str.length]
    omega
  refine h ps total fast known h'' tk'' h2 ?_ ?_ h6
  · rw [h3]; simp [Builtin.Str.tooLong, sizeLine_eq]; omega
  · rw [sizeLine_eq]
    show (esc x.cps.toList).toArray.size ≤ _
    rw [List.size_toArray]
    omega

theorem call_translate {x : Str} {t : Tok} {Q : Value → Shared → Prop} (T : TabOk s.heap d prog w) (hd : (d == sysModules) = false) (hh : A.handled = none) (hx : x.length ≤ 4096) (ha : ∀ c ∈ x.cps.toList, c < 128)
    (hQ : ∀ h' t' tk, (∀ b o, s.heap.get? b = some o → h'.get? b = some o) → Q (.str (escS x) t') { s with heap := h', toks := tk }) :
    wpAny (model prog w) A (call (.builtin "str.translate") [.str x t, .ref d]) Q E s := by
  refine wpAny_call_entry PySem.F.slot_str_translate (T := "str") rfl PySem.F.entry_str_translate ?_ (PySem.F.args_str_translate_2 _ _)
  unfold Builtin.«str.translate»
  wp_walk
  by_cases h0 : (x.length == 0) = true
  · rw [if_pos h0]
    obtain ⟨hp, g, dr, tk, os⟩ := s
    wp_walk
    refine ⟨_, rfl, ?_⟩
    have e : x = escS x := by
      have h1 : x.cps.size = 0 := by simpa [Str.length] using h0
      have h2 : x.cps = #[] := Array.eq_empty_of_size_eq_zero h1
      refine Str.ext' ?_
      show x.cps = (esc x.cps.toList).toArray
      rw [h2]; rfl
    have hq := hQ hp t tk fun _ _ q => q
    rw [← e] at hq
    exact hq
  · rw [if_neg h0]
    dsimp only
    refine wpAny_bind (MeetsSeq2.wpAny_forIn_array _ (TrInv s x) _ ?_ ?_ _ _ ?_)
    · intro c rest b s₁ I
      apply TrInv.elim hx ha I
      intro ps total fast known h'' tk'' I0 hc h4 htl h6
      dsimp only
      rw [if_neg (by rw [htl]; decide)]
      have T' : TabOk h'' d prog w := T.keep h6
      cases fast with
      | false =>
        simp only [Bool.false_eq_true, if_false]
        cases hsp : isSpec c with
        | true =>
          refine wpAny_bind (look_spec T' hc hsp fun tk => wpAny_pure ?_)
          exact I0.spec hsp h4 fun _ _ q => q
        | false =>
          refine wpAny_bind (look_plain T' hc hd hh hsp fun h3' tk hk => wpAny_pure ?_)
          exact I0.plain hsp h4 hk
      | true =>
        simp only [if_true]
        split
        · rename_i a hl
          obtain ⟨hsp, rfl⟩ := h4 _ _ hl
          refine wpAny_bind (wpAny_pure (wpAny_pure ?_))
          exact I0.plain hsp h4 fun _ _ q => q
        · cases hsp : isSpec c with
          | true =>
            refine wpAny_bind (look_spec T' hc hsp fun tk => ?_)
            have hl : ((⟨#[92, c]⟩ : Str).length == 1) = false := rfl
            simp only [hl, Bool.false_and, Bool.false_eq_true, if_false]
            refine wpAny_bind (wpAny_pure ?_)
            refine wpAny_bind (wpAny_rule ?_)
            refine wpAny_bind (look_spec (s := { s with heap := h'', toks := tk }) T' hc hsp fun tk => wpAny_pure ?_)
            exact I0.spec hsp h4 fun _ _ q => q
          | false =>
            refine wpAny_bind (look_plain T' hc hd hh hsp fun h3' tk hk => ?_)
            dsimp only
            refine wpAny_bind (wpAny_pure (wpAny_pure ?_))
            refine I0.plain hsp (fun c' a' q => ?_) hk
            rw [List.lookup_cons] at q
            split at q
            · rename_i e
              have e' : c' = c := by simpa using e
              subst e'
              exact ⟨hsp, (Option.some.inj q).symm⟩
            · exact h4 _ _ q
    · intro b s₁ I
      apply TrInv.last hx I
      intro ps total fast known h'' tk'' h2 htl hz h6
      dsimp only
      rw [if_neg (by rw [htl]; decide), flatP_fold]
      have e : (⟨#[] ++ (ps.reverse.flatMap fun p => p.cps.toList).toArray⟩ : Str) = escS x := by
        refine Str.ext' ?_
        show #[] ++ (flatP ps).toArray = (esc x.cps.toList).toArray
        rw [h2]; simp
      rw [e]
      unfold retStr
      exact wpAny_bind (wpAny_mkStr (hx := hz) (wpAny_pure ⟨_, rfl, hQ h'' _ _ h6⟩))
    · exact ⟨[], rfl, rfl, rfl, (by intro c a q; cases q), rfl, s.heap, s.toks, rfl, fun _ _ q => q⟩
end
end Mine
open PySem PySem.W PyProof.Rows PySem.Calls PySem.Spec
set_option Elab.async false
set_option maxRecDepth 100000
set_option maxHeartbeats 8000000
namespace Mine
local macro_rules | `(tactic| walk_at "no such stop") => `(tactic| fail "none")
noncomputable def intKeyed : List DictEntry → Bool
  | [] => true
  | e :: r => (match e.key with | .int i _ => e.hash == hashInt i | _ => false) && intKeyed r
noncomputable def escOf (es : Array DictEntry) (c : Nat) : Bool := match findBy Value.isInt es (c : Int) with
  | some (.str x _) => isSpec c && x.cps == #[92, c]
  | some _ => false
  | none => !isSpec c
theorem intKeyed_all {prog : Program} {w : World} {l : List DictEntry} (h : intKeyed l = true) : ∀ e ∈ l, ∃ k, (intKind prog w).is k e.key = true ∧ e.hash = (intKind prog w).hash k := by
  induction l with
  | nil => intro e he; cases he
  | cons a r ih =>
    intro e he
    unfold intKeyed at h
    rw [Bool.and_eq_true] at h
    rcases List.mem_cons.mp he with rfl | m
    · have h1 := h.1
      split at h1
      · rename_i i t hk
        exact ⟨i, by rw [hk]; exact intKind_is prog w i t, (by simpa using h1 : e.hash = hashInt i)⟩
      · cases h1
    · exact ih h.2 e m
theorem tabOk_of {h : Heap} {w : World} {es : List DictEntry} {n : Nat} (X : (hd.heap_39 w.params).In h) (hl : (hd.heap_39 w.params).lookup 16 = some ⟨.type "dict", none, .dict es.toArray n, #[]⟩)
    (hk : intKeyed es = true) (hf : ((List.range 128).all fun c => escOf es.toArray c) = true) : TabOk h 16 PySem.Challenge.rw_in0155_01.row.prog w := by
  refine ⟨fun k => findBy Value.isInt es.toArray k, ⟨_, es.toArray, n, X _ _ hl, ⟨rfl, rfl, rfl⟩, rfl, fun e he => intKeyed_all hk e (by simpa using he), fun _ => rfl⟩, fun c hc => ?_⟩
  have h1 := List.all_eq_true.mp hf c (List.mem_range.mpr hc)
  unfold escOf at h1
  dsimp only
  split at h1
  · rename_i x t e
    rw [Bool.and_eq_true] at h1
    refine ⟨fun _ => ⟨t, by rw [e, show x = ⟨#[92, c]⟩ from Str.ext' (by simpa using h1.2)]⟩, fun q => by rw [q] at h1; exact absurd h1.1 (by decide)⟩
  · cases h1
  · rename_i e
    exact ⟨fun q => (by rw [q] at h1; cases h1), fun _ => e⟩
theorem tabOk {h : Heap} {w : World} (X : (hd.heap_39 w.params).In h) : TabOk h 16 PySem.Challenge.rw_in0155_01.row.prog w := by
  revert X
  k_fill
  intro X
  refine' tabOk_of X ?hl ?hk ?hf
  case hl => k_is
  case hk => decide +kernel
  case hf => decide +kernel
theorem translate_method {M : Model} {A : Around} {E : Value → Shared → Prop} {s : Shared} {x : Str} {t : Tok} {pl : Sem Bool} {Q : Value × List Value → Shared → Prop} (h : Q (.builtin "str.translate", [.str x t]) s) :
    wpAny M A (getMethod (.str x t) "translate" pl) Q E s := by
  with_reducible exact GM.of (.str x t) (typeIs_str _ _ _) PySem.F.slot_str_translate PySem.F.type_str_translate GM.noRef h
local macro_rules | `(tactic| walk_at "getMethod str") => `(tactic| k_extra "getMethod str")
theorem escape_spec (w : World) (x : Str) (t : Tok) (hx : x.length ≤ 4096) (ha : ∀ c ∈ x.cps.toList, c < 128) : ClaimV w 1 26 [.str x t] (fun t => .str (escS x) t) := by
  k_with_none
  w_top off
  unfold ClaimV
  k_with "getMethod str" => (k_here; with_reducible refine translate_method ?_)
  intro p loose mean mg mb news
  k_fill
  intros
  rename_i hret
  refine wpAny_call ?_
  k_dflt cell_enter
  k_steps
  refine call_translate (tabOk (Frag.In.keeps (by k_asm) (Fr.keep (by k_asm)))) (by decide) rfl hx ha fun h9 t9 tk9 hk9 => ?_
  rename Fr _ _ _ (fun _ => _) => F8
  rename News _ _ _ _ => N8
  have F9 := F8.keeps hk9
  have N9 := N8.grown hk9
  clear F8 N8
  k_steps
  all_goals exact cb_retS hret rfl (by k_asm) (by k_asm)
end Mine
open PySem PySem.W PyProof.Rows PySem.Calls PySem.Spec
set_option Elab.async false
set_option maxRecDepth 100000
set_option maxHeartbeats 1000000
namespace Mine
theorem slot_map_next : Slot "map" "__next__" "map.__next__" :=
  .of (owner := "map") (n := "__next__") (by rw [typeLookup_type, builtinLookup_eq_fast]; kernel_rfl) (by decide +kernel) (by decide +kernel) (by decide +kernel)
    (by first | exact .inl (by decide +kernel) | exact .inr (by decide +kernel)) (by rw [isSubtype_type]; kernel_rfl)
theorem slot_map_iter : Slot "map" "__iter__" "map.__iter__" :=
  .of (owner := "map") (n := "__iter__") (by rw [typeLookup_type, builtinLookup_eq_fast]; kernel_rfl) (by decide +kernel) (by decide +kernel) (by decide +kernel)
    (by first | exact .inl (by decide +kernel) | exact .inr (by decide +kernel)) (by rw [isSubtype_type]; kernel_rfl)
theorem slot_map_init : Slot "map" "__init__" "object.__init__" :=
  .of (owner := "object") (n := "__init__") (by rw [typeLookup_type, builtinLookup_eq_fast]; kernel_rfl) (by decide +kernel) (by decide +kernel) (by decide +kernel)
    (by first | exact .inl (by decide +kernel) | exact .inr (by decide +kernel)) (by rw [isSubtype_type]; kernel_rfl)
theorem entry_map_next : entryFor table "map.__next__" = some Builtin.«map.__next__» := entryFor_of_tree (by kernel_rfl)
theorem entry_map_new : entryFor table "map.__new__" = some Builtin.«map.__new__» := entryFor_of_tree (by kernel_rfl)
theorem entry_map_iter : entryFor table "map.__iter__" = some Builtin.«dict_keyiterator.__iter__» :=
  entryFor_alias (id' := "dict_keyiterator.__iter__") (by kernel_rfl) (by first | rfl | decide +kernel | (unfold String.splitOn; simp +decide [String.splitOnAux])) (by decide +kernel) (by kernel_rfl)
theorem args_map_next (a : Value) : argsOk "map.__next__" ⟨[a], []⟩ := by unfold argsOk; kernel_rfl
theorem args_map_iter (a : Value) : argsOk "map.__iter__" ⟨[a], []⟩ := by unfold argsOk; kernel_rfl
theorem mro_map : mroOf (.type "map") = pure [.type "map", .type "object"] := by rw [mroOf_type]; kernel_rfl
theorem lookup_map_new : typeLookup (.type "map") "__new__" = pure (some (.builtin "map.__new__")) := by rw [typeLookup_type, builtinLookup_eq_fast]; kernel_rfl
theorem called_map : TypeCalled "map" "map.__new__" "object.__init__" :=
  ⟨by decide +kernel, by decide +kernel, ⟨_, _, mro_map⟩, madeBy_type mro_map lookup_map_new (by decide +kernel), by decide +kernel, by rw [isSubtype_type]; kernel_rfl, slot_map_init⟩
theorem typeCall_map (a b : Value) : checkTypeCall "map" ⟨[a, b], []⟩ = pure () := by kernel_rfl
theorem newCall_map (a b : Value) : checkBuiltinCall "map.__new__" ⟨[.type "map", a, b], []⟩ = pure () := by kernel_rfl
theorem sub_map : isSubtype (.type "map") (.type "map") = pure true := by rw [isSubtype_type]; kernel_rfl
theorem map_no_len : typeLookup (.type "map") "__len__" = pure none := by rw [typeLookup_type, builtinLookup_eq_fast]; kernel_rfl
theorem map_no_hint : typeLookup (.type "map") "__length_hint__" = pure none := by rw [typeLookup_type, builtinLookup_eq_fast]; kernel_rfl
end Mine
open PySem PySem.W PyProof.Rows PySem.Calls PySem.Spec
set_option Elab.async false
set_option maxRecDepth 100000
set_option maxHeartbeats 1000000
namespace Mine
noncomputable abbrev mapObj (TI : Addr) (f : Value) : Obj := { cls := .type "map", data := .fields #[.ref TI, f] }
noncomputable abbrev iterObj (l : Addr) (i : Nat) : Obj := { cls := .type "list_iterator", data := .fields #[.ref l, .int i 0] }
noncomputable abbrev oneTup (it : Addr) : Obj := { cls := .type "tuple", data := .seq #[.ref it] }
noncomputable abbrev mapH1 (h : Heap) (l : Addr) : Heap := h.push (iterObj l 0)
noncomputable abbrev mapH2 (h : Heap) (l : Addr) : Heap := (mapH1 h l).push (oneTup h.objs.size)
noncomputable abbrev mapH3 (h : Heap) (l : Addr) (f : Value) : Heap := (mapH2 h l).push (mapObj (mapH1 h l).objs.size f)

theorem meets_map_new (l : Addr) (f : Value) (xs : Array Value) :
    Meets (Builtin.«map.__new__» ⟨[.type "map", f, .ref l], []⟩) (fun _ R s => s.heap.IsList l xs ∧
      R (.ok (.ret (.ref (mapH2 s.heap l).objs.size))) { s with heap := mapH3 s.heap l f }) :=
  .of_wp fun prog w A R s h => by
    obtain ⟨hp, g, d, tk, os⟩ := s; obtain ⟨hl, h⟩ := h
    have hsub := sub_map
    have hL1 : Heap.IsList (Shared.heap ⟨hp, g, d, tk, os⟩) l xs := hl
    wp_walk using wpAny_pyIter_list hL1
    exact ⟨_, rfl, h⟩

section
variable {prog : Program} {w : World} {A : Around} {E : Value → Shared → Prop} {s : Shared} {h₀ : Heap} {L : Addr} {m : Str → Option Value} {news : List (Addr × Obj)}
theorem call_map {l : Addr} {f : Value} {xs : Array Value} {Q : Value → Shared → Prop} (F : Fr h₀ L s.heap m) (N : News h₀ L s.heap news) (hl : s.heap.IsList l xs)
    (h : ∀ z TI it h', Fr h₀ L h' m → News h₀ L h' ((z, mapObj TI f) :: (TI, oneTup it) :: (it, iterObj l 0) :: news) → (∀ p ∈ news, p.1 < it) → it < TI → TI < z → Q (.ref z) { s with heap := h' }) :
    wpAny (model prog w) A (call (.type "map") [f, .ref l]) Q E s := by
  refine callType_new called_map (by decide) (typeCall_map _ _) (newCall_map _ _) (fun obj => PySem.F.args_object_init_3 obj _ _) entry_map_new
    (meets_map_new l f xs) ⟨hl, ?_⟩
  have z1 : (mapH1 s.heap l).objs.size = s.heap.objs.size + 1 := Heap.size_push ..
  have z2 : (mapH2 s.heap l).objs.size = s.heap.objs.size + 2 := by rw [Heap.size_push, z1]
  have F1 := F.push (iterObj l 0)
  have N1 := N.push F (iterObj l 0)
  have F2 := F1.push (oneTup s.heap.objs.size)
  have N2 := N1.push F1 (oneTup s.heap.objs.size)
  have F3 := F2.push (mapObj (mapH1 s.heap l).objs.size f)
  have N3 := N2.push F2 (mapObj (mapH1 s.heap l).objs.size f)
  refine ⟨⟨_, Heap.get?_push_size _ rfl, rfl⟩, h _ _ _ _ F3 N3 (fun p hp => Heap.lt_size (N p hp).1) (by rw [z1]; exact Nat.lt_succ_self _) (by rw [z2, z1]; exact Nat.lt_succ_self _)⟩
end
end Mine
open PySem PySem.W PyProof.Rows PySem.Calls PySem.Spec
set_option Elab.async false
set_option maxRecDepth 100000
set_option maxHeartbeats 1000000
namespace Mine
section
variable {prog : Program} {w : World} {A : Around} {E : Value → Shared → Prop} {s : Shared}
theorem map_next_item {z TI it l : Addr} {k : Nat} {xs : Array Value} {x f : Value} {Q : Value → Shared → Prop} (hz : s.heap.get? z = some (mapObj TI f)) (hT : s.heap.get? TI = some (oneTup it))
    (hit : s.heap.IsListIter it l k) (hl : s.heap.IsList l xs) (hx : xs[k]? = some x) (hzi : z ≠ it)
    (hcall : ∀ h', h'.IsListIter it l (k + 1) → Heap.SameBut it s.heap h' → wpAny (model prog w) A (call f [x]) Q E { s with heap := h' }) :
    wpAny (model prog w) A (Builtin.«map.__next__» ⟨[.ref z], []⟩) (fun fin s' => ∃ v, fin = .done (.ret v) ∧ Q v s') E s := by
  show wpAny _ _ (field (.ref z) 0 >>= _) _ _ _
  refine wpAny_bind (wpAny_field hz rfl (x := .ref TI) rfl ?_)
  refine wpAny_bind (wpAny_seqItems hT rfl ?_)
  dsimp only
  refine wpAny_bind ?_
  rw [← Array.forIn_toList]
  simp only [List.forIn_cons, List.forIn_nil]
  refine wpAny_bind (wpAny_bind (wpAny_holding (wpAny_nextOf_list_item hit hl hx fun h' hi' hs' => wpAny_pure ?_)))
  refine wpAny_pure ?_
  (try dsimp only)
  have hz' : h'.get? z = some (mapObj TI f) := hs'.extBut _ _ hzi hz
  refine wpAny_bind (wpAny_field hz' rfl (x := f) rfl ?_)
  refine wpAny_bind (wpAny_holding ?_)
  refine wpAny_mono (hcall h' hi' hs') (fun v s' hq => ?_) fun _ _ e => e
  exact wpAny_bind (wpAny_letGo (wpAny_pure ⟨v, rfl, hq⟩))
theorem map_next_end {z TI it l : Addr} {k : Nat} {xs : Array Value} {f : Value} {Q : PySem.Fin → Shared → Prop} (hh : A.handled = none) (hz : s.heap.get? z = some (mapObj TI f)) (hT : s.heap.get? TI = some (oneTup it))
    (hit : s.heap.IsListIter it l k) (hl : s.heap.IsList l xs) (hx : xs[k]? = none)
    (hE : ∀ h' e, Heap.ExtBut it s.heap h' → (∃ o, h'.get? e = some o ∧ o.cls = .type "StopIteration") → E (.ref e) { s with heap := h' }) :
    wpAny (model prog w) A (Builtin.«map.__next__» ⟨[.ref z], []⟩) Q E s := by
  show wpAny _ _ (field (.ref z) 0 >>= _) _ _ _
  refine wpAny_bind (wpAny_field hz rfl (x := .ref TI) rfl ?_)
  refine wpAny_bind (wpAny_seqItems hT rfl ?_)
  dsimp only
  refine wpAny_bind ?_
  rw [← Array.forIn_toList]
  simp only [List.forIn_cons, List.forIn_nil]
  exact wpAny_bind (wpAny_bind (wpAny_holding (wpAny_nextOf_list_end hh hit hl hx hE)))

theorem pyNext_map_item {z TI it l : Addr} {k : Nat} {xs : Array Value} {x f : Value} {Q : Option Value → Shared → Prop} (hz : s.heap.get? z = some (mapObj TI f)) (hT : s.heap.get? TI = some (oneTup it))
    (hit : s.heap.IsListIter it l k) (hl : s.heap.IsList l xs) (hx : xs[k]? = some x) (hzi : z ≠ it)
    (hcall : ∀ h', h'.IsListIter it l (k + 1) → Heap.SameBut it s.heap h' → wpAny (model prog w) A.in1 (call f [x]) (fun v s' => Q (some v) s') (fun e s' => wpAny (model prog w) A (isInstance e (.type "StopIteration")) (fun b s' => wpAny (model prog w) A (if b = true then pure none else throw e) Q E s') E s') { s with heap := h' }) :
    wpAny (model prog w) A (pyNext (.ref z)) Q E s := by
  have hTy : s.TypeIs (.ref z) "map" := ⟨_, hz, rfl⟩
  unfold pyNext
  refine wpAny_bind (wpAny_attempt (wpAny_callSpecial?_slot (name := Str.ofString "__next__") hTy slot_map_next
    (wpAny_call_entry slot_map_next hTy entry_map_next (wpAny_mono (map_next_item hz hT hit hl hx hzi hcall) (fun fin s' ⟨v, e, q⟩ => ⟨v, e, wpAny_pure q⟩) (fun e s' q => ?_)) (args_map_next _))))
  exact wpAny_bind q
theorem pyNext_map_end {z TI it l : Addr} {k : Nat} {xs : Array Value} {f : Value} {Q : Option Value → Shared → Prop} (hh : A.handled = none) (hz : s.heap.get? z = some (mapObj TI f)) (hT : s.heap.get? TI = some (oneTup it))
    (hit : s.heap.IsListIter it l k) (hl : s.heap.IsList l xs) (hx : xs[k]? = none) (hQ : ∀ h', Heap.ExtBut it s.heap h' → Q none { s with heap := h' }) :
    wpAny (model prog w) A (pyNext (.ref z)) Q E s := by
  have hTy : s.TypeIs (.ref z) "map" := ⟨_, hz, rfl⟩
  unfold pyNext
  refine wpAny_bind (wpAny_attempt (wpAny_callSpecial?_slot (name := Str.ofString "__next__") hTy slot_map_next
    (wpAny_call_entry slot_map_next hTy entry_map_next (map_next_end hh hz hT hit hl hx fun h' e hk he => ?_) (args_map_next _))))
  obtain ⟨o, ho, hc⟩ := he
  refine wpAny_bind (wpAny_isInstance (T := "StopIteration") (b := true) ⟨o, ho, hc⟩ isSubtype_stop ?_)
  exact wpAny_pure (hQ _ hk)
theorem pyIter_map {z TI : Addr} {f : Value} {Q : Value → Shared → Prop} (hz : s.heap.get? z = some (mapObj TI f)) (h : Q (.ref z) s) : wpAny (model prog w) A (pyIter (.ref z)) Q E s := by
  have hTy : s.TypeIs (.ref z) "map" := ⟨_, hz, rfl⟩
  refine wpAny_pyIter_slot hTy slot_map_iter (wpAny_call_entry slot_map_iter hTy entry_map_iter ?_ (args_map_iter _))
  show wpAny _ _ (ret (.ref z)) _ _ s
  exact wpAny_pure ⟨_, rfl, "map", _, hTy, slot_map_next.lookup, h⟩
end
end Mine
open PySem PySem.W PyProof.Rows PySem.Calls PySem.Spec
set_option Elab.async false
set_option maxRecDepth 100000
set_option maxHeartbeats 1000000
namespace Mine
def IterO (l : Addr) (i : Nat) (o : Obj) : Prop := o.cls = .type "list_iterator" ∧ o.data = .fields #[.ref l, .int i 0]
theorem IterO.at {h : Heap} {it l : Addr} {i : Nat} {o : Obj} (x : IterO l i o) (e : h.get? it = some o) : h.IsListIter it l i := ⟨o, e, x.1, x.2⟩
section
variable {prog : Program} {w : World} {A : Around} {E : Value → Shared → Prop} {s : Shared} {h₀ : Heap} {L : Addr} {m : Str → Option Value} {news : List (Addr × Obj)}

/-- the ledger with one of its objects changed -/
theorem news_change {h h' : Heap} {a : Addr} {o o' : Obj} {pre post : List (Addr × Obj)} (N : News h₀ L h (pre ++ (a, o) :: post)) (hs : Heap.SameBut a h h') (ho : h'.get? a = some o')
    (h1 : ∀ p ∈ pre, p.1 ≠ a) (h2 : ∀ p ∈ post, p.1 ≠ a) : News h₀ L h' (pre ++ (a, o') :: post) := by
  intro p hp
  rcases List.mem_append.mp hp with q | q
  · have n := N p (List.mem_append_left _ q)
    exact ⟨(hs.2 _ (h1 p q)).trans n.1, n.2⟩
  · rcases List.mem_cons.mp q with rfl | q
    · have n := N (a, o) (by simp)
      exact ⟨ho, n.2⟩
    · have n := N p (List.mem_append_right _ (.tail _ q))
      exact ⟨(hs.2 _ (h2 p q)).trans n.1, n.2⟩

theorem fr_but {h h' : Heap} {a : Addr} (F : Fr h₀ L h m) (hk : Heap.ExtBut a h h') (hL : a ≠ L) (hb : h₀.get? a = none) : Fr h₀ L h' m := by
  obtain ⟨⟨o, es, ep, ho, r⟩, k, ab⟩ := F
  exact ⟨⟨o, es, ep, hk _ _ (Ne.symm hL) ho, r⟩, fun b x e => hk _ _ (fun q => by subst q; rw [hb] at e; cases e) (k b x e), ab⟩

theorem seq_push {acc : Array Value} {c : Nat} {v : Value} : Obj.mapSeq (·.push v) (listOf acc c) = listOf (acc.push v) (c + 1) := by
  simp [Obj.mapSeq]

/-- what a call of `f` upon the `i`th item does, from any ledger -/
def CallEach (prog : Program) (w : World) (A : Around) (h₀ : Heap) (L : Addr) (m : Str → Option Value) (f : Value) (xs : Array Value) (P : Nat → Value → Prop) (s : Shared) : Prop :=
  ∀ (i : Nat) (x : Value) (h : Heap) (tk : Nat) (own : List (Addr × Obj)) (Q E : Value → Shared → Prop), xs[i]? = some x → Fr h₀ L h m → News h₀ L h own →
    (∀ v h' tk', P i v → Fr h₀ L h' m → News h₀ L h' own → Q v { s with heap := h', toks := tk' }) → wpAny (model prog w) A (call f [x]) Q E { s with heap := h, toks := tk }

theorem ext_loop_map {R : Result → Shared → Prop} {S z TI it l : Addr} {f res : Value} {xs : Array Value} {n : Nat} {P : Nat → Value → Prop} (hh : A.handled = none) (hc : CallEach prog w A.in1.in1 h₀ L m f xs P s) (hsz : xs.size ≤ sizeLine)
    (hl : (l, listOf xs n) ∈ news) (hn : ∀ p ∈ news, p.1 < it) (h1 : it < TI) (h2 : TI < z) (h3 : z < S)
    (hR : ∀ h' tk acc c, Fr h₀ L h' m → News h₀ L h' ((S, listOf acc c) :: news) → ItemsOf P acc xs.size → R (.ok (.ret res)) { s with heap := h', toks := tk }) :
    ∀ (k i : Nat) (h : Heap) (tk : Nat) (acc : Array Value) (c : Nat) (o : Obj), xs.size - i = k → i ≤ xs.size → Fr h₀ L h m → News h₀ L h ((S, listOf acc c) :: (z, mapObj TI f) :: (TI, oneTup it) :: (it, o) :: news) → IterO l i o → ItemsOf P acc i →
    codeAny (model prog w) A (.builtin "list.extend.loop" ⟨[.ref S, .ref z, res], []⟩) R { s with heap := h, toks := tk } := by
  have nit : ∀ p ∈ news, p.1 ≠ it := fun p hp => Nat.ne_of_lt (hn p hp)
  intro k
  induction k with
  | zero =>
    intro i h tk acc c o hk hi F N ho hacc
    have hin : i = xs.size := by omega
    subst hin
    have hz := (N (z, mapObj TI f) (by simp)).1
    have hT := (N (TI, oneTup it) (by simp)).1
    have hit := ho.at (N (it, o) (by simp)).1
    have hlist : h.IsList l xs := ⟨_, (N (l, listOf xs n) (by simp [hl])).1, rfl, n, rfl⟩
    refine codeAny_builtin PySem.F.entry_extend_loop ?_
    rw [Around.under_plainId PySem.F.plain_extend_loop _]
    show wpAny _ A.in1 (pyNext (.ref z) >>= _) _ _ _
    refine wpAny_bind (pyNext_map_end (s := { s with heap := h, toks := tk }) hh hz hT hit hlist (by simp) fun h' hk' => ?_)
    have nS : S ≠ it := Nat.ne_of_gt (Nat.lt_trans h1 (Nat.lt_trans h2 h3))
    refine wpAny_pure (hR h' tk acc c (fr_but F hk' (N (it, o) (by simp)).2.1 (N (it, o) (by simp)).2.2) (fun p hp => ?_) hacc)
    rcases List.mem_cons.mp hp with rfl | hp
    · have q := N (S, listOf acc c) (by simp)
      exact ⟨hk' _ _ nS q.1, q.2⟩
    · have q := N p (by simp [hp])
      exact ⟨hk' _ _ (nit p hp) q.1, q.2⟩
  | succ k ih =>
    intro i h tk acc c o hk hi F N ho hacc
    have hlt : i < xs.size := by omega
    have hz := (N (z, mapObj TI f) (by simp)).1
    have hT := (N (TI, oneTup it) (by simp)).1
    have hit := ho.at (N (it, o) (by simp)).1
    have hlist : h.IsList l xs := ⟨_, (N (l, listOf xs n) (by simp [hl])).1, rfl, n, rfl⟩
    have nz : z ≠ it := Nat.ne_of_gt (Nat.lt_trans h1 h2)
    have nT : TI ≠ it := Nat.ne_of_gt h1
    have nS : S ≠ it := Nat.ne_of_gt (Nat.lt_trans h1 (Nat.lt_trans h2 h3))
    refine codeAny_builtin PySem.F.entry_extend_loop ?_
    rw [Around.under_plainId PySem.F.plain_extend_loop _]
    show wpAny _ A.in1 (pyNext (.ref z) >>= _) _ _ _
    refine wpAny_bind (pyNext_map_item (s := { s with heap := h, toks := tk }) hz hT hit hlist (Array.getElem?_eq_getElem hlt) nz fun h' hi' hs' => ?_)
    obtain ⟨o', ho', hc1, hc2⟩ := hi'
    have F' : Fr h₀ L h' m := F.change hs' (N (it, o) (by simp)).2.1 (N (it, o) (by simp)).2.2
    have N' : News h₀ L h' ((S, listOf acc c) :: (z, mapObj TI f) :: (TI, oneTup it) :: (it, o') :: news) :=
      news_change (pre := [(S, listOf acc c), (z, mapObj TI f), (TI, oneTup it)]) N hs' ho' (by simp [nS, nz, nT]) nit
    refine hc i _ h' tk _ _ _ (Array.getElem?_eq_getElem hlt) F' N' fun v h'' tk' hP F'' N'' => ?_
    show wpAny _ A.in1 (updateSeq S (·.push v) >>= _) _ _ _
    refine wpAny_bind ?_
    have hS := (N'' (S, listOf acc c) (by simp)).1
    refine wpAny_updateSeq hS rfl (wpAny_pure ⟨plainId_quiet PySem.F.plain_extend_loop _, ?_⟩) (by rw [hacc.1]; omega) (by show (acc.push v).size ≤ sizeLine + 1; rw [Array.size_push, hacc.1]; omega)
    refine ih (i + 1) _ tk' (acc.push v) (c + 1) o' (by omega) hlt (F''.change (Heap.SameBut.update ..) (N'' (S, listOf acc c) (by simp)).2.1 (N'' (S, listOf acc c) (by simp)).2.2) ?_ ⟨hc1, hc2⟩ (hacc.push hP)
    refine news_change (pre := []) N'' (Heap.SameBut.update ..) ((Heap.get?_update_self _ hS rfl).trans (by rw [seq_push])) (fun _ h => nomatch h) ?_
    intro p hp
    rcases List.mem_cons.mp hp with rfl | hp
    · exact Nat.ne_of_lt h3
    rcases List.mem_cons.mp hp with rfl | hp
    · exact Nat.ne_of_lt (Nat.lt_trans h2 h3)
    rcases List.mem_cons.mp hp with rfl | hp
    · exact Nat.ne_of_lt (Nat.lt_trans h1 (Nat.lt_trans h2 h3))
    exact Nat.ne_of_lt (Nat.lt_trans (hn p hp) (Nat.lt_trans h1 (Nat.lt_trans h2 h3)))
end
end Mine
open PySem PySem.W PyProof.Rows PySem.Calls PySem.Spec
set_option Elab.async false
set_option maxRecDepth 100000
set_option maxHeartbeats 1000000
namespace Mine
section
variable {prog : Program} {w : World} {A : Around} {E : Value → Shared → Prop} {s : Shared} {h₀ : Heap} {L : Addr} {m : Str → Option Value} {news : List (Addr × Obj)}
theorem call_list_map {Q : Value → Shared → Prop} {z TI it l : Addr} {f : Value} {xs : Array Value} {n : Nat} {o : Obj} {P : Nat → Value → Prop} (hh : A.handled = none) (hc : CallEach prog w A.in1.in1.in1 h₀ L m f xs P s) (hsz : xs.size ≤ sizeLine)
    (F : Fr h₀ L s.heap m) (N : News h₀ L s.heap ((z, mapObj TI f) :: (TI, oneTup it) :: (it, o) :: news)) (ho : IterO l 0 o) (hl : (l, listOf xs n) ∈ news) (hn : ∀ p ∈ news, p.1 < it) (h1 : it < TI) (h2 : TI < z)
    (hQ : ∀ S h' tk acc c, Fr h₀ L h' m → News h₀ L h' ((S, listOf acc c) :: news) → (∀ p ∈ news, p.1 < S) → ItemsOf P acc xs.size → Q (.ref S) { s with heap := h', toks := tk }) :
    wpAny (model prog w) A (call (.type "list") [.ref z]) Q E s := by
  refine callType_codes (Q₁ := fun obj s₁ => obj = .ref s.heap.objs.size ∧ s₁ = { s with heap := s.heap.push { cls := .type "list", data := .seq #[] } }) PySem.F.called_list (PySem.F.typeCall_list_1 _) PySem.F.entry_list_init
    (code_list_new _ ⟨rfl, rfl⟩) fun obj s₁ h₁ => ?_
  obtain ⟨rfl, rfl⟩ := h₁
  have h3 : z < s.heap.objs.size := Heap.lt_size (N (z, mapObj TI f) (by simp)).1
  have hnz : ∀ p ∈ news, p.1 < s.heap.objs.size := fun p hp => Nat.lt_trans (hn p hp) (Nat.lt_trans h1 (Nat.lt_trans h2 h3))
  have F1 := F.push { cls := .type "list", data := .seq #[] }
  have N1 := N.push F { cls := .type "list", data := .seq #[] }
  generalize s.heap.push { cls := .type "list", data := .seq #[] } = H1 at F1 N1 ⊢
  generalize s.heap.objs.size = S at h3 hnz N1 ⊢
  have hS := (N1 (S, { cls := .type "list", data := .seq #[] }) (by simp)).1
  refine ⟨⟨_, hS, rfl⟩, PySem.F.args_list_init_2 _ _, ?_⟩
  show wpAny _ A.in1.in1 (do let old ← Builtin.List.listItems (.ref S); Builtin.List.listUpdate (.ref S) (fun _ => #[]); letGo old.toList.reverse; Builtin.List.listExtendWith (.ref S) (.ref z) .none) _ _ _
  refine wpAny_bind ?_
  unfold Builtin.List.listItems
  refine wpAny_bind (wpAny_seqItems hS rfl (wpAny_pure ?_))
  show wpAny _ A.in1.in1 (updateSeq S (fun _ => #[]) >>= fun _ => letGo (#[] : Array Value).toList.reverse >>= fun _ => Builtin.List.listExtendWith (.ref S) (.ref z) .none) _ _ _
  refine wpAny_bind (wpAny_updateSeq hS rfl ?_)
  have nS : ∀ p ∈ (z, mapObj TI f) :: (TI, oneTup it) :: (it, o) :: news, p.1 ≠ S := by
    intro p hp
    rcases List.mem_cons.mp hp with rfl | hp
    · exact Nat.ne_of_lt h3
    rcases List.mem_cons.mp hp with rfl | hp
    · exact Nat.ne_of_lt (Nat.lt_trans h2 h3)
    rcases List.mem_cons.mp hp with rfl | hp
    · exact Nat.ne_of_lt (Nat.lt_trans h1 (Nat.lt_trans h2 h3))
    exact Nat.ne_of_lt (hnz p hp)
  have upd : ∀ {H : Heap} {acc : Array Value} {c : Nat} (g : Array Value → Array Value), Fr h₀ L H m → News h₀ L H ((S, listOf acc c) :: (z, mapObj TI f) :: (TI, oneTup it) :: (it, o) :: news) →
      Fr h₀ L (H.update S (Obj.mapSeq g)) m ∧ ∃ c', News h₀ L (H.update S (Obj.mapSeq g)) ((S, listOf (g acc) c') :: (z, mapObj TI f) :: (TI, oneTup it) :: (it, o) :: news) := by
    intro H acc c g F N
    have hS := (N (S, listOf acc c) (by simp)).1
    refine ⟨F.change (Heap.SameBut.update ..) (N (S, listOf acc c) (by simp)).2.1 (N (S, listOf acc c) (by simp)).2.2, _, news_change (pre := []) N (Heap.SameBut.update ..) ((Heap.get?_update_self _ hS rfl).trans rfl) (fun _ h => nomatch h) nS⟩
  obtain ⟨F2, c2, N2⟩ := upd (acc := #[]) (c := 0) (fun _ => #[]) F1 N1
  refine wpAny_bind (wpAny_letGo ?_)
  have hz := (N2 (z, mapObj TI f) (by simp)).1
  have hSz : S ≠ z := Nat.ne_of_gt h3
  unfold Builtin.List.listExtendWith
  refine wpAny_bind (wpAny_typeOf (T := "map") ⟨_, hz, rfl⟩ ?_)
  have e1 : Builtin.List.listSameRef (.ref S) (.ref z) = false := by simp [Builtin.List.listSameRef, hSz]
  have e2 : (Value.type "map" == Value.type "list") = false := by decide
  have e3 : (Value.type "map" == Value.type "tuple") = false := by decide
  simp only [e1, e2, e3, Bool.or_false, Bool.false_eq_true, if_false]
  refine wpAny_bind (pyIter_map hz ?_)
  refine wpAny_bind (wpAny_holding ?_)
  unfold Builtin.List.listLengthHint
  refine wpAny_bind (wpAny_specialOf (T := "map") ⟨_, hz, rfl⟩ map_no_len ?_)
  show wpAny _ A.in1.in1 (specialOf (Value.ref z) (Str.ofString "__length_hint__") >>= _) _ _ _
  refine wpAny_bind (wpAny_specialOf (T := "map") ⟨_, hz, rfl⟩ map_no_hint ?_)
  refine wpAny_pure ?_
  show wpAny _ A.in1.in1 (rule "list.extend.makes-room" >>= fun _ => Builtin.List.listTouch (.ref S) >>= fun _ =>
    again (.builtin "list.extend.loop" ⟨[.ref S, .ref z, .none], []⟩)) _ _ _
  refine wpAny_bind (wpAny_rule ?_)
  refine wpAny_bind ?_
  show wpAny _ A.in1.in1 (updateSeq S (·.push .none) >>= fun _ => updateSeq S (·.pop)) _ _ _
  have hS2 := (N2 (S, listOf #[] c2) (by simp)).1
  refine wpAny_bind (wpAny_updateSeq hS2 rfl ?_)
  obtain ⟨F3, c3, N3⟩ := upd (·.push .none) F2 N2
  have hS3 := (N3 (S, listOf (#[].push .none) c3) (by simp)).1
  refine wpAny_updateSeq (hz := by seq_fits) hS3 rfl ?_
  obtain ⟨F4, c4, N4⟩ := upd (·.pop) F3 N3
  refine wpAny_pure ⟨plainId_quiet PySem.F.plain_extend_loop _, ?_⟩
  refine ext_loop_map (A := A.in1) hh hc hsz hl hn h1 h2 h3 (fun h' tk acc c F' N' hi => ⟨rfl, hQ S h' tk acc c F' N' hnz hi⟩) xs.size 0 _ s.toks #[] c4 o rfl (Nat.zero_le _) F4 N4 ho (ItemsOf.nil P)
end
end Mine
open PySem PySem.W PyProof.Rows PySem.Calls PySem.Spec
set_option Elab.async false
set_option maxRecDepth 100000
set_option maxHeartbeats 1000000
namespace Mine
theorem strs_set {x : Str} {u : Tok} : ∀ {vs : List Value} {ts : List Str}, StrsAre vs ts → ∀ j : Nat, StrsAre (vs.set j (.str x u)) (ts.set j x)
  | _, _, .nil, _ => .nil
  | _, _, .cons _ _ h, 0 => .cons x u h
  | _, _, .cons i t h, j + 1 => .cons i t (strs_set h j)
section
variable {prog : Program} {w : World} {A : Around} {E : Value → Shared → Prop} {s : Shared} {h₀ : Heap} {L D : Addr} {m : Str → Option Value} {rest : List (Addr × Obj)} {vs : List Value} {ts : List Str} {n : Nat} {k : Int} {x : Str} {t u : Tok}
theorem set_strs {Q : Unit → Shared → Prop} (F : Fr h₀ L s.heap m) (N : News h₀ L s.heap ((D, listOf vs.toArray n) :: rest)) (hne : ∀ p ∈ rest, p.1 ≠ D) (hi : StrsAre vs ts) (h0 : 0 ≤ k) (h1 : k < ts.length) (hfit : k < 2 ^ 63)
    (h : ∀ h' vs', Fr h₀ L h' m → News h₀ L h' ((D, listOf vs'.toArray n) :: rest) → StrsAre vs' (ts.set k.toNat x) → Q () { s with heap := h' }) :
    wpAny (model prog w) A (setItem (.ref D) (.int k t) (.str x u)) Q E s := by
  have z := N (D, listOf vs.toArray n) (.head _)
  have hl : vs.length = ts.length := hi.length
  have hs : vs.toArray.size = ts.length := by rw [List.size_toArray]; exact hl
  refine ki_setAt z.1 h0 hfit (by omega) (h _ (vs.set k.toNat (.str x u)) (F.change (Heap.SameBut.update ..) z.2.1 z.2.2) (ki_turn (pre := []) _ N (fun _ h => nomatch h) hne ?_ ?_) (strs_set hi _))
  · apply Array.toList_inj.mp
    simp
  · simp
theorem set_strs_last {Q : Unit → Shared → Prop} (F : Fr h₀ L s.heap m) (N : News h₀ L s.heap ((D, listOf vs.toArray n) :: rest)) (hne : ∀ p ∈ rest, p.1 ≠ D) (hi : StrsAre vs ts) (h1 : 0 < ts.length) (hfit : ts.length < 2 ^ 62)
    (h : ∀ h' vs', Fr h₀ L h' m → News h₀ L h' ((D, listOf vs'.toArray n) :: rest) → StrsAre vs' (ts.set (ts.length - 1) x) → Q () { s with heap := h' }) :
    wpAny (model prog w) A (setItem (.ref D) (.int (-1) t) (.str x u)) Q E s := by
  have z := N (D, listOf vs.toArray n) (.head _)
  have hl : vs.length = ts.length := hi.length
  have hs : vs.toArray.size = ts.length := by rw [List.size_toArray]; exact hl
  have e : (-1 + (vs.toArray.size : Int)).toNat = ts.length - 1 := by omega
  refine ki_setBack z.1 (by omega) (by omega) (by omega) (h _ (vs.set (ts.length - 1) (.str x u)) (F.change (Heap.SameBut.update ..) z.2.1 z.2.2) (ki_turn (pre := []) _ N (fun _ h => nomatch h) hne ?_ ?_) (strs_set hi _))
  · apply Array.toList_inj.mp
    rw [e]
    simp
  · simp
theorem append_strs {Q : Value → Shared → Prop} (F : Fr h₀ L s.heap m) (N : News h₀ L s.heap ((D, listOf vs.toArray n) :: rest)) (hne : ∀ p ∈ rest, p.1 ≠ D) (hi : StrsAre vs ts) (hz : ts.length ≤ 16777216)
    (h : ∀ h' vs' n', Fr h₀ L h' m → News h₀ L h' ((D, listOf vs'.toArray n') :: rest) → StrsAre vs' (ts ++ [x]) → Q .none { s with heap := h' }) :
    wpAny (model prog w) A (call (.builtin "list.append") [.ref D, .str x u]) Q E s := by
  have hl : vs.length = ts.length := hi.length
  refine append_K F N (.head hne) (fun h' F' N' => h h' (vs ++ [.str x u]) (n + 1) F' ?_ (hi.append' (.cons x u .nil))) (by rw [List.size_toArray, hl, sizeLine_eq]; exact hz)
  rw [List.push_toArray] at N'
  exact N'
theorem last_strs {value slice : PySem.Expr} {news : List (Addr × Obj)} {Q : Value → Shared → Prop} (N : News h₀ L s.heap news) (hm : (D, listOf vs.toArray n) ∈ news) (hi : StrsAre vs ts) (hx : ts[ts.length - 1]? = some x)
    (h : ∀ t, Q (.str x t) s) (hs : subscripted slice false (.ref D) (.int (-1) u) = operate [.ref D, .int (-1) u] (getItem (.ref D) (.int (-1) u)) := by with_unfolding_all rfl) :
    wpAny (model prog w) A (subscriptTail value slice (.ref D) (.int (-1) u)) Q E s := by
  have z := N _ hm
  have hl : vs.length = ts.length := hi.length
  have hz : vs.toArray.size = ts.length := by rw [List.size_toArray]; exact hl
  have hpos : 0 < ts.length := by
    have := (List.getElem?_eq_some_iff.mp hx).1
    omega
  obtain ⟨t', ht'⟩ := hi.get _ _ hx
  have hL : s.heap.IsList D vs.toArray := ⟨_, z.1, rfl, n, rfl⟩
  have e : (-1 + (vs.toArray.size : Int)).toNat = ts.length - 1 := by omega
  exact tail_any hL.typeIs slot_list_getitem.lookup (wpAny_getItem_list_neg hL (by omega) (by omega) (by omega) (by rw [e, List.getElem?_toArray]; exact ht') (h t')) hs
end
end Mine
open PySem PySem.W PyProof.Rows PySem.Calls PySem.Spec
set_option Elab.async false
set_option maxRecDepth 100000
set_option maxHeartbeats 8000000
namespace Mine
theorem strsAre_of {l : List Str} : ∀ {acc : List Value}, acc.length = l.length → (∀ (j : Nat) (v : Value), acc[j]? = some v → ∃ x t, l[j]? = some x ∧ v = Value.str x t) → StrsAre acc l := by
  induction l with
  | nil => intro acc h _; cases acc with
    | nil => exact .nil
    | cons _ _ => simp at h
  | cons x r ih =>
    intro acc h g
    cases acc with
    | nil => simp at h
    | cons v acc =>
      obtain ⟨y, t, e, rfl⟩ := g 0 v rfl
      have e' : x = y := by simpa using e
      subst e'
      exact .cons _ _ (ih (by simpa using h) fun j u hj => g (j + 1) u (by simpa using hj))
theorem strsAre_items {l : List Str} {acc : Array Value} {n : Nat} (h : ItemsOf (fun i v => ∃ x t, l[i]? = some x ∧ v = Value.str x t) acc n) (hn : n = l.length) : StrsAre acc.toList l :=
  strsAre_of (by simp [h.1, hn]) fun j v hj => h.2 j v (by simpa using hj)
noncomputable def wrapS (e : Str) : Str := Str.ofString "(?>.*?" ++ e ++ Str.ofString ")"
noncomputable def wrapTo (j : Nat) (es : List Str) : List Str := es.mapIdx fun i e => if 1 ≤ i ∧ i ≤ j then wrapS e else e
theorem wrapTo_zero (es : List Str) : wrapTo 0 es = es := by
  unfold wrapTo
  refine List.ext_getElem (by simp) fun i h1 h2 => ?_
  rw [List.getElem_mapIdx, if_neg (by omega)]
theorem wrapTo_length (j : Nat) (es : List Str) : (wrapTo j es).length = es.length := by simp [wrapTo]
theorem wrapTo_get {j i : Nat} {es : List Str} (h : i < es.length) (hji : j < i) : (wrapTo j es)[i]? = es[i]? := by
  simp only [wrapTo, List.getElem?_mapIdx, List.getElem?_eq_getElem h, Option.map_some]
  rw [if_neg (by omega)]
theorem wrapTo_step {j i : Nat} {es : List Str} {e : Str} (hi : i = j + 1) (he : es[i]? = some e) : (wrapTo j es).set i (wrapS e) = wrapTo (j + 1) es := by
  subst hi
  refine List.ext_getElem (by simp [wrapTo]) fun n h1 h2 => ?_
  simp only [wrapTo, List.getElem_set, List.getElem_mapIdx]
  by_cases h : j + 1 = n
  · subst h
    have h3 : j + 1 < es.length := by simpa [wrapTo] using h2
    rw [List.getElem?_eq_getElem h3] at he
    have he' := Option.some.inj he
    rw [if_pos rfl, if_pos (by omega), he']
  · rw [if_neg h]
    by_cases h4 : 1 ≤ n ∧ n ≤ j
    · rw [if_pos h4, if_pos (by omega)]
    · rw [if_neg h4, if_neg (by omega)]
theorem wrap_base (ES : List Str) : ES = wrapTo ([] : List Int).length ES ∧ ES.length = ES.length := ⟨(wrapTo_zero ES).symm, rfl⟩
theorem wrapTo_last {j i : Nat} {es : List Str} (h : i < es.length) (hji : j < i ∨ i = 0) : (wrapTo j es)[i]? = es[i]? := by
  rcases hji with hji | rfl
  · exact wrapTo_get h hji
  · simp only [wrapTo, List.getElem?_mapIdx, List.getElem?_eq_getElem h, Option.map_some]
    rw [if_neg (by omega)]
/-- the parts as `translate_pattern` leaves them -/
noncomputable def finalParts (es : List Str) : List Str := (wrapTo (es.length - 2) es).set (es.length - 1) (Str.ofString ".*" ++ es.getD (es.length - 1) Str.empty)
theorem finalParts_le {es : List Str} {B : Nat} (h : ∀ e ∈ es, e.length ≤ B) : ∀ y ∈ finalParts es, y.length ≤ B + 10 := by
  intro y hy
  unfold finalParts at hy
  have l2 : (Str.ofString ".*").length = 2 := by decide +kernel
  have l7 : (Str.ofString "(?>.*?").length = 6 := by decide +kernel
  have l1 : (Str.ofString ")").length = 1 := by decide +kernel
  rcases List.mem_or_eq_of_mem_set hy with hy | rfl
  · obtain ⟨i, hi, rfl⟩ := List.mem_iff_getElem.mp hy
    have hi' : i < es.length := by simpa [wrapTo] using hi
    have hb := h _ (List.getElem_mem hi')
    simp only [wrapTo, List.getElem_mapIdx]
    split
    · unfold wrapS
      rw [Str.length_append, Str.length_append]
      omega
    · omega
  · rw [Str.length_append, l2]
    have hb : (es.getD (es.length - 1) Str.empty).length ≤ B := by
      rw [List.getD_eq_getElem?_getD]
      cases e : es[es.length - 1]? with
      | none => exact Nat.zero_le _
      | some q => exact h _ (List.mem_of_getElem? e)
    omega
theorem finalParts_length (es : List Str) : (finalParts es).length = es.length := by simp [finalParts, wrapTo]
theorem neg_one {α : Type} : ∀ {l : List α}, 0 < l.length → (-1 + (l.length : Int)).toNat = l.length - 1
  | [], h => absurd h (Nat.lt_irrefl 0)
  | a :: r, _ => by rw [List.length_cons, Int.natCast_succ, Int.add_comm, Int.add_neg_cancel_right]; rfl
theorem turns_len : ∀ n : Nat, (rangeKs 1 ((n : Int) - 1 - 1).toNat).length = n - 2
  | 0 => by rw [rangeKs_length]; rfl
  | 1 => by rw [rangeKs_length]; rfl
  | n + 2 => by rw [rangeKs_length, Int.natCast_succ, Int.natCast_succ, Int.add_sub_cancel, Int.add_sub_cancel]; rfl
theorem lt_pred {n : Nat} (h : 0 < n) : n - 1 < n := Nat.sub_lt h Nat.one_pos
theorem last_two : ∀ n : Nat, n - 2 < n - 1 ∨ n - 1 = 0
  | 0 => .inr rfl
  | 1 => .inr rfl
  | n + 2 => .inl (Nat.lt_succ_self n)
theorem sum_join {n s : Nat} (h1 : n ≤ 1001) (h2 : s ≤ n * (2000 + 10)) : s + 0 ≤ 16777216 := by
  have := Nat.mul_le_mul h1 (Nat.le_refl (2000 + 10))
  omega
theorem translate_spec (w : World) (x : Str) (t : Tok) (hx : x.length ≤ 1000) (ha : ∀ p ∈ Txt.split x (Str.ofString "*"), ∀ c ∈ p.cps.toList, c < 128) (hps : (Txt.split x (Str.ofString "*")).length ≤ 1001) (hp0 : 0 < (Txt.split x (Str.ofString "*")).length) :
    ClaimV w 2 33 [.str x t] (fun t => .str (Txt.join (Str.ofString "") (finalParts ((Txt.split x (Str.ofString "*")).map escS))) t) := by
  k_with_none
  w_top off
  unfold ClaimV
  intro p loose mean mg mb news
  k_fill
  intros
  rename_i hret
  refine wpAny_call ?_
  k_dflt cell_enter
  k_steps
  rename Heap.IsList _ _ _ => hL
  rename Fr _ _ _ (fun _ => _) => F8
  rename News _ _ _ (_ :: _) => N8
  rename List.map _ _ = Txt.split _ _ => hsp
  rename StrsAre _ _ => hSA
  rename ∀ a ∈ _, Str.length a ≤ _ => hle
  refine call_map F8 N8 hL ?_
  intro z TI it h9 F9 N9 l1 l2 l3
  clear F8 N8 hL
  k_steps
  rw [hsp] at hSA hle
  have hlen := hSA.length
  generalize Txt.split x (Str.ofString "*") = PS at *
  refine call_list_map (P := fun i v => ∃ y t, (PS.map escS)[i]? = some y ∧ v = Value.str y t) rfl ?hc ?hsz F9 N9 ⟨rfl, rfl⟩ (.head _) l1 l2 l3 ?hQ
  case hsz => rw [List.size_toArray, hlen, sizeLine_eq]; omega
  case hc =>
    intro i v h tk own Q E hv F N hq
    have hv' : i < PS.length := by
      rw [← hlen]
      have := (Array.getElem?_eq_some_iff.mp hv).1
      simpa using this
    obtain ⟨u, hu⟩ := hSA.get i (PS[i]'hv') (List.getElem?_eq_getElem hv')
    have e : v = .str PS[i] u := by
      have hv2 := hv
      rw [List.getElem?_toArray, hu] at hv2
      exact (Option.some.inj hv2).symm
    subst e
    have hm := List.getElem_mem hv'
    k_dflt (refine' claim_use (escape_spec _ _ _ ?hx ?ha) ?k1 F ?k3 N ?k5 ?kK ?kd ?ku ?_)
    case hx => exact Nat.le_trans (hle _ hm) (by omega)
    case ha => exact ha _ hm
    (case k1 => k_asm); (case k3 => k_asm); (case k5 => k_asm); (case kK => first | exact rfl | assumption); (case kd => ktr_room); (case ku => ktr_units)
    intro t9 h9 tk9 F9 N9
    exact hq _ _ _ ⟨escS PS[i], t9, by simp [hv'], rfl⟩ F9 N9
  case hQ =>
    intro S h' tk acc c F N l4 hI
    have hS := strsAre_items hI (by rw [List.size_toArray, hlen, List.length_map])
    obtain ⟨vs⟩ := acc
    dsimp only at hS
    clear F9 N9 l1 l2 l3 hI
    have hz : (PS.map escS).length = PS.length := List.length_map _
    have hb : ∀ e ∈ PS.map escS, e.length ≤ 2000 := by
      intro e he
      obtain ⟨y, hy, rfl⟩ := List.mem_map.mp he
      have h1 := hle y hy
      have h2 := esc_len y.cps.toList
      have h3 : (escS y).length = (esc y.cps.toList).length := by simp [escS, Str.length]
      have h4 : y.cps.toList.length = y.length := by simp [Str.length]
      omega
    generalize PS.map escS = ES at hS hz hb hret
    have hE1 : ES.length ≤ 1001 := hz ▸ hps
    have hE0 : 0 < ES.length := hz ▸ hp0
    clear hz hps hp0 hlen hle ha hSA hsp hx
    k_with "pyIter ref" => skip
    k_with "state" => exact wrap_base _
    repeat' ((fail_if_success (with_reducible show wpAny _ _ (pyIter (Value.ref _)) (fun it s₂ => LoopAtV _ _ _ _ _ _ _ _ _ it s₂) _ _)); first | (k_unfold; (try dsimp only)) | (k_end; wrow_close) | walk1 | (dsimp only; walk1) | (leave1; walk_say "STEP leave1"; try dsimp only) | fail "no step")
    k_state (fun pre parts => parts = wrapTo pre.length ES ∧ parts.length = ES.length) "parts$"
    · k_steps
      rename _ = wrapTo _ _ => hP
      have hi : kN.toNat = kPre.length + 1 := by omega
      have hlt : kN.toNat < ES.length := by omega
      have hg : List.getD (wrapTo kPre.length ES) kN.toNat Str.empty = ES[kN.toNat] := by
        rw [List.getD_eq_getElem?_getD, wrapTo_get hlt (by omega), List.getElem?_eq_getElem hlt]; rfl
      have hel := hb _ (List.getElem_mem hlt)
      have hstep := wrapTo_step hi (List.getElem?_eq_getElem hlt)
      generalize ES[kN.toNat] = e9 at hg hel hstep
      rw [← hP] at hg hstep
      rw [hg]
      refine SB.field_str (fun t8 k8 => ?_) (by rw [sizeLine_eq]; omega)
      k_steps
      refine set_strs kFr kNews ?hne (by assumption) (by omega) (by omega) (by omega) fun h' vs' F' N' hS' => ?_
      case hne =>
        intro p hp
        rcases List.mem_cons.mp hp with rfl | hp
        · exact Nat.ne_of_lt (l4 _ (.head _))
        rcases List.mem_append.mp hp with hp | hp
        · exact Nat.ne_of_lt (l4 _ (.tail _ hp))
        · exact kOff p hp _ (.head _)
      have hst := hS'
      rw [show Str.ofString "(?>.*?" ++ e9 ++ Str.ofString ")" = wrapS e9 from rfl, hstep] at hst
      k_with "state" => exact ⟨by rw [List.length_append]; rfl, wrapTo_length _ _⟩
      k_steps
    · rename _ = wrapTo _ _ => hP
      rename List Str => fs
      have hfl : fs.length = ES.length := by assumption
      have hj : (rangeKs 1 ((ES.length : Int) - 1 - 1).toNat).length = ES.length - 2 := turns_len _
      rw [hj] at hP
      have hlen9 : (wrapTo (ES.length - 2) ES).length = ES.length := wrapTo_length _ _
      have hlast : (wrapTo (ES.length - 2) ES)[(wrapTo (ES.length - 2) ES).length - 1]? = some (ES.getD (ES.length - 1) Str.empty) := by
        rw [hlen9, wrapTo_last (lt_pred hE0) (last_two _), List.getElem?_eq_getElem (lt_pred hE0), List.getD_eq_getElem?_getD, List.getElem?_eq_getElem (lt_pred hE0)]
        rfl
      have hl9 : (ES.getD (ES.length - 1) Str.empty).length ≤ 2000 := by
        rw [List.getD_eq_getElem?_getD, List.getElem?_eq_getElem (lt_pred hE0)]
        exact hb _ (List.getElem_mem _)
      have hset : (wrapTo (ES.length - 2) ES).set ((wrapTo (ES.length - 2) ES).length - 1) (Str.ofString ".*" ++ ES.getD (ES.length - 1) Str.empty) = finalParts ES := by
        rw [hlen9]; rfl
      rw [← hP] at hlast hset
      have hg9 : List.getD fs (-1 + (fs.length : Int)).toNat Str.empty = ES.getD (ES.length - 1) Str.empty := by
        rw [List.getD_eq_getElem?_getD, neg_one (hfl ▸ hE0), hlast]; rfl
      generalize ES.getD (ES.length - 1) Str.empty = e9 at hg9 hlast hset hl9
      k_steps
      rw [hg9]
      refine SB.field_str (fun t8 k8 => ?_) (by rw [sizeLine_eq]; omega)
      k_steps
      refine set_strs_last kFr kNews ?hne (by assumption) (by omega) (by omega) fun h' vs' F' N' hS' => ?_
      case hne =>
        intro p hp
        rcases List.mem_cons.mp hp with rfl | hp
        · exact Nat.ne_of_lt (l4 _ (.head _))
        · exact Nat.ne_of_lt (l4 _ (.tail _ hp))
      rw [hset] at hS'
      clear kFr kNews
      k_steps
      have hfB := finalParts_le hb
      have hfl9 := finalParts_length ES
      have hsum := StrLaws.sumLen_le (finalParts ES) hfB
      refine join_list (News.isList N' (.head _)) hS' (by rw [show (Str.ofString "").length = 0 from by decide +kernel, Nat.mul_zero]; exact sum_join (hfl9 ▸ hE1) hsum) fun t7 k7 => ?_
      k_steps
      all_goals exact cb_retS hret rfl (by k_asm) (cb_drop (by assumption) fun _ hp => .tail _ (.tail _ hp))
end Mine
open PySem PySem.W PyProof.Rows PySem.Calls PySem.Spec
set_option Elab.async false
set_option maxRecDepth 100000
set_option maxHeartbeats 8000000
namespace Mine
noncomputable def sg (c : Int) : Str := ⟨#[c.toNat]⟩
/-- one turn of the loop of `_law_pattern` -/
noncomputable def lpStep (S : Int) (st : List Str × Int) (c : Int) : List Str × Int :=
  if c = 42 then (st.1 ++ (if st.2 + 1 > 1 then [Str.ofString ")"] else []) ++ [if st.2 + 1 = S then Str.ofString ".*" else Str.ofString "(?>.*?"], st.2 + 1)
  else (st.1 ++ [if isMark c.toNat then Str.ofString "\\" ++ sg c else sg c], st.2)
noncomputable def lpFold (S : Int) (I : List Str) (pre : List Int) : List Str × Int := pre.foldl (lpStep S) (I, 0)
@[irreducible] def lpInv (S : Int) (I : List Str) (pre : List Int) (ps : List Str) (met : Int) : Prop :=
  lpFold S I pre = (ps, met) ∧ ∀ y ∈ ps, y.length ≤ 7
theorem strs_one {h₀ h : Heap} {L l : Addr} {x : Str} {t : Tok} {n : Nat} {news : List (Addr × Obj)} (_N : News h₀ L h ((l, listOf #[Value.str x t] n) :: news)) : StrsAre [Value.str x t] [x] := .cons x t .nil
theorem lp_base (S : Int) (I : List Str) (h : I.length ≤ 1) (hI : ∀ y ∈ I, y.length ≤ 7) : lpInv S I [] I 0 ∧ I.length ≤ 2 * ([] : List Int).length + 1 := by
  unfold lpInv
  exact ⟨⟨rfl, hI⟩, by simpa using h⟩
theorem star_ne {n : Nat} (h : ((⟨#[n]⟩ : Str) != Str.ofString "*") = true) : ¬ ((n : Int) = 42) := by
  intro e
  have e' : n = 42 := by omega
  subst e'
  exact absurd h (by decide +kernel)
theorem star_eq {n : Nat} (h : ((⟨#[n]⟩ : Str) != Str.ofString "*") = false) : (n : Int) = 42 := by
  have e : (⟨#[n]⟩ : Str) = Str.ofString "*" := by simpa using h
  rw [show Str.ofString "*" = ⟨#[42]⟩ from by decide +kernel] at e
  have e2 := congrArg (fun z : Str => z.cps.toList) e
  simp at e2
  omega
theorem markN_one {n : Nat} : ((markN [n] : Nat) : Int) = 1 ↔ isMark n = true := by
  unfold markN
  cases h : isMark n <;> simp [h]
theorem lp_turn {S : Int} {I : List Str} {pre : List Int} {ps : List Str} {met c met' : Int} {qs : List Str} (h : lpInv S I pre ps met) (hl : ps.length ≤ 2 * pre.length + 1) (hs : lpStep S (ps, met) c = (ps ++ qs, met')) (hq : qs.length ≤ 2)
    (hy : ∀ y ∈ qs, y.length ≤ 7) : lpInv S I (pre ++ [c]) (ps ++ qs) met' ∧ (ps ++ qs).length ≤ 2 * (pre ++ [c]).length + 1 := by
  unfold lpInv at h ⊢
  refine ⟨⟨?_, ?_⟩, ?_⟩
  · unfold lpFold at h ⊢
    rw [List.foldl_append, h.1]
    exact hs
  · intro y hy'
    rcases List.mem_append.mp hy' with q | q
    · exact h.2 y q
    · exact hy y q
  · rw [List.length_append, List.length_append]
    simp only [List.length_cons, List.length_nil]
    omega
section
variable {S : Int} {I : List Str} {pre : List Int} {ps : List Str} {met : Int} {n : Nat}
theorem lp_mark (h : lpInv S I pre ps met) (hl : ps.length ≤ 2 * pre.length + 1) (h1 : ((⟨#[n]⟩ : Str) != Str.ofString "*") = true) (h2 : ((markN [n] : Nat) : Int) = 1) :
    lpInv S I (pre ++ [(n : Int)]) (ps ++ [Str.ofString "\\" ++ ⟨#[n]⟩]) met ∧ (ps ++ [Str.ofString "\\" ++ (⟨#[n]⟩ : Str)]).length ≤ 2 * (pre ++ [(n : Int)]).length + 1 := by
  have hm : isMark ((n : Int)).toNat = true := markN_one.mp h2
  refine lp_turn h hl ?_ (by simp) (by intro y hy; rw [List.mem_singleton.mp hy]; exact Nat.le_of_ble_eq_true rfl)
  unfold lpStep
  rw [if_neg (star_ne h1), if_pos hm]
  rfl
theorem lp_plain (h : lpInv S I pre ps met) (hl : ps.length ≤ 2 * pre.length + 1) (h1 : ((⟨#[n]⟩ : Str) != Str.ofString "*") = true) (h2 : ((markN [n] : Nat) : Int) ≠ 1) :
    lpInv S I (pre ++ [(n : Int)]) (ps ++ [⟨#[n]⟩]) met ∧ (ps ++ [(⟨#[n]⟩ : Str)]).length ≤ 2 * (pre ++ [(n : Int)]).length + 1 := by
  have hm : ¬ isMark ((n : Int)).toNat = true := fun q => h2 (markN_one.mpr q)
  refine lp_turn h hl ?_ (by simp) (by intro y hy; rw [List.mem_singleton.mp hy]; exact Nat.le_of_ble_eq_true rfl)
  unfold lpStep
  rw [if_neg (star_ne h1), if_neg hm]
  rfl
theorem lp_star0 (h : lpInv S I pre ps met) (hl : ps.length ≤ 2 * pre.length + 1) (h1 : ((⟨#[n]⟩ : Str) != Str.ofString "*") = false) (h2 : ¬ 1 < met + 1) (h3 : met + 1 = S) :
    lpInv S I (pre ++ [(n : Int)]) (ps ++ [Str.ofString ".*"]) (met + 1) ∧ (ps ++ [Str.ofString ".*"]).length ≤ 2 * (pre ++ [(n : Int)]).length + 1 := by
  refine lp_turn h hl ?_ (by simp) (by intro y hy; rw [List.mem_singleton.mp hy]; exact Nat.le_of_ble_eq_true rfl)
  unfold lpStep
  rw [if_pos (star_eq h1), if_neg h2, if_pos h3, List.append_nil]
theorem lp_star1 (h : lpInv S I pre ps met) (hl : ps.length ≤ 2 * pre.length + 1) (h1 : ((⟨#[n]⟩ : Str) != Str.ofString "*") = false) (h2 : ¬ 1 < met + 1) (h3 : met + 1 ≠ S) :
    lpInv S I (pre ++ [(n : Int)]) (ps ++ [Str.ofString "(?>.*?"]) (met + 1) ∧ (ps ++ [Str.ofString "(?>.*?"]).length ≤ 2 * (pre ++ [(n : Int)]).length + 1 := by
  refine lp_turn h hl ?_ (by simp) (by intro y hy; rw [List.mem_singleton.mp hy]; exact Nat.le_of_ble_eq_true rfl)
  unfold lpStep
  rw [if_pos (star_eq h1), if_neg h2, if_neg h3, List.append_nil]
theorem lp_star2 (h : lpInv S I pre ps met) (hl : ps.length ≤ 2 * pre.length + 1) (h1 : ((⟨#[n]⟩ : Str) != Str.ofString "*") = false) (h2 : 1 < met + 1) (h3 : met + 1 = S) :
    lpInv S I (pre ++ [(n : Int)]) (ps ++ [Str.ofString ")"] ++ [Str.ofString ".*"]) (met + 1) ∧ (ps ++ [Str.ofString ")"] ++ [Str.ofString ".*"]).length ≤ 2 * (pre ++ [(n : Int)]).length + 1 := by
  rw [List.append_assoc]
  refine lp_turn h hl ?_ (by simp) (by intro y hy; simp at hy; rcases hy with rfl | rfl <;> exact Nat.le_of_ble_eq_true rfl)
  unfold lpStep
  rw [if_pos (star_eq h1), if_pos h2, if_pos h3, List.append_assoc]
theorem lp_star3 (h : lpInv S I pre ps met) (hl : ps.length ≤ 2 * pre.length + 1) (h1 : ((⟨#[n]⟩ : Str) != Str.ofString "*") = false) (h2 : 1 < met + 1) (h3 : met + 1 ≠ S) :
    lpInv S I (pre ++ [(n : Int)]) (ps ++ [Str.ofString ")"] ++ [Str.ofString "(?>.*?"]) (met + 1) ∧ (ps ++ [Str.ofString ")"] ++ [Str.ofString "(?>.*?"]).length ≤ 2 * (pre ++ [(n : Int)]).length + 1 := by
  rw [List.append_assoc]
  refine lp_turn h hl ?_ (by simp) (by intro y hy; simp at hy; rcases hy with rfl | rfl <;> exact Nat.le_of_ble_eq_true rfl)
  unfold lpStep
  rw [if_pos (star_eq h1), if_pos h2, if_neg h3, List.append_assoc]
end
theorem lp_join {S : Int} {I : List Str} {l : List Int} {ps : List Str} {met : Int} {n : Nat} (h : lpInv S I l ps met) (hl : ps.length ≤ 2 * n + 1) (hn : n ≤ 1000) : (ps.map (·.length)).sum + ps.length * (Str.ofString "").length ≤ 16777216 := by
  unfold lpInv at h
  have hsum := StrLaws.sumLen_le ps h.2
  rw [show (Str.ofString "").length = 0 from by decide +kernel, Nat.mul_zero]
  have hmul : ps.length * 7 ≤ 2001 * 7 := Nat.mul_le_mul (by omega) (Nat.le_refl _)
  omega
theorem lp_val {S : Int} {I : List Str} {l : List Int} {ps : List Str} {met : Int} (h : lpInv S I l ps met) : (lpFold S I l).1 = ps := by
  unfold lpInv at h
  rw [h.1]
/-- what `_law_pattern` gives back -/
noncomputable def lawPat (x : Str) : Str := Txt.join (Str.ofString "") (lpFold (Txt.count x (Str.ofString "*")) (if Txt.count x (Str.ofString "*") = 0 then [Str.ofString ".*"] else []) (KStt.codes x)).1
local macro_rules | `(tactic| walk_at "call builtin:list.append") => `(tactic| k_extra "call builtin:list.append")
theorem pattern_spec (w : World) (x : Str) (t : Tok) (hx : x.length ≤ 1000) : ClaimV w 2 66 [.str x t] (fun t => .str (lawPat x) t) := by
  k_with_none
  w_top off
  unfold ClaimV
  k_with "call ref" => (k_here; k_dflt (refine' claim_use (marked_spec _ _ _ ?hx) ?k1 ?k2 ?k3 ?k4 ?k5 ?kK ?kd ?ku ?_; (case hx => first | assumption | exact Nat.le_of_ble_eq_true rfl); (case k1 => k_asm); (case k2 => k_asm); (case k3 => k_asm); (case k4 => k_asm); (case k5 => k_asm); (case kK => first | exact rfl | assumption); (case kd => ktr_room); (case ku => ktr_units)); intro t9 h9 tk9 F9 N9; (try dsimp only); (try k_fold))
  k_with "call builtin:list.append" => (k_here; (with_reducible show wpAny _ _ (call (Value.builtin "list.append") [Value.ref _, Value.str _ _]) _ _ _); k_dflt (refine' append_strs ?F ?N ?hne ?hi ?hz ?_; (case F => k_asm); (case N => k_asm); (case hne => k_all); (case hi => assumption); (case hz => ((try simp only [List.length_append, List.length_cons, List.length_nil]); omega))); intro h' vs' n' F' N' hS'; (try k_sweep))
  intro p loose mean mg mb news
  k_fill
  intros
  rename_i hret
  refine wpAny_call ?_
  k_dflt cell_enter
  k_with "pyIter str" => skip
  repeat' ((fail_if_success (with_reducible show wpAny _ _ (pyIter (Value.str _ _)) (fun it s₂ => LoopAtV _ _ _ _ _ _ _ _ _ it s₂) _ _)); first | (k_unfold; (try dsimp only)) | (k_end; wrow_close) | walk1 | (dsimp only; walk1) | (leave1; walk_say "STEP leave1"; try dsimp only) | fail "no step")
  · have hb0 := lp_base (Txt.count x (Str.ofString "*")) [Str.ofString ".*"] (by decide) (by decide +kernel)
    rename News _ _ _ (_ :: _) => N8
    have hs0 := strs_one N8
    k_with "state" => first
      | exact hb0
      | exact lp_mark (by assumption) (by assumption) (by assumption) (by assumption)
      | exact lp_plain (by assumption) (by assumption) (by assumption) (by assumption)
      | exact lp_star0 (by assumption) (by assumption) (by assumption) (by assumption) (by assumption)
      | exact lp_star1 (by assumption) (by assumption) (by assumption) (by assumption) (by assumption)
      | exact lp_star2 (by assumption) (by assumption) (by assumption) (by assumption) (by assumption)
      | exact lp_star3 (by assumption) (by assumption) (by assumption) (by assumption) (by assumption)
    k_state (fun pre ps met => lpInv (Txt.count x (Str.ofString "*")) [Str.ofString ".*"] pre ps met ∧ ps.length ≤ 2 * pre.length + 1) "pieces$" "met"
    · k_steps
    · k_steps
      rename lpInv _ _ _ _ _ => hinv
      refine join_list (News.isList kNews (.head _)) (by assumption) (lp_join hinv (by assumption) hx) fun t7 k7 => ?_
      have hv := lp_val hinv
      k_steps
      all_goals exact cb_retS hret (by unfold lawPat; rw [if_pos (by assumption), hv]) (by k_asm) (cb_drop (by assumption) fun _ hp => .tail _ hp)
  · have hb0 := lp_base (Txt.count x (Str.ofString "*")) [] (by decide) (by decide +kernel)
    have hs0 : StrsAre [] [] := .nil
    k_with "state" => first
      | exact hb0
      | exact lp_mark (by assumption) (by assumption) (by assumption) (by assumption)
      | exact lp_plain (by assumption) (by assumption) (by assumption) (by assumption)
      | exact lp_star0 (by assumption) (by assumption) (by assumption) (by assumption) (by assumption)
      | exact lp_star1 (by assumption) (by assumption) (by assumption) (by assumption) (by assumption)
      | exact lp_star2 (by assumption) (by assumption) (by assumption) (by assumption) (by assumption)
      | exact lp_star3 (by assumption) (by assumption) (by assumption) (by assumption) (by assumption)
    k_state (fun pre ps met => lpInv (Txt.count x (Str.ofString "*")) [] pre ps met ∧ ps.length ≤ 2 * pre.length + 1) "pieces$" "met"
    · k_steps
    · k_steps
      rename lpInv _ _ _ _ _ => hinv
      refine join_list (News.isList kNews (.head _)) (by assumption) (lp_join hinv (by assumption) hx) fun t7 k7 => ?_
      have hv := lp_val hinv
      k_steps
      all_goals exact cb_retS hret (by unfold lawPat; rw [if_neg (by assumption), hv]) (by k_asm) (cb_drop (by assumption) fun _ hp => .tail _ hp)
end Mine
open PySem PySem.W PyProof.Rows PySem.Calls PySem.Spec
set_option Elab.async false
set_option maxRecDepth 100000
set_option maxHeartbeats 3200000
namespace Mine
theorem sub1 {a : Addr × Obj} {news own : List (Addr × Obj)} : ∀ p ∈ a :: news, p ∈ a :: (news ++ own) := fun p hp => (List.mem_cons.mp hp).elim (fun e => e ▸ .head _) fun q => .tail _ (List.mem_append.mpr (.inl q))
theorem sub2 {a b : Addr × Obj} {news own : List (Addr × Obj)} : ∀ p ∈ a :: b :: news, p ∈ a :: b :: (news ++ own) := fun p hp => (List.mem_cons.mp hp).elim (fun e => e ▸ .head _) fun q => .tail _ (sub1 p q)
theorem drop2 {a b : Addr × Obj} {news : List (Addr × Obj)} : ∀ p ∈ a :: news, p ∈ a :: b :: news := fun p hp => (List.mem_cons.mp hp).elim (fun e => e ▸ .head _) fun q => .tail _ (.tail _ q)
theorem own1 {a : Addr × Obj} {news own : List (Addr × Obj)} : ∀ p ∈ own, p ∈ a :: (news ++ own) := fun p hp => .tail _ (List.mem_append.mpr (.inr hp))
theorem own2 {a b : Addr × Obj} {news own : List (Addr × Obj)} : ∀ p ∈ own, p ∈ a :: b :: (news ++ own) := fun p hp => .tail _ (own1 p hp)
section
variable {prog : Program} {w : World} {A : Around} {E : Value → Shared → Prop} {s : Shared} {env : Env} {h₀ : Heap} {x : Str} {body : List Stmt} {Q : Flow → Shared → Prop}
/-- a for over a list of strs of the ledger: the word speaks of the number of turns -/
theorem loop_strs {σ : Type} {l : Addr} {vs : List Value} {ts : List Str} {nn : Nat} {m₀ : Str → Option Value} (Led : σ → List (Addr × Obj)) (ps : σ → List (Str × Value)) (Facts : σ → Prop) (stored : List Str) (P : List Int → σ → Prop) (c₀ : σ)
    (hh : A.handled = none) (hl : ∀ c : σ, (l, listOf vs.toArray nn) ∈ Led c) (hadr : ∀ c : σ, (Led c).map (·.1) = (Led c₀).map (·.1)) (hi : StrsAre vs ts) (F : Fr h₀ env.locals s.heap m₀) (N : News h₀ env.locals s.heap (Led c₀)) (hf : Facts c₀) (hk : ∀ p ∈ ps c₀, m₀ p.1 = some p.2) (hp : P [] c₀)
    (turn : ∀ (c : σ) (pre : List Int) y t (u : Str → Option Value) h tk own, ts[pre.length]? = some y → pre.length < ts.length → OwnOff own ((Led c₀).map (·.1)) → Facts c → P pre c →
      Fr h₀ env.locals h (fun z => if z = x then some (.str y t) else kstB (fun z => if stored.contains z then u z else m₀ z) (ps c) z) → News h₀ env.locals h (Led c ++ own) →
      wpAny (model prog w) A (execs body env) (InvPostN h₀ env.locals (KstS Led ps Facts x stored m₀ P (pre ++ [(pre.length : Int)])) own ((Led c₀).map (·.1)) { s with heap := h, toks := tk } Q) E { s with heap := h, toks := tk })
    (done : ∀ (c : σ) (u : Str → Option Value) h tk, Facts c → P (rangeKs 0 ts.length) c → Fr h₀ env.locals h (fun z => if z = x then u z else kstB (fun z => if stored.contains z then u z else m₀ z) (ps c) z) → News h₀ env.locals h (Led c) → Q .next { s with heap := h, toks := tk }) :
    wpAny (model prog w) A (pyIter (.ref l)) (fun it s₂ => LoopAtV prog w A h₀ env x body Q E it s₂) E s := by
  have hlen : vs.length = ts.length := hi.length
  refine kdl_iter (fun i m nx => KstS Led ps Facts x stored m₀ P ((rangeKs 0 ts.length).take i) m nx) hh (hl c₀) F N ⟨c₀, rfl, hf, hk, fun _ _ _ _ => rfl, by simpa using hp⟩ ?_ ?_
  · rintro i v m₁ nx h tk own hv hoff hmem ⟨c, rfl, hf', h1, h2, hp'⟩ F₁ N₁
    have hi' : i < ts.length := by
      rw [← hlen]
      exact (List.getElem?_eq_some_iff.mp hv).1
    obtain ⟨t, ht⟩ := hi.get i ts[i] (List.getElem?_eq_getElem hi')
    rw [hv] at ht
    have e := Option.some.inj ht
    subst e
    have hl' : ((rangeKs 0 ts.length).take i).length = i := by rw [List.length_take, rangeKs_length]; omega
    have hk' : (rangeKs 0 ts.length)[i]? = some (i : Int) := by simp [rangeKs, hi']
    have hs : (rangeKs 0 ts.length).take (i + 1) = (rangeKs 0 ts.length).take i ++ [(((rangeKs 0 ts.length).take i).length : Int)] := by
      rw [hl']; simp [List.take_add_one, hk']
    rw [hs]
    have hoff' : OwnOff own ((Led c₀).map (·.1)) := by rw [← hadr c]; exact hoff
    refine wpAny_mono (turn c _ _ t m₁ h tk own (by rw [hl']; exact List.getElem?_eq_getElem hi') (by rw [hl']; exact hi') hoff' hf' hp' (kst_fr h1 h2 F₁) N₁) (fun f s₂ p => ?_) fun _ _ x => x
    have up : InvEndN h₀ env.locals (KstS Led ps Facts x stored m₀ P ((rangeKs 0 ts.length).take i ++ [(((rangeKs 0 ts.length).take i).length : Int)])) own ((Led c₀).map (·.1)) { s with heap := h, toks := tk } s₂ →
        InvEndG h₀ env.locals (fun m' nx => (l, listOf vs.toArray nn) ∈ nx ∧ KstS Led ps Facts x stored m₀ P ((rangeKs 0 ts.length).take i ++ [(((rangeKs 0 ts.length).take i).length : Int)]) m' nx) own { s with heap := h, toks := tk } s₂ := by
      rintro ⟨h', tk', m', news', nx', e', F', N', hn', ho', ha, hS⟩
      refine ⟨h', tk', m', news', nx', e', F', N', hn', ho', by rw [ha]; exact hoff', ?_, hS⟩
      obtain ⟨c', rfl, _⟩ := hS
      exact hl c'
    cases f with
    | ret v => exact p
    | brk => exact p
    | next => exact up p
    | cont => exact up p
  · rintro m₁ nx h tk ⟨c, rfl, hf', h1, h2, hp'⟩ F₁ N₁
    rw [hlen, List.take_of_length_le (Nat.le_of_eq (rangeKs_length _ _))] at hp'
    exact done c m₁ h tk hf' hp' (kst_frOut h1 h2 F₁) N₁
end
end Mine
open PySem PySem.W PyProof.Rows PySem.Calls PySem.Spec
set_option Elab.async false
set_option maxRecDepth 100000
set_option maxHeartbeats 8000000
namespace Mine
/-- a call of a def upon two lists of the ledger that hands back a new list of strs -/
def ClaimL (w : World) (lv : Nat) (f la lb : Addr) (o1 o2 : Obj) (R : List Str) : Prop :=
  ∀ (p : Program) (loose : List Str) (mean : ExcName → Option Value) (mg mb : Str → Option Value) (news : List (Addr × Obj))
    (dp un : Nat) (gd : Option (List Code)) (cn : Str) (cs : Scope) (a : Addr) (ccd : Value) (cl : List (Str × Addr)) (outer : List Env) (A₀ : Around) (base h₀ : Heap) (L : Addr) (m : Str → Option Value) (s : Shared) (Q E : Value → Shared → Prop),
    Below A₀ base outer h₀ → Fr h₀ L s.heap m → (hd.heap_39 w.params).In h₀ → News h₀ L s.heap news → Top p loose mean mg mb h₀ → cs.kind = .function → dp + 10 * lv < recursionLimit → un + 100 * lv < cLine →
    (la, o1) ∈ news → (lb, o2) ∈ news →
    (∀ (l : Addr) (vs : List Value) (n : Nat) (h' : Heap) (tk' : Nat), Fr h₀ L h' m → News h₀ L h' ((l, listOf vs.toArray n) :: news) → (∀ p ∈ news, p.1 < l) → StrsAre vs R → Q (.ref l) { s with heap := h', toks := tk' }) →
    wpAny (model PySem.Challenge.rw_in0155_01.row.prog w) (ktrTop dp un gd cn cs L a ccd cl outer) (call (.ref f) [.ref la, .ref lb]) Q E s

noncomputable abbrev Cnt := List (Str × Int)
noncomputable def up1 (c : Cnt) (y : Str) : Cnt := kdpPut c y (kdpLook c y 0 + 1)
noncomputable def dn1 (c : Cnt) (y : Str) : Cnt := kdpPut c y (kdpLook c y 0 - 1)
noncomputable def takeStep (st : Cnt × List Str) (y : Str) : Cnt × List Str := if kdpLook st.1 y 0 > 0 then (dn1 st.1 y, st.2 ++ [y]) else st
/-- what `_law_more` gives back -/
noncomputable def moreL (a b : List Str) : List Str := (b.foldl takeStep (a.foldl dn1 (b.foldl up1 []), [])).2
noncomputable abbrev DictSt := Obj × List (Str × Value) × Cnt
abbrev DictOk (w : World) (c : DictSt) : Prop := Obj.IsDictOf (PySem.strKind PySem.Challenge.rw_in0155_01.row.prog w) c.1 c.2.1 ∧ PyProof.V.FlatPairs PyData.str c.2.1 (kdpD c.2.2)
theorem up_next {b : List Str} {c : Cnt} {pre : List Int} {y : Str} (h : c = (b.take pre.length).foldl up1 [] ∧ c.length ≤ pre.length) (hy : b[pre.length]? = some y) :
    kdpPut c y (kdpLook c y 0 + 1) = (b.take (pre ++ [(pre.length : Int)]).length).foldl up1 [] ∧ (kdpPut c y (kdpLook c y 0 + 1)).length ≤ (pre ++ [(pre.length : Int)]).length := by
  have e : (pre ++ [(pre.length : Int)]).length = pre.length + 1 := by simp
  refine ⟨?_, ?_⟩
  · rw [e, List.take_add_one, hy, List.foldl_append, ← h.1]
    rfl
  · have := kdpPut_len c y (kdpLook c y 0 + 1)
    omega
theorem dn_next {a : List Str} {C c : Cnt} {pre : List Int} {y : Str} {B : Nat} (h : c = (a.take pre.length).foldl dn1 C ∧ c.length ≤ B + pre.length) (hy : a[pre.length]? = some y) :
    kdpPut c y (kdpLook c y 0 - 1) = (a.take (pre ++ [(pre.length : Int)]).length).foldl dn1 C ∧ (kdpPut c y (kdpLook c y 0 - 1)).length ≤ B + (pre ++ [(pre.length : Int)]).length := by
  have e : (pre ++ [(pre.length : Int)]).length = pre.length + 1 := by simp
  refine ⟨?_, ?_⟩
  · rw [e, List.take_add_one, hy, List.foldl_append, ← h.1]
    rfl
  · have := kdpPut_len c y (kdpLook c y 0 - 1)
    omega
def TakeInv (b : List Str) (C : Cnt) (B : Nat) (pre : List Int) (c : Cnt) (tk : List Str) : Prop :=
  (c, tk) = (b.take pre.length).foldl takeStep (C, []) ∧ c.length ≤ B + pre.length ∧ tk.length ≤ pre.length ∧ ∀ y ∈ b, kdpHas c y = true
theorem take_next {b : List Str} {C c : Cnt} {B : Nat} {pre : List Int} {tk : List Str} {y : Str} (h : TakeInv b C B pre c tk) (hy : b[pre.length]? = some y) (hc : kdpLook c y 0 > 0) :
    TakeInv b C B (pre ++ [(pre.length : Int)]) (kdpPut c y (kdpLook c y 0 - 1)) (tk ++ [y]) := by
  have e : (pre ++ [(pre.length : Int)]).length = pre.length + 1 := by simp
  obtain ⟨h1, h2, h3, h4⟩ := h
  refine ⟨?_, ?_, ?_, fun z hz => ?_⟩
  · rw [e, List.take_add_one, hy, List.foldl_append, ← h1]
    show _ = takeStep (c, tk) y
    unfold takeStep
    rw [if_pos hc]
    rfl
  · have := kdpPut_len c y (kdpLook c y 0 - 1)
    omega
  · rw [List.length_append, e]; simp; omega
  · rw [kdpHas_put, h4 z hz]; simp
theorem take_same {b : List Str} {C c : Cnt} {B : Nat} {pre : List Int} {tk : List Str} {y : Str} (h : TakeInv b C B pre c tk) (hy : b[pre.length]? = some y) (hc : ¬ kdpLook c y 0 > 0) :
    TakeInv b C B (pre ++ [(pre.length : Int)]) c tk := by
  have e : (pre ++ [(pre.length : Int)]).length = pre.length + 1 := by simp
  obtain ⟨h1, h2, h3, h4⟩ := h
  refine ⟨?_, by omega, by omega, h4⟩
  rw [e, List.take_add_one, hy, List.foldl_append, ← h1]
  show _ = takeStep (c, tk) y
  unfold takeStep
  rw [if_neg hc]
theorem has_up : ∀ (b : List Str) (c : Cnt) (y : Str), (y ∈ b ∨ kdpHas c y = true) → kdpHas (b.foldl up1 c) y = true
  | [], c, y, h => h.elim (fun q => nomatch q) id
  | z :: r, c, y, h => by
    refine has_up r (up1 c z) y ?_
    rcases h with h | h
    · rcases List.mem_cons.mp h with rfl | h
      · right; unfold up1; rw [kdpHas_put]; simp
      · exact .inl h
    · right; unfold up1; rw [kdpHas_put, h]; simp
theorem has_dn : ∀ (a : List Str) (c : Cnt) (y : Str), kdpHas c y = true → kdpHas (a.foldl dn1 c) y = true
  | [], c, y, h => h
  | z :: r, c, y, h => has_dn r (dn1 c z) y (by unfold dn1; rw [kdpHas_put, h]; simp)
theorem more_spec (w : World) (la lb : Addr) (us vs : List Value) (a b : List Str) (n k : Nat) (ha : StrsAre us a) (hb : StrsAre vs b) (ha1 : a.length ≤ 1000) (hb1 : b.length ≤ 4000) : ClaimL w 1 73 la lb (listOf us.toArray n) (listOf vs.toArray k) (moreL a b) := by
  k_with_none
  w_top off
  unfold ClaimL
  k_with "call builtin:list.append" => (k_here; (with_reducible show wpAny _ _ (call (Value.builtin "list.append") [Value.ref _, Value.str _ _]) _ _ _); k_dflt (refine' append_strs ?F ?N ?hne ?hi ?hz ?_; (case F => k_asm); (case N => k_asm); (case hne => k_all); (case hi => assumption); (case hz => ((try simp only [List.length_append, List.length_cons, List.length_nil]); omega))); intro h' vs' n' F' N' hS'; (try k_sweep))
  intro p loose mean mg mb news
  k_fill
  intros
  rename (la, _) ∈ news => hla
  rename (lb, _) ∈ news => hlb
  rename_i hret
  refine wpAny_call ?_
  k_dflt cell_enter
  k_with "pyIter ref" => skip
  repeat' ((fail_if_success (with_reducible show wpAny _ _ (pyIter (Value.ref _)) (fun it s₂ => LoopAtV _ _ _ _ _ _ _ _ _ it s₂) _ _)); first | (k_unfold; (try dsimp only)) | (k_end; wrow_close) | walk1 | (dsimp only; walk1) | (leave1; walk_say "STEP leave1"; try dsimp only) | fail "no step")
  rename Fr _ _ _ _ => F1
  rename News _ _ _ (_ :: _) => N1
  rename Obj => o0
  rename Obj.IsDictOf (PySem.strKind _ _) _ _ => hd1
  rename PyProof.V.FlatPairs PyData.str _ _ => hf1
  have kMk := kstMark
  refine loop_strs (σ := DictSt) (fun c => (_, c.1) :: news) (fun _ => []) (DictOk w) [] (fun pre c => c.2.2 = (b.take pre.length).foldl up1 [] ∧ c.2.2.length ≤ pre.length) (o0, [], []) rfl (fun c => .tail _ hlb) (fun _ => rfl) hb F1 N1 ⟨hd1, hf1⟩ (fun _ h => nomatch h) ⟨rfl, Nat.le_refl _⟩ ?_ ?_
  · rintro ⟨o, kvs, c⟩ pre y t u h tk own hy hlt hoff ⟨hd2, hf2⟩ hP F N
    clear F1 N1 hd1 hf1
    (try dsimp only [kstB] at F); (try dsimp only at N hd2 hf2 hP); (try simp only [List.map_cons] at hoff)
    (try simp only [List.cons_append] at N)
    obtain ⟨hP1, hP2⟩ := hP
    (try k_fold)
    k_steps
    rename Obj.IsDictOf _ _ _ => hd3
    rename PyProof.V.FlatPairs _ _ _ => hf3
    rename News _ _ _ _ => N3
    rename Fr _ _ _ _ => F3
    refine kst_end (_, _, kdpPut c y (kdpLook c y 0 + 1)) F3 N3 ?_ ?_ ?_ ⟨hd3, hf3⟩ (fun _ h => nomatch h) ?_ (up_next ⟨hP1, hP2⟩ hy)
    · exact sub1
    · exact own1
    · rfl
    · kst_same
  · rintro ⟨o, kvs, c⟩ u h tk ⟨hd2, hf2⟩ ⟨hP1, hP2⟩ F N
    clear F1 N1 hd1 hf1
    (try dsimp only [kstB] at F); (try dsimp only at N hd2 hf2 hP1 hP2)
    rw [rangeKs_length] at hP1 hP2
    (try k_fold)
    repeat' ((fail_if_success (with_reducible show wpAny _ _ (pyIter (Value.ref _)) (fun it s₂ => LoopAtV _ _ _ _ _ _ _ _ _ it s₂) _ _)); first | (k_unfold; (try dsimp only)) | (k_end; wrow_close) | walk1 | (dsimp only; walk1) | (leave1; walk_say "STEP leave1"; try dsimp only) | fail "no step")
    rw [List.take_length] at hP1
    subst hP1
    have hC : ∀ y ∈ b, kdpHas (b.foldl up1 []) y = true := fun y hy => has_up b [] y (.inl hy)
    generalize hC1 : b.foldl up1 [] = C1 at *
    rename Fr _ _ _ _ => F1
    refine loop_strs (σ := DictSt) (fun c => (_, c.1) :: news) (fun _ => []) (DictOk w) [] (fun pre c => c.2.2 = (a.take pre.length).foldl dn1 C1 ∧ c.2.2.length ≤ b.length + pre.length) (o, kvs, C1) rfl (fun c => .tail _ hla) (fun _ => rfl) ha F1 N ⟨hd2, hf2⟩ (fun _ h => nomatch h) ⟨rfl, hP2⟩ ?_ ?_
    · rintro ⟨o, kvs, c⟩ pre y t u h tk own hy hlt hoff ⟨hd2, hf2⟩ hP F N
      clear F1
      (try dsimp only [kstB] at F); (try dsimp only at N hd2 hf2 hP); (try simp only [List.map_cons] at hoff)
      (try simp only [List.cons_append] at N)
      obtain ⟨hP1, hP2⟩ := hP
      (try k_fold)
      k_steps
      rename Obj.IsDictOf _ _ _ => hd3
      rename PyProof.V.FlatPairs _ _ _ => hf3
      rename News _ _ _ _ => N3
      rename Fr _ _ _ _ => F3
      refine kst_end (_, _, kdpPut c y (kdpLook c y 0 - 1)) F3 N3 ?_ ?_ ?_ ⟨hd3, hf3⟩ (fun _ h => nomatch h) ?_ (dn_next ⟨hP1, hP2⟩ hy)
      · exact sub1
      · exact own1
      · rfl
      · kst_same
    · rintro ⟨o, kvs, c⟩ u h tk ⟨hd2, hf2⟩ ⟨hP1, hP2⟩ F N
      clear F1
      (try dsimp only [kstB] at F); (try dsimp only at N hd2 hf2 hP1 hP2)
      rw [rangeKs_length] at hP1 hP2
      rw [List.take_length] at hP1
      subst hP1
      have hC2 : ∀ y ∈ b, kdpHas (a.foldl dn1 C1) y = true := fun y hy => has_dn a C1 y (hC y hy)
      generalize hC2e : a.foldl dn1 C1 = C2 at *
      (try k_fold)
      repeat' ((fail_if_success (with_reducible show wpAny _ _ (pyIter (Value.ref _)) (fun it s₂ => LoopAtV _ _ _ _ _ _ _ _ _ it s₂) _ _)); first | (k_unfold; (try dsimp only)) | (k_end; wrow_close) | walk1 | (dsimp only; walk1) | (leave1; walk_say "STEP leave1"; try dsimp only) | fail "no step")
      rename Fr _ _ _ _ => F1
      rename News _ _ _ _ => N1
      refine loop_strs (σ := List Value × Nat × DictSt × List Str) (fun c => (_, listOf c.1.toArray c.2.1) :: (_, c.2.2.1.1) :: news) (fun _ => []) (fun c => DictOk w c.2.2.1 ∧ StrsAre c.1 c.2.2.2) [] (fun pre c => TakeInv b C2 (b.length + a.length) pre c.2.2.1.2.2 c.2.2.2) ([], 0, (o, kvs, C2), []) rfl (fun c => .tail _ (.tail _ hlb)) (fun _ => rfl) hb F1 N1 ⟨⟨hd2, hf2⟩, .nil⟩ (fun _ h => nomatch h) ⟨rfl, hP2, Nat.le_refl _, hC2⟩ ?_ ?_
      · rintro ⟨vs9, n9, ⟨o, kvs, c⟩, taken⟩ pre y t u h tk own hy hlt hoff ⟨⟨hd2, hf2⟩, hs2⟩ hP F N
        clear F1 N1
        (try dsimp only [kstB] at F); (try dsimp only at N hd2 hf2 hs2 hP); (try simp only [List.map_cons] at hoff)
        (try simp only [List.cons_append] at N)
        have hhas : kdpHas c y = true := hP.2.2.2 y (List.mem_of_getElem? hy)
        have hlen1 := hP.2.1
        have hlen2 := hP.2.2.1
        (try k_fold)
        k_steps
        · rename Obj.IsDictOf _ _ _ => hd3
          rename PyProof.V.FlatPairs _ _ _ => hf3
          rename StrsAre _ (_ ++ _) => hs3
          rename News _ _ _ _ => N3
          rename Fr _ _ _ _ => F3
          refine kst_end (_, _, (_, _, kdpPut c y (kdpLook c y 0 - 1)), taken ++ [y]) F3 N3 sub2 own2 ?_ ⟨⟨hd3, hf3⟩, hs3⟩ (fun _ h => nomatch h) ?_ (take_next hP hy (by assumption))
          · rfl
          · kst_same
        · rename News _ _ _ _ => N3
          rename Fr _ _ _ _ => F3
          refine kst_end (_, _, (_, _, c), taken) F3 N3 sub2 own2 ?_ ⟨⟨hd2, hf2⟩, hs2⟩ (fun _ h => nomatch h) ?_ (take_same hP hy (by assumption))
          · rfl
          · kst_same
      · rintro ⟨vs9, n9, ⟨o, kvs, c⟩, taken⟩ u h tk ⟨⟨hd2, hf2⟩, hs2⟩ hP F N
        clear F1 N1
        (try dsimp only [kstB] at F); (try dsimp only at N hd2 hf2 hs2 hP)
        have hT := hP.1
        rw [rangeKs_length, List.take_length] at hT
        (try k_fold)
        k_steps
        all_goals exact hret _ _ _ _ _ (by k_asm) (cb_drop (by assumption) drop2) (kst_ltOf (And.right (by assumption))) (by unfold moreL; rw [hC1, hC2e, ← hT]; assumption)
end Mine
open PySem PySem.W PyProof.Rows PySem.Calls PySem.Spec
set_option Elab.async false
set_option maxRecDepth 100000
set_option maxHeartbeats 1000000
namespace Mine
theorem strsAre_items' {x : Str} {acc : Array Value} {n : Nat} (h : ItemsOf (SignAt x) acc n) (hn : n = x.cps.size) : StrsAre acc.toList (signs x) := by
  have key : ∀ {l : List Str} {vs : List Value}, vs.length = l.length → (∀ (j : Nat) (v : Value), vs[j]? = some v → ∃ y t, l[j]? = some y ∧ v = Value.str y t) → StrsAre vs l := by
    intro l
    induction l with
    | nil => intro vs h _; cases vs with
      | nil => exact .nil
      | cons _ _ => simp at h
    | cons y r ih =>
      intro vs h g
      cases vs with
      | nil => simp at h
      | cons v vs =>
        obtain ⟨z, t, e, e2⟩ := g 0 v rfl
        have e' : y = z := by simpa using e
        subst e' e2
        exact .cons _ _ (ih (by simpa using h) fun j u hj => g (j + 1) u (by simpa using hj))
  refine key (by simp [h.1, hn, signs_length, Str.length]) fun j v hj => ?_
  obtain ⟨c, u, hc, e⟩ := h.2 j v (by simpa using hj)
  exact ⟨⟨#[c]⟩, u, by simp [signs, hc], e⟩
section
variable {prog : Program} {w : World} {A : Around} {E : Value → Shared → Prop} {s : Shared} {h₀ : Heap} {L D : Addr} {m : Str → Option Value} {news : List (Addr × Obj)}
/-- list(x) of a text, onto the ledger -/
theorem list_text {x : Str} {t : Tok} {Q : Value → Shared → Prop} (hh : A.handled = none) (F : Fr h₀ L s.heap m) (N : News h₀ L s.heap news) (hx : x.length ≤ 100000)
    (hQ : ∀ S h' tk vs c, Fr h₀ L h' m → News h₀ L h' ((S, listOf vs.toArray c) :: news) → (∀ p ∈ news, p.1 < S) → StrsAre vs (signs x) → Q (.ref S) { s with heap := h', toks := tk }) :
    wpAny (model prog w) A (call (.type "list") [.str x t]) Q E s := by
  refine call_list_str hh x t (hn := by rw [sizeLine_eq]; exact Nat.le_trans hx (by omega)) fun h' tk acc c hk hS hacc => ?_
  obtain ⟨vs⟩ := acc
  refine hQ _ h' tk vs c (F.keeps hk) (fun p hp => ?_) (fun p hp => Heap.lt_size (N p hp).1) (strsAre_items' hacc rfl)
  rcases List.mem_cons.mp hp with rfl | hp
  · exact ⟨hS, Nat.ne_of_gt F.ns.lt, next_is_new F⟩
  · exact ⟨hk _ _ (N p hp).1, (N p hp).2⟩
end
end Mine
open PySem PySem.W PyProof.Rows PySem.Calls PySem.Spec
set_option Elab.async false
set_option maxRecDepth 100000
set_option maxHeartbeats 1000000
namespace Mine
theorem klLast_snoc (p : List Value) (y : Value) : kl_last (p ++ [y]) = some (p, y) := by
  induction p with
  | nil => rfl
  | cons x r ih =>
    show (match kl_last (r ++ [y]) with | some (p, y) => some (x :: p, y) | none => some ([], x)) = _
    rw [ih]
noncomputable def isS (x : Str) : Value → Bool
  | .str y _ => y.cps.toList == x.cps.toList
  | _ => false
theorem isS_gives {x : Str} {t : Tok} : ∀ {vs : List Value} {ts : List Str}, StrsAre vs ts → ∀ y, y ∈ vs → MeetsSeq.EqGives y (.str x t) (isS x y)
  | _, _, .cons z u h, y, hy => by
    rcases List.mem_cons.mp hy with rfl | hy
    · exact SeqRoads2.EqGives.str z x u t
    · exact isS_gives h y hy
theorem isS_eq {x y : Str} {t : Tok} : isS x (.str y t) = decide (y = x) := by
  unfold isS
  by_cases h : y = x
  · subst h; simp
  · have e9 : ¬ y.cps = x.cps := fun e => h (Str.ext' e)
    simp [h, e9]
/-- the first place of a text in a list -/
theorem strs_first {x : Str} : ∀ {vs : List Value} {ts : List Str}, StrsAre vs ts → x ∈ ts → ∃ j, ∃ hj : j < vs.length, isS x vs[j] = true ∧ (∀ i (hi : i < vs.length), i < j → isS x vs[i] = false) ∧ StrsAre (vs.eraseIdx j) (ts.erase x) ∧ j < ts.length
  | _, _, .nil, h => nomatch h
  | _, _, .cons (vs := vs) (ys := ts) z u h, hx => by
    by_cases hz : z = x
    · subst hz
      refine ⟨0, by simp, by simp [isS_eq], fun i _ hlt => absurd hlt (Nat.not_lt_zero _), ?_, by simp⟩
      simpa using h
    · have hx' : x ∈ ts := (List.mem_cons.mp hx).elim (fun e => absurd e.symm hz) id
      obtain ⟨j, hj, h1, h2, h3, h4⟩ := strs_first h hx'
      refine ⟨j + 1, by simp; exact hj, by simpa using h1, fun i hi hlt => ?_, ?_, by simp; exact h4⟩
      · cases i with
        | zero => simp [isS_eq, hz]
        | succ i => simpa using h2 i (by simpa using hi) (Nat.lt_of_succ_lt_succ hlt)
      · rw [List.eraseIdx_cons_succ, List.erase_cons_tail (by simpa using hz)]
        exact .cons _ _ h3
theorem strs_none {x : Str} : ∀ {vs : List Value} {ts : List Str}, StrsAre vs ts → x ∉ ts → ∀ i (hi : i < vs.length), isS x vs[i] = false
  | _, _, .nil, _, i, hi => absurd hi (Nat.not_lt_zero _)
  | _, _, .cons z u h, hx, i, hi => by
    cases i with
    | zero =>
      have : z ≠ x := fun e => hx (e ▸ .head _)
      simp [isS_eq, this]
    | succ i => simpa using strs_none h (fun q => hx (.tail _ q)) i (by simpa using hi)
section
variable {prog : Program} {w : World} {A : Around} {E : Value → Shared → Prop} {s : Shared} {h₀ : Heap} {L D : Addr} {m : Str → Option Value} {news pre post : List (Addr × Obj)} {vs : List Value} {ts : List Str} {n : Nat} {x : Str} {t : Tok}
theorem truthy_snoc {y : Value} {Q : Bool → Shared → Prop} (N : News h₀ L s.heap news) (hm : (D, listOf (vs ++ [y]).toArray n) ∈ news) (hz : vs.length ≤ 100000) (h : Q true { s with toks := s.toks + 1 + 1 }) : wpAny (model prog w) A (truthy (.ref D)) Q E s := by
  have hl : s.heap.IsList D (vs ++ [y]).toArray := ⟨_, (N _ hm).1, rfl, n, rfl⟩
  refine wpAny_truthy_list hl (by rw [List.size_toArray, List.length_append]; simp; omega) ?_
  have e : (!(vs ++ [y]).toArray.isEmpty) = true := by simp
  rw [e]
  exact h
theorem pop_snoc {y : Value} {Q : Value → Shared → Prop} (F : Fr h₀ L s.heap m) (N : News h₀ L s.heap (pre ++ (D, listOf (vs ++ [y]).toArray n) :: post)) (h1 : ∀ p ∈ pre, p.1 ≠ D) (h2 : ∀ p ∈ post, p.1 ≠ D) (hz : vs.length ≤ 100000)
    (h : ∀ h' n', Fr h₀ L h' m → News h₀ L h' (pre ++ (D, listOf vs.toArray n') :: post) → Q y { s with heap := h' }) : wpAny (model prog w) A (call (.builtin "list.pop") [.ref D]) Q E s := by
  have U : Upd D (listOf (vs ++ [y]).toArray n) (listOf vs.toArray (n + 1)) (pre ++ (D, listOf (vs ++ [y]).toArray n) :: post) (pre ++ (D, listOf vs.toArray (n + 1)) :: post) := by
    clear N h
    induction pre with
    | nil => exact .head h2
    | cons p r ih => exact .tail (h1 p (.head _)) (ih fun q hq => h1 q (.tail _ hq))
  refine kl_pop F N (klLast_snoc vs y) U ?_ (fun h' F' N' => h h' (n + 1) F' N')
  rw [sizeLine_eq]
  simp
  omega
theorem remove_found {Q : Value → Shared → Prop} (F : Fr h₀ L s.heap m) (N : News h₀ L s.heap (pre ++ (D, listOf vs.toArray n) :: post)) (h1 : ∀ p ∈ pre, p.1 ≠ D) (h2 : ∀ p ∈ post, p.1 ≠ D) (hi : StrsAre vs ts) (hx : x ∈ ts) (hz : ts.length ≤ 100000)
    (h : ∀ h' vs' n', Fr h₀ L h' m → News h₀ L h' (pre ++ (D, listOf vs'.toArray n') :: post) → StrsAre vs' (ts.erase x) → Q .none { s with heap := h' }) :
    wpAny (model prog w) A (call (.builtin "list.remove") [.ref D, .str x t]) Q E s := by
  have z := N (D, listOf vs.toArray n) (List.mem_append.mpr (.inr (.head _)))
  obtain ⟨j, hj, a1, a2, a3, a4⟩ := strs_first hi hx
  have hl := hi.length
  have hs1 : vs.toArray.size ≤ sizeLine := by rw [List.size_toArray, sizeLine_eq]; omega
  have hjA : j < vs.toArray.size := by rw [List.size_toArray]; exact hj
  refine call_meets PySem.F.slot_list_remove ⟨_, z.1, rfl⟩ PySem.F.entry_list_remove (PySem.F.args_list_remove_2 _ _)
    (MeetsSeq.list_remove D vs.toArray n (.str x t) (isS x) (fun y hy => isS_gives hi y (by simpa using hy)) j hjA (by simpa using a1) (fun i hi' hlt => by simpa using a2 i (by simpa using hi') hlt) hs1)
    ⟨z.1, h _ (vs.eraseIdx j) (n + 1) (F.change (Heap.SameBut.update ..) z.2.1 z.2.2) (ki_turn _ N h1 h2 ?_ ?_) a3⟩
  · apply Array.toList_inj.mp
    simp
  · have hne : (vs.eraseIdx j).toArray.size ≠ vs.toArray.size := by
      rw [List.size_toArray, List.size_toArray, List.length_eraseIdx, if_pos hj]; omega
    rw [if_neg (by simpa using hne)]
theorem remove_none {Q : Value → Shared → Prop} (hh : A.handled = none) (N : News h₀ L s.heap news) (hm : (D, listOf vs.toArray n) ∈ news) (hi : StrsAre vs ts) (hx : x ∉ ts)
    (h : ∀ h' tk e, Heap.NewExc s.heap h' e "ValueError" → E (.ref e) { s with heap := h', toks := tk }) :
    wpAny (model prog w) A (call (.builtin "list.remove") [.ref D, .str x t]) Q E s := by
  have z := N _ hm
  exact call_meets PySem.F.slot_list_remove ⟨_, z.1, rfl⟩ PySem.F.entry_list_remove (PySem.F.args_list_remove_2 _ _)
    (MeetsSeq.list_remove_none D vs.toArray n (.str x t) (isS x) (fun y hy => isS_gives hi y (by simpa using hy)) (fun i hi' => by simpa using strs_none hi hx i (by simpa using hi'))) ⟨z.1, hh, h⟩
end
end Mine
open PySem PySem.W PyProof.Rows PySem.Calls PySem.Spec
set_option Elab.async false
set_option maxRecDepth 100000
namespace Mine
section
variable {prog : Program} {w : World} {A₀ : Around} {E : Value → Shared → Prop} {s' : Shared} {base g g₀ h : Heap} {outer : List Env} {L a e : Addr} {m : Str → Option Value} {name : Str} {scope : Scope} {cd : Value}
  {b₀ : Stmt} {suite : List Stmt} {pos np : Pos} {rest : List ExceptHandler} {Q : Flow → Shared → Prop} {news : List (Addr × Obj)} {KF : Frag}
  {p : Program} {loose : List Str} {mean : ExcName → Option Value} {mg mb : Str → Option Value} {x : Str} {X T' : String}
/-- a built-in exception that this very frame has just raised, caught in it: the frames outside turn their slots -/
theorem caught_new (hx : Heap.NewExc h s'.heap e X) (F : Fr g L h m) (N : News g L h news) (K : Below A₀ base outer g) (XB : KF.In base) (TB : Top p loose mean mg mb base)
    (D : KtsDicts (outer.filterMap (·.frame)) g) (T0 : KtsTurn (outer.filterMap (·.frame)) g₀ g)
    (ex : nsIn KF mainGlobals x = some none) (hv : bootBuiltins x = some (.type T')) (hn' : x ≠ "__name__")
    (hexc : isSubtype (.type T') (.type "BaseException") = pure true) (hnt : isSubtype (.type ((Manifest.find? T').elim "type" fun y => y.metatype)) (.type "tuple") = pure false) (hsub : isSubtype (.type X) (.type T') = pure true)
    (k : ∀ h' g', KtsTurn (outer.filterMap (·.frame)) g₀ g' → Fr g' L h' m → News g' L h' news → Below A₀ base outer g' → KF.In g' → Top p loose mean mg mb g' → KtsDicts (outer.filterMap (·.frame)) g' →
      wpAny (model prog w) ((A₀.deeper (envOf name scope L a cd)).mark (some (.ref e))) (execs (b₀ :: suite) (envOf name scope L a cd)) Q E { s' with heap := h' })
    (hk : scope.kind = .function := by rfl) (hxk : (envOf name scope L a cd).kindOf x = some .globalImplicit := by rfl) (hd : (x == ("__debug__" : Str)) = false := by decide)
    (hE : PassesOwnAt (model prog w) ((A₀.deeper (envOf name scope L a cd)).mark (some (.ref e))) (A₀.deeper (envOf name scope L a cd)) (envOf name scope L a cd) E := by passes_own) :
    wpAny (model prog w) (A₀.deeper (envOf name scope L a cd)) (noteFrame (.ref e) (envOf name scope L a cd))
      (fun _ s₂ => wpAny (model prog w) (A₀.deeper (envOf name scope L a cd)) (setFlight (.ref e) none) (fun _ s₃ =>
        wpAny (model prog w) (A₀.deeper (envOf name scope L a cd)) (handleBy (.ref e) (envOf name scope L a cd) (.ExceptHandler (some (.Name x np)) none (b₀ :: suite) pos :: rest)) Q E s₃) E s₂) E s' := by
  have K' := K.push (name := name) (a := a) (cd := cd) F hk
  have hin : ∀ env ∈ (envOf name scope L a cd :: outer), ∀ b, env.frame = some b → b ∈ (envOf name scope L a cd :: outer).filterMap (·.frame) := fun env he b hb => List.mem_filterMap.mpr ⟨env, he, hb⟩
  have st : base.StaysIn (hideAll h ((envOf name scope L a cd :: outer).filterMap (·.frame))) := fun b o q => hideAll_get _ (K'.stays b o q) fun hm => by
    rw [(K'.frames.mem hm).1] at q; cases q
  have sg : ∀ b o, h.get? b = some o → b ∉ (envOf name scope L a cd :: outer).filterMap (·.frame) → (hideAll h ((envOf name scope L a cd :: outer).filterMap (·.frame))).get? b = some o := fun b o q nm => hideAll_get _ q nm
  have hl : ∀ q ∈ news, (hideAll h ((envOf name scope L a cd :: outer).filterMap (·.frame))).get? q.1 = some q.2 := fun q hq => by
    refine hideAll_get _ (N q hq).1 fun hm => ?_
    obtain ⟨env, he, hf⟩ := List.mem_filterMap.mp hm
    rcases List.mem_cons.mp he with rfl | he
    · exact (N q hq).2.1 (Option.some.inj hf).symm
    · obtain ⟨o, ho, _⟩ := (K.frames.mem (List.mem_filterMap.mpr ⟨env, he, hf⟩)).2
      rw [(N q hq).2.2] at ho; cases ho
  obtain ⟨ob, tp, he, hcls, hdd⟩ := hx.there
  have hen : (hideAll h ((envOf name scope L a cd :: outer).filterMap (·.frame))).get? e = none := by
    cases q : (hideAll h ((envOf name scope L a cd :: outer).filterMap (·.frame))).get? e with
    | none => rfl
    | some o => have := of_hideAll _ q; rw [hx.new] at this; cases this
  unfold noteFrame
  simp only [show (envOf name scope L a cd).frame = some L from rfl]
  refine wpAny_bind (wpAny_field he hdd (x := .none) rfl ?_)
  rw [if_neg (by decide)]
  refine wpAny_entryW (a0 := tp) (base := hideAll h ((envOf name scope L a cd :: outer).filterMap (·.frame))) (Around.frames_deeper K.stack) ((funFrames_hide K'.frames hin).of_keeps fun b o hb _ => ⟨o, hx.keeps b o hb, rfl⟩) rfl he
    (fun b o hb => hx.keeps b o (of_hideAll _ hb)) hen hdd (by show 1 < 6; decide) rfl fun h₄ hN => ?_
  rw [hcls] at hN
  obtain ⟨k1, k2, k3, hsm₄⟩ := hN
  have hheld₄ : Heap.HeldW (hideAll h ((envOf name scope L a cd :: outer).filterMap (·.frame))) (envOf name scope L a cd :: outer) e (.type X) tp L h₄ := ⟨k1, hen, k2, k3⟩
  have hL : (hideAll h ((envOf name scope L a cd :: outer).filterMap (·.frame))).get? L = none := by
    obtain ⟨_, ⟨L', _, hf, hn', _⟩, _⟩ := k2
    obtain rfl : L = L' := Option.some.inj hf
    exact hn'
  have hsm : h.UpToSlots s'.heap := Heap.UpToSlots.of_keeps hx.keeps
  refine wpAny_landsW hheld₄ fun h₅ hheld hsm₅' => ?_
  have hsm₅ : s'.heap.UpToSlots h₅ := Heap.UpToSlots.trans hsm₄ hsm₅'
  obtain ⟨g₅, T₅, F₅, K₅⟩ := kts_ground K F sg hheld.1 (hsm.trans hsm₅)
  have X₅ : KF.In g₅ := XB.keeps K₅.stays
  have P₅ : TopRead p loose mg mb g₅ := topRead_of (TB.keeps K₅.stays)
  obtain ⟨ob, hob, hobc⟩ := hheld.there
  refine wpAny_handleBy_builtin (X := X) (T := T') (b := true) hexc hnt hsub (name_B F₅ X₅ P₅ ex hv hn' ⟨rfl, ⟨ob, hob, hobc⟩, ?_⟩ hk hxk hd)
  refine lands_againW hheld fun h₆ hfl₆ hsm₆ => ?_
  obtain ⟨g₆, T₆, F₆, K₆⟩ := kts_ground K F sg hfl₆.1 ((hsm.trans hsm₅).trans hsm₆)
  have Nl : News g₆ L h₆ news := fun q hq => ⟨hfl₆.1 _ _ (hl q hq), (fun z => by have := hl q hq; rw [z, hL] at this; cases this), T₆.none_ _ (N q hq).2.2⟩
  have X₆ : KF.In g₆ := XB.keeps K₆.stays
  have P₆ : Top p loose mean mg mb g₆ := TB.keeps K₆.stays
  have D₆ : KtsDicts (outer.filterMap (·.frame)) g₆ := D.turn T₆
  exact wpAny_passesOwnAt hE (k h₆ g₆ (T0.trans T₆) F₆ Nl K₆ X₆ P₆ D₆)
end
end Mine
open PySem PySem.W PyProof.Rows PySem.Calls PySem.Spec
set_option Elab.async false
set_option maxRecDepth 100000
namespace Mine
def GwEnd {σ : Type} (G : Heap → Prop) (L : Addr) (s : Shared) (Led : σ → List (Addr × Obj)) (stored : List Str) (m₀ : Str → Option Value) (P : σ → Prop) (μ : σ → Nat) (c : σ) (s₂ : Shared) : Prop :=
  ∃ (c' : σ) (g' h' : Heap) (tk : Nat) (m' : Str → Option Value) (news' : List (Addr × Obj)), s₂ = { s with heap := h', toks := tk } ∧ G g' ∧ Fr g' L h' m' ∧ News g' L h' news' ∧ (∀ p ∈ Led c', p ∈ news') ∧ (∀ z, stored.contains z = false → m' z = m₀ z) ∧ P c' ∧ μ c' < μ c
def GwPost {σ : Type} (G : Heap → Prop) (L : Addr) (s : Shared) (Led : σ → List (Addr × Obj)) (stored : List Str) (m₀ : Str → Option Value) (P : σ → Prop) (μ : σ → Nat) (Q : Flow → Shared → Prop) (c : σ) (f : Flow) (s₂ : Shared) : Prop :=
  match f with
  | .ret v => Q (.ret v) s₂
  | .brk => Q .next s₂
  | _ => GwEnd G L s Led stored m₀ P μ c s₂
theorem gw_end {σ : Type} {G : Heap → Prop} {L : Addr} {s : Shared} {Led : σ → List (Addr × Obj)} {stored : List Str} {m₀ m' : Str → Option Value} {P : σ → Prop} {μ : σ → Nat} {c : σ} {g' h' : Heap} {tk : Nat} {news' : List (Addr × Obj)} (c' : σ)
    (hG : G g') (F : Fr g' L h' m') (N : News g' L h' news') (hn : ∀ p ∈ Led c', p ∈ news') (hr : ∀ z, stored.contains z = false → m' z = m₀ z) (hp : P c') (hm : μ c' < μ c) :
    GwEnd G L s Led stored m₀ P μ c { s with heap := h', toks := tk } := ⟨c', g', h', tk, m', news', rfl, hG, F, N, hn, hr, hp, hm⟩
section
variable {prog : Program} {w : World} {A : Around} {E : Value → Shared → Prop} {Q : Flow → Shared → Prop} {s : Shared} {env : Env} {g : Heap} {L : Addr}
theorem gw_fr {g h : Heap} {stored : List Str} {m₀ m₁ : Str → Option Value} (h2 : ∀ z, stored.contains z = false → m₁ z = m₀ z)
    (F : Fr g L h m₁) : Fr g L h (fun z => if stored.contains z then m₁ z else m₀ z) := by
  have em : (fun z => if stored.contains z then m₁ z else m₀ z) = m₁ := by
    funext y
    show (if stored.contains y = true then m₁ y else m₀ y) = m₁ y
    cases h3 : stored.contains y with
    | true => simp
    | false => simp only [Bool.false_eq_true, if_false]; exact (h2 y h3).symm
  rw [em]
  exact F
/-- a while loop whose ground may turn from turn to turn -/
theorem gw_while {σ : Type} {test : Expr} {body : List Stmt} {pos : Pos} {m₀ : Str → Option Value} (G : Heap → Prop) (Led : σ → List (Addr × Obj)) (stored : List Str) (P : σ → Prop) (μ : σ → Nat) (c₀ : σ)
    (F : Fr g L s.heap m₀) (N : News g L s.heap (Led c₀)) (hG : G g) (hp : P c₀)
    (turn : ∀ (g' : Heap) (c : σ) (u : Str → Option Value) h tk, G g' → P c → Fr g' L h (fun z => if stored.contains z then u z else m₀ z) → News g' L h (Led c) →
      wpAny (model prog w) A (isTrue test env (eval test env)) (fun b s₂ =>
        if b = true then wpAny (model prog w) A (execs body env) (GwPost G L s Led stored m₀ P μ Q c) E s₂ else Q .next s₂) E { s with heap := h, toks := tk })
    (hE : PassesOwn (model prog w) A env E := by passes_own) :
    wpAny (model prog w) A (exec (.While test body [] pos) env) Q E s := by
  refine wpAny_While (codeAny_whileLoop (fun n s' => ∃ c g₁ h₁ tk₁ m₁, s' = { s with heap := h₁, toks := tk₁ } ∧ G g₁ ∧ Fr g₁ L h₁ m₁ ∧ News g₁ L h₁ (Led c) ∧ (∀ z, stored.contains z = false → m₁ z = m₀ z) ∧ P c ∧ μ c = n) ?_ (μ c₀) ⟨c₀, g, s.heap, s.toks, m₀, rfl, hG, F, N, fun _ _ => rfl, hp, rfl⟩)
  rintro n s' ⟨c, g₁, h₁, tk₁, m₁, rfl, G₁, F₁, N₁, hr₁, hp₁, rfl⟩
  refine wpAny_mono (turn g₁ c m₁ h₁ tk₁ G₁ hp₁ (gw_fr hr₁ F₁) N₁) (fun b s₂ h₂ => ?_) hE
  cases b with
  | false =>
    simp only [Bool.false_eq_true, if_false] at h₂ ⊢
    exact wpAny_execs_nil h₂
  | true =>
    simp only [if_true] at h₂ ⊢
    refine wpAny_mono h₂ (fun f s₃ h₃ => ?_) hE
    cases f with
    | next =>
      obtain ⟨c', g', h', tk, m', news', rfl, G', F', N', hn, hr, hp', hm⟩ := h₃
      exact ⟨μ c', hm, c', g', h', tk, m', rfl, G', F', fun p hp => N' p (hn p hp), hr, hp', rfl⟩
    | cont =>
      obtain ⟨c', g', h', tk, m', news', rfl, G', F', N', hn, hr, hp', hm⟩ := h₃
      exact ⟨μ c', hm, c', g', h', tk, m', rfl, G', F', fun p hp => N' p (hn p hp), hr, hp', rfl⟩
    | brk => exact h₃
    | ret v => exact h₃
end
/-- what holds of the ground as it turns -/
def Turn (fs : List Addr) (A₀ : Around) (base : Heap) (outer : List Env) (K : Frag) (p : Program) (loose : List Str) (mean : ExcName → Option Value) (mg mb : Str → Option Value) (g g' : Heap) : Prop :=
  KtsTurn fs g g' ∧ Below A₀ base outer g' ∧ K.In g' ∧ Top p loose mean mg mb g' ∧ KtsDicts (outer.filterMap (·.frame)) g'
end Mine
open PySem PySem.W PyProof.Rows PySem.Calls PySem.Spec
set_option Elab.async false
set_option maxRecDepth 100000
set_option maxHeartbeats 8000000
namespace Mine
/-- one turn of `unorderable_list_difference` -/
noncomputable def remStep (st : List Str × List Str) (y : Str) : List Str × List Str := if y ∈ st.1 then (st.1.erase y, st.2) else (st.1, st.2 ++ [y])
noncomputable def unordL (E A : List Str) : List Str × List Str := E.reverse.foldl remStep (A, [])
def UInv (E A : List Str) (es act miss : List Str) : Prop := ∃ done, E = es ++ done ∧ done.reverse.foldl remStep (A, []) = (act, miss) ∧ miss.length ≤ done.length ∧ act.length ≤ A.length
theorem strs_snoc {us : List Value} {ts : List Str} {y : Str} (h : StrsAre us (ts ++ [y])) : ∃ vs t, us = vs ++ [Value.str y t] ∧ StrsAre vs ts := by
  induction ts generalizing us with
  | nil =>
    cases h with
    | cons _ t h => cases h; exact ⟨[], t, rfl, .nil⟩
  | cons x r ih =>
    cases h with
    | cons _ t h =>
      obtain ⟨vs, t', rfl, hv⟩ := ih h
      exact ⟨.str x t :: vs, t', rfl, .cons _ _ hv⟩
theorem sub3 {a b c d : Addr × Obj} {news : List (Addr × Obj)} : ∀ p ∈ a :: b :: c :: news, p ∈ a :: b :: c :: d :: news := by
  intro p hp
  simp only [List.mem_cons] at hp ⊢
  rcases hp with h | h | h | h
  · exact .inl h
  · exact .inr (.inl h)
  · exact .inr (.inr (.inl h))
  · exact .inr (.inr (.inr (.inr h)))
theorem ne_lt {l b : Addr} {news : List (Addr × Obj)} (h : ∀ p ∈ news, p.1 < l) (hb : l ≤ b) : ∀ p ∈ news, p.1 ≠ b := fun p hp q => absurd (h p hp) (by rw [q]; exact Nat.not_lt_of_le hb)
theorem ne2 {l lb la : Addr} {o1 o2 : Obj} (h1 : la < l) (h2 : la < lb) : ∀ p ∈ [((l, o1) : Addr × Obj), (lb, o2)], p.1 ≠ la := by
  intro p hp
  simp only [List.mem_cons, List.not_mem_nil, or_false] at hp
  rcases hp with rfl | rfl
  · exact Ne.symm (Nat.ne_of_lt h1)
  · exact Ne.symm (Nat.ne_of_lt h2)
theorem ne1 {l lb : Addr} {o1 : Obj} (h1 : lb < l) : ∀ p ∈ [((l, o1) : Addr × Obj)], p.1 ≠ lb := by
  intro p hp
  simp only [List.mem_cons, List.not_mem_nil, or_false] at hp
  subst hp
  exact Ne.symm (Nat.ne_of_lt h1)
theorem ne1l {lb la : Addr} {o1 : Obj} {news : List (Addr × Obj)} (h1 : la < lb) (h2 : ∀ p ∈ news, p.1 < la) : ∀ p ∈ ((la, o1) :: news), p.1 ≠ lb := by
  intro p hp
  rcases List.mem_cons.mp hp with rfl | hp
  · exact Nat.ne_of_lt h1
  · exact Nat.ne_of_lt (Nat.lt_trans (h2 p hp) h1)
theorem ne3 {l lb la : Addr} {o1 o2 : Obj} {news : List (Addr × Obj)} (h1 : lb < l) (h2 : la < l) (h3 : ∀ p ∈ news, p.1 < l) : ∀ p ∈ ((lb, o1) :: (la, o2) :: news), p.1 ≠ l := by
  intro p hp
  rcases List.mem_cons.mp hp with rfl | hp
  · exact Nat.ne_of_lt h1
  · rcases List.mem_cons.mp hp with rfl | hp
    · exact Nat.ne_of_lt h2
    · exact Nat.ne_of_lt (h3 p hp)
def ClaimU (w : World) (lv : Nat) (f la lb : Addr) (o1 o2 : Obj) (R1 R2 : List Str) : Prop :=
  ∀ (p : Program) (loose : List Str) (mean : ExcName → Option Value) (mg mb : Str → Option Value) (news : List (Addr × Obj))
    (dp un : Nat) (gd : Option (List Code)) (cn : Str) (cs : Scope) (a : Addr) (ccd : Value) (outer : List Env) (A₀ : Around) (base h₀ : Heap) (L : Addr) (m : Str → Option Value) (s : Shared) (Q E : Value → Shared → Prop),
    Below A₀ base outer h₀ → Fr h₀ L s.heap m → (hd.heap_39 w.params).In h₀ → News h₀ L s.heap ((lb, o2) :: (la, o1) :: news) → Top p loose mean mg mb h₀ → cs.kind = .function → dp + 10 * lv < recursionLimit → un + 100 * lv < cLine →
    (hd.heap_39 w.params).In base → Top p loose mean mg mb base → KtsDicts (outer.filterMap (·.frame)) h₀ → la < lb → (∀ p ∈ news, p.1 < la) →
    (∀ (tp lm : Addr) (va vm : List Value) (na nm : Nat) (h₀' h' : Heap) (tk' : Nat), Turn (outer.filterMap (·.frame)) A₀ base outer (hd.heap_39 w.params) p loose mean mg mb h₀ h₀' → Fr h₀' L h' m → News h₀' L h' ((tp, { cls := .type "tuple", data := .seq #[.ref lm, .ref lb] }) :: (lm, listOf vm.toArray nm) :: (lb, listOf va.toArray na) :: news) → StrsAre vm R1 → StrsAre va R2 → Q (.ref tp) { s with heap := h', toks := tk' }) →
    wpAny (model PySem.Challenge.rw_in0155_01.row.prog w) (ktrTop dp un gd cn cs L a ccd [] outer) (call (.ref f) [.ref la, .ref lb]) Q E s
theorem unord_spec (w : World) (la lb : Addr) (us vs : List Value) (a b : List Str) (n k : Nat) (ha : StrsAre us a) (hb : StrsAre vs b) (ha1 : a.length ≤ 4000) (hb1 : b.length ≤ 4000) :
    ClaimU w 1 49 la lb (listOf us.toArray n) (listOf vs.toArray k) (unordL a b).2 (unordL a b).1 := by
  k_with_none
  w_top off
  unfold ClaimU
  intro p loose mean mg mb news
  k_fill
  intro dp un gd cn cs a9 ccd outer A₀ base h₀ L9 m9 s9 Q9 E9 B9 F9 X9 N9 T9 hck hdp hun XB TB kd0 hlab hlow hret
  refine wpAny_call ?_
  refine' code_defS (g₀ := h₀) B9 F9 X9 N9 T9 XB TB kd0 KtsTurn.refl ?kA ?k6 ?k7 ?k8 ?k9 ?kB ?_ hck ?c2 ?c3 ?c4 ?c5
  case kA => exact rfl
  case k6 => k_is
  case k7 => k_is
  case k8 => ktr_room
  case k9 => exact BindsTo.of_eq rfl
  case kB => exact locs rfl
  case c2 => exact rfl
  case c3 => exact rfl
  case c4 => exact rfl
  case c5 => decide
  intro g1 L1 h1 FG1 F1 N1 B1 X1 T1 D1
  (try dsimp only)
  (try k_fold)
  repeat' ((fail_if_success (with_reducible show wpAny _ _ (exec (.While _ _ _ _) _) _ _ _)); first | (k_unfold; (try dsimp only)) | (k_end; wrow_close) | walk1 | (dsimp only; walk1) | (leave1; walk_say "STEP leave1"; try dsimp only) | fail "no step")
  rename Fr g1 _ _ _ => F2
  rename News g1 _ _ (_ :: _ :: _ :: _) => N2
  rename _ ∧ _ ∧ AllLt _ _ => hl1
  obtain ⟨hbl, hal, hnl⟩ := hl1
  refine gw_while (σ := (List Value × Nat × List Str) × (List Value × Nat × List Str) × (List Value × Nat × List Str))
    (Turn (List.filterMap (fun x => x.frame) (envOf cn cs L9 a9 ccd :: outer)) (ktrTop dp un gd cn cs L9 a9 ccd [] outer) base (envOf cn cs L9 a9 ccd :: outer) (hd.heap_39 w.params) p loose mean mg mb g1)
    (fun c => (_, listOf c.1.1.toArray c.1.2.1) :: (lb, listOf c.2.1.1.toArray c.2.1.2.1) :: (la, listOf c.2.2.1.toArray c.2.2.2.1) :: news)
    [Str.ofString "item"]
    (fun c => StrsAre c.1.1 c.1.2.2 ∧ StrsAre c.2.1.1 c.2.1.2.2 ∧ StrsAre c.2.2.1 c.2.2.2.2 ∧ UInv a b c.2.2.2.2 c.2.1.2.2 c.1.2.2) (fun c => c.2.2.2.2.length) (([], 0, []), (vs, k, b), (us, n, a)) F2 N2
    ⟨KtsTurn.refl, B1, X1, T1, D1⟩ ⟨.nil, hb, ha, [], by simp, rfl, Nat.le_refl _, Nat.le_refl _⟩ ?_
  rintro g2 ⟨⟨vM, nM, ms⟩, ⟨vA, nA, ac⟩, ⟨vE, nE, es⟩⟩ u h tk ⟨KT, B2, X2, T2, D2⟩ ⟨f1, f2, f3, hP⟩ F N
  clear F2 N2 B1 X1 T1 D1
  (try dsimp only at N f1 f2 f3 hP)
  (try k_lift B2)
  (try k_fold)
  rcases List.eq_nil_or_concat es with rfl | ⟨es', y, rfl⟩
  · cases f3
    k_steps
    obtain ⟨done, e1, e2, _, _⟩ := hP
    have e3 : unordL a b = (ac, ms) := by
      unfold unordL
      rw [e1, List.nil_append]
      exact e2
    rw [e3] at hret
    all_goals exact hret _ _ _ _ _ _ _ _ _ ⟨by assumption, by assumption, by assumption, by assumption, by assumption⟩ (by assumption) (cb_drop (by assumption) sub3) f1 f2
  · rw [List.concat_eq_append] at *
    obtain ⟨vE', tE, rfl, f3'⟩ := strs_snoc f3
    obtain ⟨done, e1, e2, e4, e5⟩ := hP
    have hEl : vE'.length ≤ 100000 := by
      have q1 := f3'.length
      have q2 := congrArg List.length e1
      rw [List.length_append, List.length_append] at q2
      omega
    k_steps
    refine truthy_snoc N (.tail _ (.tail _ (.head _))) hEl ?_
    k_unfold
    (try dsimp only)
    rw [if_pos rfl]
    k_steps
    rename News g2 _ _ _ => N2
    rename Fr g2 _ _ _ => F2
    refine pop_snoc (pre := [_, _]) F2 N2 (ne2 hal hlab) (ne_lt hlow (Nat.le_refl _)) hEl fun h' n' F' N' => ?_
    clear F2 N2
    (try simp only [List.cons_append, List.nil_append] at N')
    k_steps
    rename News g2 _ _ _ => N2
    rename Fr g2 _ _ _ => F2
    by_cases hy : y ∈ ac
    · refine remove_found (pre := [_]) F2 N2 (ne1 hbl) (ne1l hlab hlow) f2 hy (by omega) fun h' vA' nA' F' N' f2' => ?_
      clear F2 N2
      (try simp only [List.cons_append, List.nil_append] at N')
      k_steps
      dsimp only [GwPost]
      rename Fr g2 _ _ _ => F3
      rename News g2 _ _ _ => N3
      refine gw_end ((vM, nM, ms), (vA', nA', ac.erase y), (vE', _, es')) ⟨KT, B2, X2, T2, D2⟩ F3 N3 (fun _ h => h) ?hr ⟨f1, f2', f3', y :: done, ?hu1, ?hu2, ?hu3, ?hu4⟩ ?hmu
      case hr => intro z h3; (simp only [List.contains_cons, List.contains_nil, Bool.or_false, beq_eq_false_iff_ne, ne_eq] at h3); simp [h3]
      case hu1 => rw [e1, List.append_assoc]; rfl
      case hu2 => rw [List.reverse_cons, List.foldl_append, e2]; show remStep (ac, ms) y = _; unfold remStep; rw [if_pos hy]
      case hu3 => simp only [List.length_cons]; omega
      case hu4 => exact Nat.le_trans List.length_erase_le e5
      case hmu => simp
    · refine remove_none rfl N2 (.tail _ (.head _)) f2 hy fun h9 tk9 e9 hx9 => ?_
      refine caught_new (T' := "ValueError") hx9 F2 N2 B2 XB TB D2 KT (by k_is) PyProof.Rows.Boot.«ValueError» (by decide) PySem.F.isExc_ValueError PySem.F.notTuple_ValueError (by kts_sub) ?_
      clear F2 N2
      intro h4 g4 KT4 F4 N4 B4 X4 T4 D4
      clear KT B2 X2 T2 D2
      (try k_lift B4)
      k_steps
      rename News g4 _ _ _ => N5
      rename Fr g4 _ _ _ => F5
      refine append_strs F5 N5 (ne3 hbl hal (kst_ltOf hnl)) f1 (by have := congrArg List.length e1; simp only [List.length_append, List.length_cons, List.length_nil] at this; omega) fun h' vM' nM' F' N' f1' => ?_
      clear F5 N5
      k_steps
      dsimp only [GwPost]
      rename Fr g4 _ _ _ => F3
      rename News g4 _ _ _ => N3
      refine gw_end ((vM', nM', ms ++ [y]), (vA, nA, ac), (vE', _, es')) ⟨KT4, B4, X4, T4, D4⟩ F3 N3 (fun _ h => h) ?hr ⟨f1', f2, f3', y :: done, ?hu1, ?hu2, ?hu3, ?hu4⟩ ?hmu
      case hr => intro z h3; (simp only [List.contains_cons, List.contains_nil, Bool.or_false, beq_eq_false_iff_ne, ne_eq] at h3); simp [h3]
      case hu1 => rw [e1, List.append_assoc]; rfl
      case hu2 => rw [List.reverse_cons, List.foldl_append, e2]; show remStep (ac, ms) y = _; unfold remStep; rw [if_neg hy]
      case hu3 => simp only [List.length_append, List.length_cons, List.length_nil]; omega
      case hu4 => exact e5
      case hmu => simp
end Mine
open PySem PySem.W PyProof.Rows PySem.Calls PySem.Spec
set_option Elab.async false
set_option maxRecDepth 100000
namespace Mine
theorem strs_reverse : ∀ {vs : List Value} {ts : List Str}, StrsAre vs ts → StrsAre vs.reverse ts.reverse
  | _, _, .nil => .nil
  | _, _, .cons x t h => by
    rw [List.reverse_cons, List.reverse_cons]
    exact (strs_reverse h).append' (.cons x t .nil)
theorem strs_reads {h : Heap} : ∀ {vs : List Value} {ts : List Str}, StrsAre vs ts → ∃ as, ReadsAll h vs (ts.map PyData.str) as
  | _, _, .nil => ⟨_, .nil⟩
  | _, _, .cons x t r => by
    obtain ⟨as, q⟩ := strs_reads (h := h) r
    exact ⟨_, .cons (.str x t) q⟩
theorem strs_lay : ∀ {ts : List Str}, (∀ t ∈ ts, PyData.strOk t = true) → PyData.canLayAll0 (ts.map PyData.str) = true
  | [], _ => by simp [PyData.canLayAll0]
  | t :: r, h => by
    simp only [List.map_cons, PyData.canLayAll0, PyData.canLay0, h t (.head _), strs_lay (ts := r) (fun z hz => h z (.tail _ hz)), Bool.and_self]
theorem strs_depth : ∀ ts : List Str, PyData.depthAll (ts.map PyData.str) = 0
  | [] => by simp [PyData.depthAll]
  | t :: r => by simp [PyData.depthAll, PyData.depth, strs_depth r]
theorem strs_eqv : ∀ ts : List Str, PyData.eqvAll (ts.map PyData.str) (ts.map PyData.str) = true
  | [] => by simp [PyData.eqvAll]
  | t :: r => by simp [PyData.eqvAll, PyData.eqv, strs_eqv r]
noncomputable def twoD (a b : List Str) : PyData := .tuple [.list (a.map .str), .list (b.map .str)]
theorem two_shaped {a b : List Str} (ha : ∀ t ∈ a, PyData.strOk t = true) (hb : ∀ t ∈ b, PyData.strOk t = true) : SeqAt.shaped (twoD a b) = true := by
  unfold SeqAt.shaped twoD
  simp [PyData.canLay0, PyData.canLayAll0, PyData.depth, PyData.depthAll, strs_lay ha, strs_lay hb, strs_depth]
theorem two_eqv (a b : List Str) : PyData.eqv (twoD a b) (twoD a b) = true := by
  unfold twoD
  simp [PyData.eqv, PyData.eqvAll, strs_eqv]
noncomputable abbrev tupOf (vs : List Value) : Obj := { cls := .type "tuple", data := .seq vs.toArray }
section
variable {prog : Program} {w : World} {A : Around} {E : Value → Shared → Prop} {s : Shared} {h₀ : Heap} {L : Addr} {m : Str → Option Value} {news : List (Addr × Obj)}
theorem two_reads {h : Heap} {t a b : Addr} {o oa ob : Obj} {va vb : Array Value} {na nb nt : Nat} {ta tb : List Str} (N : News h₀ L h news) (mt : (t, o) ∈ news) (ct : o.cls = .type "tuple") (dt : o.data = .seq #[.ref a, .ref b] nt)
    (ma : (a, oa) ∈ news) (ca : oa.cls = .type "list") (da : oa.data = .seq va na) (mb : (b, ob) ∈ news) (cb : ob.cls = .type "list") (db : ob.data = .seq vb nb) (ha : StrsAre va.toList ta) (hb : StrsAre vb.toList tb) :
    ∃ as, Reads h (.ref t) (twoD ta tb) as := by
  obtain ⟨p, hp⟩ := strs_reads (h := h) ha
  obtain ⟨q, hq⟩ := strs_reads (h := h) hb
  exact ⟨_, reads_tuple_at (N.get mt) ct dt (.cons (reads_list_at (N.get ma) ca da hp) (.cons (reads_list_at (N.get mb) cb db hq) .nil))⟩
theorem two_eq {t t' : Addr} {a b : List Str} {Q : Value → Shared → Prop} (r1 : ∃ as, Reads s.heap (.ref t) (twoD a b) as) (r2 : ∃ as, Reads s.heap (.ref t') (twoD a b) as)
    (ha : ∀ t ∈ a, PyData.strOk t = true) (hb : ∀ t ∈ b, PyData.strOk t = true) (hu : A.units + 64 < cLine) (h : Q (.bool true) s) : wpAny (model prog w) A (compareOp .Eq (.ref t) (.ref t')) Q E s := by
  obtain ⟨_, r1⟩ := r1
  obtain ⟨_, r2⟩ := r2
  exact eq_dataH r1 r2 (two_shaped ha hb) (two_shaped ha hb) hu (by rw [two_eqv]; exact h)
theorem two_ne {t t' : Addr} {a b : List Str} {Q : Value → Shared → Prop} (r1 : ∃ as, Reads s.heap (.ref t) (twoD a b) as) (r2 : ∃ as, Reads s.heap (.ref t') (twoD a b) as)
    (ha : ∀ t ∈ a, PyData.strOk t = true) (hb : ∀ t ∈ b, PyData.strOk t = true) (hu : A.units + 64 < cLine) (h : Q (.bool false) s) : wpAny (model prog w) A (compareOp .NotEq (.ref t) (.ref t')) Q E s := by
  obtain ⟨_, r1⟩ := r1
  obtain ⟨_, r2⟩ := r2
  exact ne_dataH r1 r2 (two_shaped ha hb) (two_shaped ha hb) hu (by rw [two_eqv]; exact h)
theorem rev_strs {value slice : Expr} {l : Addr} {vs : List Value} {ts : List Str} {n : Nat} {vk : Value} {ops : List Value} {Q : Value → Shared → Prop} (F : Fr h₀ L s.heap m) (N : News h₀ L s.heap news) (hm : (l, listOf vs.toArray n) ∈ news) (pk : IsPart vk (some (-1))) (hi : StrsAre vs ts) (hz : ts.length ≤ 100000)
    (h : ∀ D ws h', Fr h₀ L h' m → News h₀ L h' ((D, listOf (List.toArray ws) 0) :: news) → (∀ p ∈ news, p.1 < D) → StrsAre ws ts.reverse → Q (.ref D) { s with heap := h' })
    (hs : subscripted slice false (.ref l) (.ref s.heap.objs.size) = operate ops (getItem (.ref l) (.ref s.heap.objs.size))) (ht : ∀ r, letTemporaryGo value (.ref l) r = pure ()) :
    wpAny (model prog w) A (subscriptTail value slice (.ref l) (.ref s.heap.objs.size)) Q E { s with heap := s.heap.push { cls := .type "slice", data := .fields #[.none, .none, vk] } } :=
  krv_lit (its := vs.toArray) (zs := vs.reverse) F N ⟨_, (N _ hm).1, rfl, n, rfl⟩ pk rfl (fun D h' F' N' l1 => h D vs.reverse h' F' N' l1 (strs_reverse hi)) hs ht (by rw [List.size_toArray, hi.length, sizeLine_eq]; omega)
end
end Mine
open PySem PySem.W PyProof.Rows PySem.Calls PySem.Spec
set_option Elab.async false
set_option maxRecDepth 100000
set_option maxHeartbeats 8000000
namespace Mine
/-- a call of `_law_step_is_right` from a frame that stands alone: it answers True, and the ground comes back as it was -/
def ClaimT (w : World) (lv : Nat) (f : Addr) (x y : Str) (t u : Tok) : Prop :=
  ∀ (p : Program) (loose : List Str) (mean : ExcName → Option Value) (mg mb : Str → Option Value) (news : List (Addr × Obj))
    (dp un : Nat) (gd : Option (List Code)) (cn : Str) (cs : Scope) (a : Addr) (ccd : Value) (A₀ : Around) (base h₀ : Heap) (L : Addr) (m : Str → Option Value) (s : Shared) (Q E : Value → Shared → Prop),
    Below A₀ base [] h₀ → Fr h₀ L s.heap m → (hd.heap_39 w.params).In h₀ → News h₀ L s.heap news → Top p loose mean mg mb h₀ → cs.kind = .function → dp + 10 * lv < recursionLimit → un + 100 * lv < cLine →
    (hd.heap_39 w.params).In base → Top p loose mean mg mb base →
    (∀ (h' : Heap) (tk' : Nat), Fr h₀ L h' m → News h₀ L h' news → Q (.bool true) { s with heap := h', toks := tk' }) →
    wpAny (model PySem.Challenge.rw_in0155_01.row.prog w) (ktrTop dp un gd cn cs L a ccd [] []) (call (.ref f) [.str x t, .str y u]) Q E s
local macro_rules | `(tactic| walk_at "call type:list") => `(tactic| k_extra "call type:list")
local macro_rules | `(tactic| walk_at "subscriptTail Name Slice ref ref") => `(tactic| k_extra "subscriptTail Name Slice ref ref")
theorem claimL_use {w : World} {lv : Nat} {f la lb : Addr} {o1 o2 : Obj} {R : List Str} {p : Program} {loose : List Str} {mean : ExcName → Option Value} {mg mb : Str → Option Value} {news : List (Addr × Obj)}
    {dp un : Nat} {gd : Option (List Code)} {cn : Str} {cs : Scope} {a : Addr} {ccd : Value} {cl : List (Str × Addr)} {outer : List Env} {A₀ : Around} {base h₀ : Heap} {L : Addr} {m : Str → Option Value} {s : Shared} {Q E : Value → Shared → Prop}
    (C : ClaimL w lv f la lb o1 o2 R) (B : Below A₀ base outer h₀) (F : Fr h₀ L s.heap m) (X : (hd.heap_39 w.params).In h₀) (N : News h₀ L s.heap news) (T : Top p loose mean mg mb h₀) (hk : cs.kind = .function)
    (hd : dp + 10 * lv < recursionLimit) (hu : un + 100 * lv < cLine) (h1 : (la, o1) ∈ news) (h2 : (lb, o2) ∈ news)
    (ret : ∀ (l : Addr) (vs : List Value) (n : Nat) (h' : Heap) (tk' : Nat), Fr h₀ L h' m → News h₀ L h' ((l, listOf vs.toArray n) :: news) → (∀ p ∈ news, p.1 < l) → StrsAre vs R → Q (.ref l) { s with heap := h', toks := tk' }) :
    wpAny (model PySem.Challenge.rw_in0155_01.row.prog w) (ktrTop dp un gd cn cs L a ccd cl outer) (call (.ref f) [.ref la, .ref lb]) Q E s :=
  C p loose mean mg mb news dp un gd cn cs a ccd cl outer A₀ base h₀ L m s Q E B F X N T hk hd hu h1 h2 ret
theorem take_len : ∀ (b : List Str) (st : Cnt × List Str), (b.foldl takeStep st).2.length ≤ st.2.length + b.length
  | [], _ => Nat.le_refl _
  | y :: r, st => by
    have h := take_len r (takeStep st y)
    have h2 : (takeStep st y).2.length ≤ st.2.length + 1 := by
      unfold takeStep
      split
      · simp
      · omega
    simp only [List.foldl_cons, List.length_cons]
    omega
theorem more_len (a b : List Str) : (moreL a b).length ≤ b.length := by
  have := take_len b (a.foldl dn1 (b.foldl up1 []), [])
  unfold moreL
  simpa using this
theorem step_spec (w : World) (x : Str) (t u : Tok) (hx : x.length ≤ 1000) (hy : (lawPat x).length ≤ 4000)
    (m1 : (unordL (signs x) (signs (lawPat x))).2 = []) (m2 : (unordL (signs x) (signs (lawPat x))).1 = (moreL (signs x) (signs (lawPat x)).reverse).reverse)
    (m3 : (unordL (signs (lawPat x)) (signs x)).2 = (moreL (signs x) (signs (lawPat x))).reverse) (m4 : (unordL (signs (lawPat x)) (signs x)).1 = [])
    (k1 : ∀ z ∈ (moreL (signs x) (signs (lawPat x)).reverse).reverse, PyData.strOk z = true) (k2 : ∀ z ∈ (moreL (signs x) (signs (lawPat x))).reverse, PyData.strOk z = true) : ClaimT w 4 87 x (lawPat x) t u := by
  k_with_none
  w_top off
  unfold ClaimT
  k_with "call ref" => (k_here; k_dflt (refine' claim_use (pattern_spec _ _ _ ?hx) ?k1 ?k2 ?k3 ?k4 ?k5 ?kK ?kd ?ku ?_; (case hx => assumption); (case k1 => k_asm); (case k2 => k_asm); (case k3 => k_asm); (case k4 => k_asm); (case k5 => k_asm); (case kK => first | exact rfl | assumption); (case kd => ktr_room); (case ku => ktr_units)); intro t9 h9 tk9 F9 N9; (try dsimp only); (try k_fold))
  k_with "call type:list" => (k_here; (with_reducible show wpAny _ _ (call (Value.type "list") [Value.str _ _]) _ _ _); k_dflt (refine' list_text rfl ?F ?N ?hx ?_; (case F => k_asm); (case N => k_asm); (case hx => assumption)); intro S9 h9 tk9 vs9 c9 F9 N9 l9 hS9; (try k_lt l9); (try k_sweep))
  k_with "subscriptTail Name Slice ref ref" => (k_here; (with_reducible show wpAny _ _ (subscriptTail _ (PySem.Expr.Slice none none (some _) _) (Value.ref _) (Value.ref _)) _ _ _); k_dflt (refine' rev_strs ?F ?N ?hm ?k ?i ?z ?_ ?s ?t; (case F => k_asm); (case N => k_asm); (case hm => k_mem); (case k => exact IsPart.int _ _); (case i => assumption); (case z => assumption); (case s => with_unfolding_all rfl); (case t => kmk_pure)); intro D9 ws9 h9 F9 N9 l9 hS9; (try k_lt l9); (try k_sweep))
  k_with "call ref" => (k_here; (with_reducible show wpAny _ _ (call (Value.ref 73) [Value.ref _, Value.ref _]) _ _ _); k_dflt (refine' claimL_use (more_spec _ _ _ _ _ _ _ _ _ ?ha ?hb ?hal ?hbl) ?k1 ?k2 ?k3 ?k4 ?k5 ?kK ?kd ?ku ?m1 ?m2 ?_; (case k1 => k_asm); (case k2 => k_asm); (case k3 => k_asm); (case k4 => k_asm); (case k5 => k_asm); (case kK => first | exact rfl | assumption); (case kd => ktr_room); (case ku => ktr_units); (case m1 => k_mem); (case m2 => k_mem); (case ha => assumption); (case hb => assumption); (case hal => assumption); (case hbl => assumption)); intro S9 vs9 n9 h9 tk9 F9 N9 l9 hS9; (try k_lt l9); (try k_sweep))
  intro p loose mean mg mb news
  k_fill
  intro dp un gd cn cs a9 ccd A₀ base h₀ L9 m9 s9 Q9 E9 B9 F9 X9 N9 T9 hck hdp hun XB TB hret
  refine wpAny_call ?_
  refine' code_defS0 B9 F9 X9 N9 T9 ?kA ?k6 ?k7 ?k8 ?k9 ?kB ?_ hck ?c2 ?c3 ?c4 ?c5
  case kA => exact rfl
  case k6 => k_is
  case k7 => k_is
  case k8 => ktr_room
  case k9 => exact BindsTo.of_eq rfl
  case kB => exact locs rfl
  case c2 => exact rfl
  case c3 => exact rfl
  case c4 => exact rfl
  case c5 => decide
  intro g1 L1 h1 FG1 F1 N1 B1 X1 T1 D1
  (try dsimp only)
  (try k_lift B1)
  (try k_fold)
  have q1 : (moreL (signs x) (signs (lawPat x)).reverse).length ≤ 100000 := by
    have := more_len (signs x) (signs (lawPat x)).reverse
    rw [List.length_reverse, signs_length] at this
    omega
  have q2 : (moreL (signs x) (signs (lawPat x))).length ≤ 100000 := by
    have := more_len (signs x) (signs (lawPat x))
    rw [signs_length] at this
    omega
  have q3 : (signs x).length ≤ 100000 := by rw [signs_length]; omega
  have q4 : (signs (lawPat x)).length ≤ 100000 := by rw [signs_length]; omega
  have q5 : x.length ≤ 100000 := by omega
  have q6 : (lawPat x).length ≤ 100000 := by omega
  have q7 : (signs x).length ≤ 1000 := by rw [signs_length]; omega
  have q8 : (signs (lawPat x)).length ≤ 4000 := by rw [signs_length]; omega
  have q9 : (signs (lawPat x)).reverse.length ≤ 4000 := by rw [List.length_reverse]; omega
  k_steps
  · exact absurd ‹(lawPat x != lawPat x) = true› (by simp)
  · rename News g1 _ _ _ => N2
    rename Fr g1 _ _ _ => F2
    with_reducible rename _ < _ ∧ _ < _ ∧ _ < _ ∧ _ < _ ∧ _ < _ ∧ _ < _ ∧ AllLt _ _ => lS
    with_reducible rename _ < _ ∧ _ < _ ∧ _ < _ ∧ _ < _ ∧ _ < _ ∧ AllLt _ _ => lS1
    refine unord_spec _ _ _ _ _ (signs x) (signs (lawPat x)) _ _ ?ha ?hb ?hal ?hbl p loose mean mg mb _ _ _ _ _ _ _ _ _ _ _ _ _ _ _ _ _ B1 F2 X1 N2 T1 rfl ?hd ?hu XB TB D1 lS.1 (kst_ltOf lS1) fun tp lm va vm na nm g2 h2 tk2 TT F3 N3 hm3 ha3 => ?_
    case ha => assumption
    case hb => assumption
    case hal => omega
    case hbl => omega
    case hd => ktr_room
    case hu => ktr_units
    obtain ⟨KT, B2, X2, T2, D2⟩ := TT
    rw [m1] at hm3
    rw [m2] at ha3
    clear N2 F2 B1 X1 T1 D1 lS lS1
    repeat' ((fail_if_success (with_reducible show wpAny _ _ (compareOp _ (Value.ref _) (Value.ref _)) _ _ _)); first | (k_unfold; (try dsimp only)) | (k_end; wrow_close) | walk1 | (dsimp only; walk1) | (leave1; walk_say "STEP leave1"; try dsimp only) | fail "no step")
    rename News g2 _ _ _ => N4
    refine two_ne (a := []) (b := (moreL (signs x) (signs (lawPat x)).reverse).reverse) (two_reads N4 (.tail _ (.tail _ (.head _))) rfl rfl (.tail _ (.tail _ (.tail _ (.head _)))) rfl rfl (.tail _ (.tail _ (.tail _ (.tail _ (.head _))))) rfl rfl (by exact hm3) (by exact ha3))
      (two_reads N4 (.head _) rfl rfl (.tail _ (.head _)) rfl rfl (.tail _ (.tail _ (.tail _ (.tail _ (.tail _ (.head _)))))) rfl rfl (by exact .nil) (by assumption)) (fun _ h => nomatch h) k1 (by ke_room) ?_
    have N5 : News g2 L1 _ news := cb_drop N4 (fun p hp => by repeat (first | exact hp | apply List.mem_cons_of_mem))
    clear N4 hm3 ha3
    repeat clear ‹StrsAre _ _›
    repeat' ((fail_if_success (with_reducible show wpAny _ _ (compareOp _ (Value.ref _) (Value.ref _)) _ _ _)); (fail_if_success (with_reducible show wpAny _ _ (call (Value.ref 49) _) _ _ _)); first | (k_unfold; (try dsimp only)) | (k_end; wrow_close) | walk1 | (dsimp only; walk1) | (leave1; walk_say "STEP leave1"; try dsimp only) | fail "no step")
    rename News g2 _ _ _ => N6
    rename Fr g2 _ _ _ => F6
    with_reducible rename _ < _ ∧ _ < _ ∧ _ < _ ∧ _ < _ ∧ _ < _ ∧ AllLt _ _ => lS
    with_reducible rename _ < _ ∧ _ < _ ∧ _ < _ ∧ _ < _ ∧ AllLt _ _ => lS1
    refine unord_spec _ _ _ _ _ (signs (lawPat x)) (signs x) _ _ ?ha ?hb ?hal ?hbl p loose mean mg mb _ _ _ _ _ _ _ _ _ _ _ _ _ _ _ _ _ B2 F6 X2 N6 T2 rfl ?hd ?hu XB TB D2 lS.1 (kst_ltOf lS1) fun tp lm va vm na nm g3 h3 tk3 TT F7 N7 hm7 ha7 => ?_
    case ha => assumption
    case hb => assumption
    case hal => omega
    case hbl => omega
    case hd => ktr_room
    case hu => ktr_units
    obtain ⟨KT3, B3, X3, T3, D3⟩ := TT
    have KT4 := KT.trans KT3
    rw [m3] at hm7
    rw [m4] at ha7
    clear N6 F6 B2 X2 T2 D2 lS lS1 KT KT3
    (try k_lift B3)
    repeat' ((fail_if_success (with_reducible show wpAny _ _ (compareOp _ (Value.ref _) (Value.ref _)) _ _ _)); first | (k_unfold; (try dsimp only)) | (k_end; wrow_close) | walk1 | (dsimp only; walk1) | (leave1; walk_say "STEP leave1"; try dsimp only) | fail "no step")
    rename News g3 _ _ _ => N8
    refine two_eq (a := (moreL (signs x) (signs (lawPat x))).reverse) (b := []) (two_reads N8 (.tail _ (.tail _ (.head _))) rfl rfl (.tail _ (.tail _ (.tail _ (.head _)))) rfl rfl (.tail _ (.tail _ (.tail _ (.tail _ (.head _))))) rfl rfl (by exact hm7) (by exact ha7))
      (two_reads N8 (.head _) rfl rfl (.tail _ (.tail _ (.tail _ (.tail _ (.tail _ (.head _)))))) rfl rfl (.tail _ (.head _)) rfl rfl (by assumption) (by exact .nil)) k2 (fun _ h => nomatch h) (by ke_room) ?_
    have N9 : News g3 L1 _ news := cb_drop N8 (fun p hp => by repeat (first | exact hp | apply List.mem_cons_of_mem))
    clear N8 hm7 ha7
    repeat clear ‹StrsAre _ _›
    k_steps
    all_goals exact hret _ _ (by assumption) (by assumption)
end Mine
open PySem PySem.W PyProof.Rows PySem.Calls PySem.Spec
set_option Elab.async false
set_option maxRecDepth 100000
namespace Mine
def CrEl (news : List (Addr × Obj)) (R : Str → Prop) (y : Value) (news' : List (Addr × Obj)) : Prop := news' = news ∧ ∃ (r : Str) (t : Tok), R r ∧ y = .str r t
section
variable {prog : Program} {w : World} {A : Around} {h₀ : Heap} {L : Addr} {m : Str → Option Value} {env : Env} {elt : Expr} {x : Str} {scope : Scope} {cl : List (Str × Addr)} {s : Shared} {S : List (Addr × Obj) → Prop} {Fin : List Value → List (Addr × Obj) → Prop} {news : List (Addr × Obj)}
/-- a comprehension over a range whose elements are texts that R holds of -/
theorem cr_range {n : Nat} {a : Int} (R : Str → Prop)
    (turn : ∀ k t I oI C oC D m₂ ys h tk (E' : Value → Shared → Prop), a ≤ k → k < a + (n : Int) → LCg.NsObj oC m₂ → m₂ x = some (.int k t) → Fr h₀ L h m → News h₀ L h ((I, oI) :: (C, oC) :: (D, LCg.lst ys) :: news) → LCg.Off3 I C D news → ((@Ne Nat I C) ∧ (@Ne Nat I D) ∧ (@Ne Nat C D)) →
      wpAny (model prog w) A (eval elt (compEnvC scope cl C env)) (LCg.CompEnd h₀ L m { s with heap := h, toks := tk } I oI C oC D (LCg.lst ys) S (fun y news' => CrEl news R y news')) E' { s with heap := h, toks := tk })
    (fin : ∀ ys ts, StrsAre ys ts → ts.length = n → (∀ r ∈ ts, R r) → Fin ys news) : LCg.CompRest prog w A h₀ L m env elt x scope cl s S (fun i v => ∃ t, v = .int (a + (i : Int)) t) Fin n 0 [] news := by
  have key : ∀ (j i : Nat) (ys : List Value) (ts : List Str), i + j = n → StrsAre ys ts → ts.length = i → (∀ r ∈ ts, R r) → LCg.CompRest prog w A h₀ L m env elt x scope cl s S (fun i v => ∃ t, v = .int (a + (i : Int)) t) Fin j i ys news := by
    intro j
    induction j with
    | zero =>
      intro i ys ts hi hy hl hr
      exact LCg.CompRest.zero (fin ys ts hy (by omega) hr)
    | succ j ih =>
      intro i ys ts hi hy hl hr
      refine LCg.CompRest.succ ?_
      intro v I oI C oC D m₂ h tk E' hv hC hx F N off ne
      obtain ⟨t, hv'⟩ := hv
      rw [hv'] at hx
      refine wpAny_mono (turn _ t I oI C oC D m₂ ys h tk E' (by omega) (by omega) hC hx F N off ne) (fun y s₂ hq => ?_) fun _ _ e => e
      obtain ⟨h', tk', nw, e, F', N', off', hS, hn, r', t', hR, hy'⟩ := hq
      rw [hn] at N' off' hS
      refine ⟨h', tk', news, e, F', N', off', hS, ?_⟩
      rw [hy']
      refine ih (i + 1) _ (ts ++ [r']) (by omega) (kct_snoc hy) (by simp [hl]) (fun r hm => ?_)
      rcases List.mem_append.mp hm with hm | hm
      · exact hr r hm
      · rw [List.mem_singleton.mp hm]; exact hR
  exact key n 0 [] [] (by omega) .nil rfl (fun _ h => nomatch h)
end
end Mine
open PySem PySem.W PyProof.Rows PySem.Calls PySem.Spec
set_option Elab.async false
set_option maxRecDepth 100000
namespace Mine
theorem app_cps (a b : Str) : (a ++ b).cps.toList = a.cps.toList ++ b.cps.toList := by
  show (a.cps ++ b.cps).toList = _
  simp
theorem join_cps (l : List Str) : (Txt.join (Str.ofString "") l).cps.toList = l.flatMap (·.cps.toList) := by
  have e0 : Str.ofString "" = ⟨#[]⟩ := by decide +kernel
  rw [e0]
  unfold Txt.join
  rw [StrLaws.glued_eq_join]
  induction l with
  | nil => rfl
  | cons x r ih =>
    have h : Str.join ⟨#[]⟩ (x :: r) = x ++ Str.join ⟨#[]⟩ r := by
      cases r with
      | nil => exact (Str.append_empty x).symm
      | cons y r' =>
        show x ++ (⟨#[]⟩ : Str) ++ Str.join ⟨#[]⟩ (y :: r') = _
        rw [show (x ++ (⟨#[]⟩ : Str)) = x from Str.append_empty x]
    rw [h, app_cps, ih, List.flatMap_cons]
theorem flat_len : ∀ (ts : List Str), (∀ r ∈ ts, r.cps.size = 1) → (ts.flatMap (·.cps.toList)).length = ts.length
  | [], _ => rfl
  | x :: r, h => by
    rw [List.flatMap_cons, List.length_append, flat_len r (fun y hy => h y (.tail _ hy)), Array.length_toList, h x (.head _), List.length_cons, Nat.add_comm]
theorem sum_ones : ∀ (ts : List Str), (∀ r ∈ ts, r.cps.size = 1) → (ts.map (·.length)).sum = ts.length
  | [], _ => rfl
  | x :: r, h => by
    rw [List.map_cons, List.sum_cons, sum_ones r (fun y hy => h y (.tail _ hy)), List.length_cons, show x.length = 1 from h x (.head _), Nat.add_comm]
/-- a sign that a path may hold -/
noncomputable def isP (c : Nat) : Bool := [42, 97, 46, 63, 36, 92, 45, 47].contains c
def PathOk (x : Str) : Prop := 2 ≤ x.length ∧ x.length ≤ 4 ∧ ∀ c ∈ x.cps.toList, isP c = true
theorem item_ok {j : Int} (h0 : 0 ≤ j) (h8 : j < 8) : (Txt.item (Str.ofString "*a.?$\\-/") j).cps.size = 1 ∧ ∀ c ∈ (Txt.item (Str.ofString "*a.?$\\-/") j).cps.toList, isP c = true := by
  have hj : j = 0 ∨ j = 1 ∨ j = 2 ∨ j = 3 ∨ j = 4 ∨ j = 5 ∨ j = 6 ∨ j = 7 := by omega
  rcases hj with rfl | rfl | rfl | rfl | rfl | rfl | rfl | rfl <;> decide +kernel
theorem path_of {ts : List Str} (h2 : 2 ≤ ts.length) (h4 : ts.length ≤ 4) (h : ∀ r ∈ ts, r.cps.size = 1 ∧ ∀ c ∈ r.cps.toList, isP c = true) : PathOk (Txt.join (Str.ofString "") ts) := by
  have hl : (Txt.join (Str.ofString "") ts).length = ts.length := by
    show (Txt.join (Str.ofString "") ts).cps.size = _
    rw [← Array.length_toList, join_cps, flat_len ts fun r hr => (h r hr).1]
  refine ⟨by omega, by omega, fun c hc => ?_⟩
  rw [join_cps] at hc
  obtain ⟨r, hr, hc⟩ := List.mem_flatMap.mp hc
  exact (h r hr).2 c hc
end Mine
open PySem PySem.W PyProof.Rows PySem.Calls PySem.Spec
set_option Elab.async false
set_option maxRecDepth 100000
set_option maxHeartbeats 8000000
namespace Mine
def ClaimP (w : World) (lv : Nat) (f S : Addr) (vs : List Value) (ns : List Int) : Prop :=
  ∀ (p : Program) (loose : List Str) (mean : ExcName → Option Value) (mg mb : Str → Option Value)
    (dp un : Nat) (gd : Option (List Code)) (cn : Str) (cs : Scope) (a : Addr) (ccd : Value) (A₀ : Around) (base h₀ : Heap) (L : Addr) (m : Str → Option Value) (s : Shared) (Q E : Value → Shared → Prop),
    Below A₀ base [] h₀ → Fr h₀ L s.heap m → (hd.heap_39 w.params).In h₀ → News h₀ L s.heap [(89, tabObj #[])] → Top p loose mean mg mb h₀ → cs.kind = .function → dp + 10 * lv < recursionLimit → un + 100 * lv < cLine →
    base.IsList S vs.toArray → IntsAre vs ns → ns.length ≤ 63 →
    (∀ (x : Str) (t : Tok) (h' : Heap) (tk' : Nat), PathOk x → Fr h₀ L h' m → News h₀ L h' [(89, tabObj #[])] → Q (.str x t) { s with heap := h', toks := tk' }) →
    wpAny (model PySem.Challenge.rw_in0155_01.row.prog w) (ktrTop dp un gd cn cs L a ccd [] []) (call (.ref f) [.ref S]) Q E s
theorem path_spec (w : World) (S : Addr) (vs : List Value) (ns : List Int) : ClaimP w 4 54 S vs ns := by
  k_with_none
  w_top off
  unfold ClaimP
  intro p loose mean mg mb
  k_fill
  intro dp un gd cn cs a9 ccd A₀ base h₀ L9 m9 s9 Q9 E9 B9 F9 X9 N9 T9 hck hdp hun hS hI hlen hret
  have lifted := hS
  refine wpAny_call ?_
  refine' code_defC B9 F9 X9 N9 T9 ?kA ?kF ?kK ?k6 ?k7 ?k8 ?k9 ?kB ?kD ?_ ?c2 ?c3 ?c4
  case kA => exact rfl
  case kF => exact rfl
  case kK => exact hck
  case k6 => k_is
  case k7 => k_is
  case k8 => ktr_room
  case k9 => exact BindsTo.of_eq rfl
  case kB => exact rfl
  case kD => decide +kernel
  case c2 => exact rfl
  case c3 => exact rfl
  case c4 => exact rfl
  intro g' L' h' tk' cells' FG' F' N' Y' B' X' T' l1
  k_cells Y'
  (try simp only [List.cons_append, List.nil_append] at N')
  (try dsimp only)
  (try k_lift B')
  (try k_fold)
  repeat' ((fail_if_success (with_reducible show @LCg.CompSrc _ _ _ _ _ _ _ (Expr.Subscript _ _ _) _ _ _ _ _ _)); first | (k_unfold; (try dsimp only)) | (k_end; wrow_close) | walk1 | (dsimp only; walk1) | (leave1; walk_say "STEP leave1"; try dsimp only) | fail "no step")
  generalize (List.map (fun k' => Int.fmod k' 1000000) (List.take 63 ns)).sum = T at *
  have hf1 := fmod_lo T (n := 3) (by decide)
  have hf2 := fmod_hi T (n := 3) (by decide)
  refine LCg.CompSrc.range (by rfl) (by k_asm) (by k_asm) (by assumption) (by exact small_one (by omega) (by omega) (by omega) (by omega)) (by exact rangeSize_nat _ _) (by rw [PySem.sizeLine_eq]; omega) ?_
  intro g'
  refine' cr_range (fun r => r.cps.size = 1 ∧ ∀ c ∈ r.cps.toList, isP c = true) (fun k' t' I' oI' C' oC' D' m' ys' h' tk' E' hlo' hhi' hC' hx' F' N' off' ne' => ?_) ?_
  · have off0 := off'
    (try (simp only [LCg.Off3, and_true] at off'))
    (try k_fold)
    have hk4 : k' = 0 ∨ k' = 1 ∨ k' = 2 ∨ k' = 3 := by omega
    rcases hk4 with rfl | rfl | rfl | rfl
    · k_steps
      exact ⟨_, _, _, rfl, F', N', off0, trivial, rfl, _, _, item_ok (fmod_lo _ (by decide)) (fmod_hi _ (by decide)), rfl⟩
    · k_steps
      exact ⟨_, _, _, rfl, F', N', off0, trivial, rfl, _, _, item_ok (fmod_lo _ (by decide)) (fmod_hi _ (by decide)), rfl⟩
    · k_steps
      exact ⟨_, _, _, rfl, F', N', off0, trivial, rfl, _, _, item_ok (fmod_lo _ (by decide)) (fmod_hi _ (by decide)), rfl⟩
    · k_steps
      exact ⟨_, _, _, rfl, F', N', off0, trivial, rfl, _, _, item_ok (fmod_lo _ (by decide)) (fmod_hi _ (by decide)), rfl⟩
  · (try k_fold)
    intro ys ts hS hl hR
    k_steps
    rename News _ _ _ ((_, LCg.lst ys) :: _) => kNews
    refine join_list (News.isList kNews (.head _)) hS (by rw [sum_ones _ fun r hr => (hR r hr).1, show (Str.ofString "").length = 0 from by decide +kernel, Nat.mul_zero]; omega) fun t7 k7 => ?_
    k_steps
    all_goals exact hret _ _ _ _ (path_of (by omega) (by omega) hR) (by assumption) (cb_drop (by assumption) (fun p hp => by repeat (first | exact hp | apply List.mem_cons_of_mem)))
end Mine
open PySem PySem.W PyProof.Rows PySem.Calls PySem.Spec PyProof.V
set_option Elab.async false
set_option maxRecDepth 100000
namespace Mine
theorem entry_rit_iter : entryFor table "range_iterator.__iter__" = some Builtin.«dict_keyiterator.__iter__» :=
  entryFor_alias (id' := "dict_keyiterator.__iter__") (by kernel_rfl) (by first | rfl | decide +kernel | (unfold String.splitOn; simp +decide [String.splitOnAux])) (by decide +kernel) (by kernel_rfl)
section
variable {prog : Program} {w : World} {A : Around} {E : Value → Shared → Prop} {s : Shared} {env : Env} {h₀ : Heap} {L : Addr} {m : Str → Option Value} {news : List (Addr × Obj)} {x : Str} {body : List Stmt}
theorem pyIter_rit {z : Addr} {a left : Int} {Q : Value → Shared → Prop} (hz : s.heap.get? z = some (itR a left)) (h : Q (.ref z) s) : wpAny (model prog w) A (pyIter (.ref z)) Q E s := by
  have hTy : s.TypeIs (.ref z) "range_iterator" := ⟨_, hz, rfl⟩
  refine wpAny_pyIter_slot hTy F.slot_range_iterator_iter (wpAny_call_entry F.slot_range_iterator_iter hTy entry_rit_iter ?_ (F.args_range_iterator_iter_1 _))
  show wpAny _ _ (ret (.ref z)) _ _ s
  exact wpAny_pure ⟨_, rfl, "range_iterator", _, hTy, F.slot_range_iterator_next.lookup, h⟩
noncomputable abbrev rangeO (a b c : Int) (t u v : Tok) : Obj := { cls := .type "range", data := .fields #[.int a t, .int b u, .int c v] }
/-- range(n), onto the ledger -/
theorem range1_led {n : Int} {t : Tok} {Q : Value → Shared → Prop} (F : Fr h₀ L s.heap m) (N : News h₀ L s.heap news)
    (hQ : ∀ r h' tk a b, Fr h₀ L h' m → News h₀ L h' ((r, rangeO 0 n 1 a t b) :: news) → (∀ p ∈ news, p.1 < r) → Q (.ref r) { s with heap := h', toks := tk }) : wpAny (model prog w) A (call (.type "range") [.int n t]) Q E s :=
  call_range_1 (hQ _ _ _ _ _ (F.push _) (News.push F N _ rfl) fun p hp => Heap.lt_size (N p hp).1)
theorem range2_led {n k : Int} {t u : Tok} {Q : Value → Shared → Prop} (F : Fr h₀ L s.heap m) (N : News h₀ L s.heap news)
    (hQ : ∀ r h' tk a, Fr h₀ L h' m → News h₀ L h' ((r, rangeO k n 1 t u a) :: news) → (∀ p ∈ news, p.1 < r) → Q (.ref r) { s with heap := h', toks := tk }) : wpAny (model prog w) A (call (.type "range") [.int k t, .int n u]) Q E s :=
  call_range_2 (hQ _ _ _ _ (F.push _) (News.push F N _ rfl) fun p hp => Heap.lt_size (N p hp).1)
/-- the sum of two lists of the ledger -/
theorem add_two {l b : Addr} {vs ws : List Value} {n k : Nat} {Q : Value → Shared → Prop} (F : Fr h₀ L s.heap m) (N : News h₀ L s.heap news) (hl : (l, listOf vs.toArray n) ∈ news) (hb : (b, listOf ws.toArray k) ∈ news) (hz : vs.length + ws.length ≤ 100)
    (hQ : ∀ D h', Fr h₀ L h' m → News h₀ L h' ((D, listOf (vs ++ ws).toArray 0) :: news) → (∀ p ∈ news, p.1 < D) → Q (.ref D) { s with heap := h' }) : wpAny (model prog w) A (binaryOp .Add (.ref l) (.ref b)) Q E s :=
  add_lists F N ⟨_, (N _ hl).1, rfl, n, rfl⟩ ⟨_, (N _ hb).1, rfl, k, rfl⟩ (fun h' F' N' => hQ _ h' F' N' fun p hp => Heap.lt_size (N p hp).1) (by rw [sizeLine_eq]; omega)
/-- iter() of a range: its iterator, onto the ledger -/
theorem call_iter_range {r : Addr} {a b : Int} {t u v : Tok} {n : Nat} {Q : Value → Shared → Prop} (F : Fr h₀ L s.heap m) (N : News h₀ L s.heap news) (hr : IsRange s.heap r a b 1 t u v) (hs : Builtin.Range.small a b 1 = true) (hn : Builtin.Range.rangeSize a b 1 = (n : Int))
    (hQ : ∀ I h', Fr h₀ L h' m → News h₀ L h' ((I, itR a (n : Int)) :: news) → (∀ p ∈ news, p.1 < I) → Q (.ref I) { s with heap := h' }) : wpAny (model prog w) A (call (.builtin "iter") [.ref r]) Q E s := by
  refine call_function_entry (by decide +kernel) (by decide +kernel) kdk_entry_iter (kdk_args_iter _) ?_
  unfold Builtin.«iter»
  refine wpAny_bind (m := someArgs "iter" 1 2 _) (wpAny_of_eq (a := [Value.ref r]) (by first | rfl | kernel_rfl!) ?_)
  show wpAny _ _ (pyIter (.ref r) >>= _) _ _ _
  refine wpAny_bind (wpAny_pyIter_range hr hs ?_)
  refine wpAny_pure ⟨_, rfl, ?_⟩
  refine hQ _ _ (F.push _) ?_ (fun p hp => Heap.lt_size (N p hp).1)
  have N1 := News.push F N { cls := .type "range_iterator", data := .fields #[rawInt a, rawInt (Builtin.Range.rangeSize a b 1), rawInt 1] }
  rw [hn] at N1 ⊢
  exact N1
/-- a for loop over an iterator of a range that lies on the ledger, turn by turn -/
theorem iter_rit {I : Addr} {a : Int} {n : Nat} {news : List (Addr × Obj)} {m : Str → Option Value} {Q : Flow → Shared → Prop} (hh : A.handled = none) (F : Fr h₀ env.locals s.heap m) (N : News h₀ env.locals s.heap ((I, itR a (n : Int)) :: news)) (off : ∀ p ∈ news, p.1 ≠ I)
    (rest : RangeRest prog w A E h₀ env x body Q s I a n n 0 m news) : wpAny (model prog w) A (pyIter (.ref I)) (fun it s₂ => LoopAtV prog w A h₀ env x body Q E it s₂) E s := by
  have hI := N _ (.head _)
  refine pyIter_rit hI.1 ?_
  have W : Walks prog w A I [I] [I] n (fun i v => i < n ∧ ∃ t, v = .int (a + i * 1) t) (fun i h => IsRangeIter h I (a + (i : Nat) * 1) ((n : Int) - (i : Nat)) 1) := (Walks.range hh I a 1 n).bound
  refine ⟨I, [I], [I], n, _, _, m, news, fun i m₁ news₁ => RangeRest prog w A E h₀ env x body Q s I a n (n - i) i m₁ news₁, rfl, W, fun hm => hI.2.1 (List.mem_singleton.mp hm).symm, fun b hb => by rw [List.mem_singleton.mp hb]; exact hI.2.2,
    fun p hp hm => off p hp (List.mem_singleton.mp hm), (by show IsRangeIter _ _ _ _ _; simpa [itR] using hI.1), F, fun p hp => N p (.tail _ hp), rest, ?_, ?_⟩
  · rintro i v m₁ news₁ s₁ own ⟨hh', tk', rfl⟩ hin ⟨_, t, rfl⟩ hJ hoff hown hget hall hst F₁ N₁
    have hst' : hh'.get? I = some (itR (a + ((i + 1 : Nat) : Int)) ((n : Int) - ((i + 1 : Nat) : Int))) := by
      have q : IsRangeIter hh' I (a + ((i + 1 : Nat) : Int) * 1) ((n : Int) - ((i + 1 : Nat) : Int)) 1 := hst
      rw [Int.mul_one] at q
      exact q
    have hmem := hall I (List.mem_singleton.mpr rfl) hI.2.2 _ hst'
    have hkk : n - i = (n - (i + 1)) + 1 := by omega
    have hJ' : RangeRest prog w A E h₀ env x body Q s I a n ((n - (i + 1)) + 1) i m₁ news₁ := by rw [← hkk]; exact hJ
    have e1 : a + (i : Int) * 1 = a + (i : Int) := by rw [Int.mul_one]
    rw [e1] at F₁
    refine wpAny_mono (hJ' t hh' tk' F₁ (fun p hp => ?_)) (fun f s₂ p => ?_) fun _ _ e => e
    · rcases List.mem_cons.mp hp with rfl | hp
      · exact N₁ _ (List.mem_append_left _ hmem)
      · exact N₁ _ (List.mem_append_right _ hp)
    have fin : UnrEnd h₀ env.locals { s with heap := hh', toks := tk' } I (itR (a + ((i + 1 : Nat) : Int)) ((n : Int) - ((i + 1 : Nat) : Int))) (RangeRest prog w A E h₀ env x body Q s I a n (n - (i + 1)) (i + 1)) s₂ →
        LoopStepU h₀ env.locals [I] own (fun m₁ news₁ => RangeRest prog w A E h₀ env x body Q s I a n (n - (i + 1)) (i + 1) m₁ news₁) { s with heap := hh', toks := tk' } .next s₂ := by
      rintro ⟨h', tk, m', news', e, F', N', ho, r⟩
      refine ⟨rfl, h', tk, m', news', e, F', fun p hp => ?_, fun p hp hq => ho p hp (List.mem_singleton.mp hq), r⟩
      rcases List.mem_append.mp hp with hp | hp
      · have h1 : p.1 = I := List.mem_singleton.mp (hown p hp)
        have h2 : hh'.get? p.1 = some p.2 := hget p hp
        have h3 : p = (I, itR (a + ((i + 1 : Nat) : Int)) ((n : Int) - ((i + 1 : Nat) : Int))) := by
          rw [h1, hst'] at h2
          exact Prod.ext h1 (Option.some.inj h2).symm
        rw [h3]; exact N' _ (List.mem_cons_self ..)
      · exact N' _ (List.mem_cons_of_mem _ hp)
    cases f with
    | ret v => exact .ret p
    | brk => exact .brk p
    | next => exact .next (fin p)
    | cont => exact .cont (fin p)
  · rintro h' tk m' news' F' N' _ hJ
    have hJ' : RangeRest prog w A E h₀ env x body Q s I a n 0 n m' news' := by
      have z : n - n = 0 := Nat.sub_self n
      have q : RangeRest prog w A E h₀ env x body Q s I a n (n - n) n m' news' := hJ
      rw [z] at q; exact q
    exact hJ' h' tk F' N'
theorem unr_turn {s₁ : Shared} {I : Addr} {it : Obj} {d x1 x3 : Addr × Obj} {rest : List (Addr × Obj)} {R : (Str → Option Value) → List (Addr × Obj) → Prop} {h' : Heap} {tk : Nat} {m' : Str → Option Value}
    (F : Fr h₀ L h' m') (N : News h₀ L h' (d :: x1 :: (I, it) :: x3 :: rest)) (h1 : I < d.1) (h2 : ∀ p ∈ rest, p.1 < I) (r : R m' (d :: rest)) : UnrEnd h₀ L s₁ I it R { s₁ with heap := h', toks := tk } :=
  UnrEnd.intro F N (d :: rest) (fun p hp => by
    rcases List.mem_cons.mp hp with rfl | hp
    · exact .tail _ (.tail _ (.head _))
    · rcases List.mem_cons.mp hp with rfl | hp
      · exact .head _
      · exact .tail _ (.tail _ (.tail _ (.tail _ hp)))) (fun p hp => by
    rcases List.mem_cons.mp hp with rfl | hp
    · exact Ne.symm (Nat.ne_of_lt h1)
    · exact Nat.ne_of_lt (h2 p hp)) r
end
end Mine
open PySem PySem.W PyProof.Rows PySem.Calls PySem.Spec
set_option Elab.async false
set_option maxRecDepth 100000
namespace Mine
noncomputable def sub1F (k : Str → Int) (y : Str) : Str → Int := fun v => if v = y then k v - 1 else k v
noncomputable def takeF : (Str → Int) → List Str → List Str
  | _, [] => []
  | k, y :: r => if k y > 0 then y :: takeF (sub1F k y) r else takeF k r
noncomputable def dropF : (Str → Int) → List Str → List Str
  | _, [] => []
  | k, y :: r => if k y > 0 then dropF (sub1F k y) r else y :: dropF k r
noncomputable def cn (l : List Str) (v : Str) : Int := (l.countP (fun z => decide (z = v)) : Nat)
theorem cn_nil (v : Str) : cn [] v = 0 := rfl
theorem cn_cons (y : Str) (l : List Str) (v : Str) : cn (y :: l) v = cn l v + (if y = v then 1 else 0) := by
  unfold cn
  rw [List.countP_cons]
  by_cases h : y = v <;> simp [h]
theorem cn_nonneg (l : List Str) (v : Str) : 0 ≤ cn l v := by unfold cn; omega
theorem cn_append (a b : List Str) (v : Str) : cn (a ++ b) v = cn a v + cn b v := by
  unfold cn; rw [List.countP_append]; omega
theorem cn_reverse (a : List Str) (v : Str) : cn a.reverse v = cn a v := by
  unfold cn; rw [List.countP_reverse]
theorem cn_pos {l : List Str} {v : Str} (h : v ∈ l) : 0 < cn l v := by
  induction l with
  | nil => cases h
  | cons y r ih =>
    rw [cn_cons]
    rcases List.mem_cons.mp h with rfl | h
    · have := cn_nonneg r v; simp; omega
    · have := ih h; split <;> omega
theorem cn_zero {l : List Str} {v : Str} (h : v ∉ l) : cn l v = 0 := by
  induction l with
  | nil => rfl
  | cons y r ih =>
    rw [cn_cons, ih (fun q => h (.tail _ q)), if_neg (fun (e : y = v) => h (by subst e; exact .head _))]
    rfl
theorem cn_erase {l : List Str} {y : Str} (h : y ∈ l) (v : Str) : cn (l.erase y) v = cn l v - (if y = v then 1 else 0) := by
  induction l with
  | nil => cases h
  | cons a r ih =>
    by_cases e : a = y
    · subst e
      rw [List.erase_cons_head, cn_cons]; omega
    · rw [List.erase_cons_tail (by simpa using e), cn_cons, cn_cons]
      rcases List.mem_cons.mp h with q | q
      · exact absurd q.symm e
      · rw [ih q]; omega
theorem dropF_congr : ∀ (l : List Str) (k k' : Str → Int), (∀ v, k v = k' v) → dropF k l = dropF k' l
  | _, k, k', h => by have : k = k' := funext h; rw [this]
theorem dropF_erase : ∀ (l : List Str) (k : Str → Int) (y : Str), (∀ v, 0 ≤ k v) → y ∈ l → dropF k (l.erase y) = dropF (fun v => if v = y then k v + 1 else k v) l
  | [], _, _, _, h => nomatch h
  | a :: t, k, y, hk, h => by
    by_cases e : a = y
    · subst e
      rw [List.erase_cons_head]
      show _ = (if (if a = a then k a + 1 else k a) > 0 then _ else _)
      rw [if_pos rfl, if_pos (by have := hk a; omega)]
      refine dropF_congr _ _ _ fun v => ?_
      unfold sub1F
      by_cases hv : v = a <;> simp [hv]
    · have hy : y ∈ t := (List.mem_cons.mp h).elim (fun q => absurd q.symm e) id
      rw [List.erase_cons_tail (by simpa using e)]
      show (if k a > 0 then _ else _) = (if (if a = y then k a + 1 else k a) > 0 then _ else _)
      rw [if_neg e]
      by_cases hp : k a > 0
      · rw [if_pos hp, if_pos hp, dropF_erase t (sub1F k a) y (fun v => by
          unfold sub1F; split
          · rename_i q; subst q; omega
          · exact hk v) hy]
        refine dropF_congr _ _ _ fun v => ?_
        unfold sub1F
        by_cases h1 : v = a
        · subst h1; simp [e]
        · simp [h1]
      · rw [if_neg hp, if_neg hp, dropF_erase t k y hk hy]
theorem dropF_zero : ∀ (l : List Str), dropF (fun _ => 0) l = l
  | [] => rfl
  | a :: t => by
    show (if (0 : Int) > 0 then _ else _) = _
    rw [if_neg (by decide), dropF_zero t]
/-- all is found: nothing is missing, and of each sign the first ones go -/
theorem rem_all : ∀ (L A ms : List Str), (∀ v, cn L v ≤ cn A v) → L.foldl remStep (A, ms) = (dropF (cn L) A, ms)
  | [], A, ms, _ => by
    show (A, ms) = _
    rw [show dropF (cn []) A = A from (dropF_congr A _ _ fun v => cn_nil v).trans (dropF_zero A)]
  | y :: r, A, ms, h => by
    have hy : y ∈ A := by
      refine Classical.byContradiction fun q => ?_
      have h1 := h y
      rw [cn_zero q, cn_cons, if_pos rfl] at h1
      have := cn_nonneg r y
      omega
    have hs : remStep (A, ms) y = (A.erase y, ms) := by unfold remStep; rw [if_pos hy]
    rw [List.foldl_cons, hs, rem_all r (A.erase y) ms (fun v => by
      have h1 := h v
      rw [cn_cons] at h1
      rw [cn_erase hy]
      by_cases hv : y = v
      · rw [if_pos hv] at h1 ⊢; omega
      · rw [if_neg hv] at h1 ⊢; omega), dropF_erase A (cn r) y (cn_nonneg r) hy]
    refine congrArg (·, ms) (dropF_congr _ _ _ fun v => ?_)
    show (if v = y then cn r v + 1 else cn r v) = _
    rw [cn_cons]
    by_cases hv : v = y
    · subst hv; simp
    · rw [if_neg hv, if_neg (Ne.symm hv)]; omega
/-- the other way round: what goes missing -/
theorem rem_miss : ∀ (L A ms : List Str), (L.foldl remStep (A, ms)).2 = ms ++ dropF (cn A) L
  | [], A, ms => by simp [dropF]
  | y :: r, A, ms => by
    rw [List.foldl_cons]
    by_cases hy : y ∈ A
    · have hs : remStep (A, ms) y = (A.erase y, ms) := by unfold remStep; rw [if_pos hy]
      rw [hs, rem_miss r]
      show _ = ms ++ (if cn A y > 0 then _ else _)
      rw [if_pos (cn_pos hy)]
      refine congrArg (ms ++ ·) (dropF_congr _ _ _ fun v => ?_)
      rw [cn_erase hy]
      unfold sub1F
      by_cases hv : v = y
      · subst hv; simp
      · rw [if_neg hv, if_neg (Ne.symm hv)]; omega
    · have hs : remStep (A, ms) y = (A, ms ++ [y]) := by unfold remStep; rw [if_neg hy]
      rw [hs, rem_miss r]
      show _ = ms ++ (if cn A y > 0 then _ else _)
      rw [if_neg (by rw [cn_zero hy]; decide), List.append_assoc]
      rfl
theorem rem_none : ∀ (L A ms : List Str), (∀ v, cn A v ≤ cn L v) → (L.foldl remStep (A, ms)).1 = []
  | [], A, ms, h => by
    show A = []
    cases A with
    | nil => rfl
    | cons a t =>
      have h1 := h a
      rw [cn_cons, if_pos rfl, cn_nil] at h1
      have := cn_nonneg t a
      omega
  | y :: r, A, ms, h => by
    rw [List.foldl_cons]
    by_cases hy : y ∈ A
    · have hs : remStep (A, ms) y = (A.erase y, ms) := by unfold remStep; rw [if_pos hy]
      rw [hs]
      refine rem_none r _ _ fun v => ?_
      have h1 := h v
      rw [cn_cons] at h1
      rw [cn_erase hy]
      by_cases hv : y = v
      · rw [if_pos hv] at h1 ⊢; omega
      · rw [if_neg hv] at h1 ⊢; omega
    · have hs : remStep (A, ms) y = (A, ms ++ [y]) := by unfold remStep; rw [if_neg hy]
      rw [hs]
      refine rem_none r _ _ fun v => ?_
      have h1 := h v
      rw [cn_cons] at h1
      by_cases hv : y = v
      · subst hv; rw [cn_zero hy]; exact cn_nonneg _ _
      · rw [if_neg hv] at h1; omega
theorem takeF_congr : ∀ (l : List Str) (k k' : Str → Int), (∀ v, k v = k' v ∨ (cn l v ≤ k v ∧ cn l v ≤ k' v)) → takeF k l = takeF k' l
  | [], _, _, _ => rfl
  | y :: r, k, k', h => by
    have hp : (k y > 0) = (k' y > 0) := by
      have h1 := h y
      rw [cn_cons, if_pos rfl] at h1
      have := cn_nonneg r y
      exact propext (by omega)
    show (if k y > 0 then _ else _) = (if k' y > 0 then _ else _)
    by_cases q : k y > 0
    · rw [if_pos q, if_pos (hp ▸ q)]
      refine congrArg (y :: ·) (takeF_congr r _ _ fun v => ?_)
      have h1 := h v
      rw [cn_cons] at h1
      unfold sub1F
      by_cases hv : v = y
      · subst hv; simp at h1 ⊢; omega
      · rw [if_neg hv, if_neg hv]; rw [if_neg (Ne.symm hv)] at h1; omega
    · rw [if_neg q, if_neg (hp ▸ q)]
      refine takeF_congr r _ _ fun v => ?_
      have h1 := h v
      rw [cn_cons] at h1
      have h2 := cn_nonneg r v
      by_cases hv : y = v
      · subst hv; simp at h1; omega
      · rw [if_neg hv] at h1; omega
theorem takeF_snoc : ∀ (l : List Str) (k : Str → Int) (a : Str), takeF k (l ++ [a]) = takeF k l ++ (if k a > cn l a then [a] else [])
  | [], k, a => by
    rw [cn_nil]
    show (if k a > 0 then _ else _) = _
    split <;> rfl
  | y :: r, k, a => by
    rw [List.cons_append]
    show (if k y > 0 then y :: takeF (sub1F k y) (r ++ [a]) else takeF k (r ++ [a])) = (if k y > 0 then _ else _) ++ _
    have hn := cn_nonneg r a
    by_cases q : k y > 0
    · rw [if_pos q, if_pos q, takeF_snoc r (sub1F k y) a, List.cons_append]
      have e : (sub1F k y a > cn r a) = (k a > cn (y :: r) a) := by
        rw [cn_cons]; unfold sub1F
        by_cases hv : a = y
        · subst hv; simp; omega
        · rw [if_neg hv, if_neg (Ne.symm hv)]; exact propext (by omega)
      simp only [e]
    · rw [if_neg q, if_neg q, takeF_snoc r k a]
      have e : (k a > cn r a) = (k a > cn (y :: r) a) := by
        rw [cn_cons]
        by_cases hv : y = a
        · subst hv; simp; omega
        · rw [if_neg hv]; exact propext (by omega)
      simp only [e]
/-- dropping the first ones is taking the last ones -/
theorem drop_take : ∀ (A : List Str) (e : Str → Int), (∀ v, 0 ≤ e v) → (∀ v, e v ≤ cn A v) → dropF e A = (takeF (fun v => cn A v - e v) A.reverse).reverse
  | [], _, _, _ => rfl
  | a :: t, e, h0, h => by
    rw [List.reverse_cons, takeF_snoc, cn_reverse, List.reverse_append]
    show (if e a > 0 then _ else _) = _
    by_cases q : e a > 0
    · rw [if_pos q, if_neg (by rw [cn_cons, if_pos rfl]; omega), drop_take t (sub1F e a) (fun v => by
        unfold sub1F; split
        · rename_i z; subst z; omega
        · exact h0 v) (fun v => by
        have h1 := h v
        rw [cn_cons] at h1
        unfold sub1F
        by_cases hv : v = a
        · subst hv; simp at h1 ⊢; omega
        · rw [if_neg hv]; rw [if_neg (Ne.symm hv)] at h1; omega)]
      simp only [List.reverse_nil, List.nil_append]
      refine congrArg List.reverse (takeF_congr _ _ _ fun v => .inl ?_)
      rw [cn_cons]; unfold sub1F
      by_cases hv : v = a
      · subst hv; simp; omega
      · rw [if_neg hv, if_neg (Ne.symm hv)]; omega
    · have ha : e a = 0 := by have := h0 a; omega
      rw [if_neg q, if_pos (by rw [cn_cons, if_pos rfl]; omega), drop_take t e h0 (fun v => by
        have h1 := h v
        rw [cn_cons] at h1
        by_cases hv : a = v
        · subst hv; rw [ha]; exact cn_nonneg _ _
        · rw [if_neg hv] at h1; omega)]
      show a :: _ = a :: _
      refine congrArg (a :: ·) (congrArg List.reverse (takeF_congr _ _ _ fun v => ?_))
      rw [cn_cons, cn_reverse]
      by_cases hv : a = v
      · subst hv; right; rw [ha, if_pos rfl]; omega
      · left; rw [if_neg hv]; omega
end Mine
open PySem PySem.W PyProof.Rows PySem.Calls PySem.Spec
set_option Elab.async false
set_option maxRecDepth 100000
namespace Mine
theorem look_cons (a : Str) (b : Int) (t : List (Str × Int)) (z : Str) : kdpLook ((a, b) :: t) z 0 = if a = z then b else kdpLook t z 0 := by
  unfold kdpLook
  rw [List.find?_cons]
  by_cases h : a = z <;> simp [h]
theorem look_map (k : Str) (v : Int) (z : Str) : ∀ c : List (Str × Int), kdpLook (c.map (fun p => if decide (p.1 = k) then (p.1, v) else p)) z 0 = if z = k then (if c.any (fun p => decide (p.1 = k)) then v else 0) else kdpLook c z 0
  | [] => by by_cases h : z = k <;> simp [h, kdpLook]
  | (a, b) :: t => by
    have ih := look_map k v z t
    rw [List.map_cons, List.any_cons]
    by_cases ha : a = k
    · subst ha
      simp only [decide_true, if_true, Bool.true_or]
      rw [look_cons, look_cons, ih]
      by_cases hz : z = a
      · subst hz; simp
      · rw [if_neg (Ne.symm hz), if_neg hz, if_neg hz, if_neg (Ne.symm hz)]
    · simp only [ha, decide_false, Bool.false_eq_true, if_false, Bool.false_or]
      rw [look_cons, look_cons, ih]
      by_cases hz : a = z
      · subst hz; rw [if_pos rfl, if_neg ha, if_pos rfl]
      · rw [if_neg hz, if_neg hz]
theorem look_app (k : Str) (v : Int) (z : Str) : ∀ c : List (Str × Int), c.any (fun p => decide (p.1 = k)) = false → kdpLook (c ++ [(k, v)]) z 0 = if z = k then v else kdpLook c z 0
  | [], _ => by
    rw [List.nil_append, look_cons]
    by_cases h : z = k
    · subst h; simp
    · rw [if_neg (Ne.symm h), if_neg h]
  | (a, b) :: t, h => by
    rw [List.any_cons, Bool.or_eq_false_iff] at h
    have ha : a ≠ k := by simpa using h.1
    rw [List.cons_append, look_cons, look_cons, look_app k v z t h.2]
    by_cases hz : a = z
    · subst hz; rw [if_pos rfl, if_neg ha, if_pos rfl]
    · rw [if_neg hz, if_neg hz]
theorem look_put (c : List (Str × Int)) (k : Str) (v : Int) (z : Str) : kdpLook (kdpPut c k v) z 0 = if z = k then v else kdpLook c z 0 := by
  unfold kdpPut
  by_cases h : c.any (fun p => decide (p.1 = k)) = true
  · rw [if_pos h, look_map, h, if_pos rfl]
  · rw [if_neg h, look_app k v z c (Bool.eq_false_iff.mpr h)]
theorem look_up : ∀ (b : List Str) (c : Cnt) (z : Str), kdpLook (b.foldl up1 c) z 0 = kdpLook c z 0 + cn b z
  | [], c, z => by rw [cn_nil]; exact (Int.add_zero _).symm
  | y :: r, c, z => by
    rw [List.foldl_cons, look_up r, cn_cons]
    unfold up1
    rw [look_put]
    by_cases h : z = y
    · subst h; simp; omega
    · rw [if_neg h, if_neg (Ne.symm h)]; omega
theorem look_dn : ∀ (b : List Str) (c : Cnt) (z : Str), kdpLook (b.foldl dn1 c) z 0 = kdpLook c z 0 - cn b z
  | [], c, z => by rw [cn_nil]; exact (Int.sub_zero _).symm
  | y :: r, c, z => by
    rw [List.foldl_cons, look_dn r, cn_cons]
    unfold dn1
    rw [look_put]
    by_cases h : z = y
    · subst h; simp; omega
    · rw [if_neg h, if_neg (Ne.symm h)]; omega
theorem take_fold : ∀ (b : List Str) (c : Cnt) (tk : List Str) (k : Str → Int), (∀ v, kdpLook c v 0 = k v) → (b.foldl takeStep (c, tk)).2 = tk ++ takeF k b
  | [], _, tk, _, _ => by simp [takeF]
  | y :: r, c, tk, k, h => by
    rw [List.foldl_cons]
    by_cases q : k y > 0
    · have hs : takeStep (c, tk) y = (dn1 c y, tk ++ [y]) := by unfold takeStep; rw [if_pos (by rw [h y]; exact q)]
      rw [hs, take_fold r (dn1 c y) (tk ++ [y]) (sub1F k y) (fun v => by
        unfold dn1 sub1F
        rw [look_put, h, h]
        by_cases hv : v = y
        · subst hv; rfl
        · rw [if_neg hv, if_neg hv])]
      show _ = tk ++ (if k y > 0 then _ else _)
      rw [if_pos q, List.append_assoc]
      rfl
    · have hs : takeStep (c, tk) y = (c, tk) := by unfold takeStep; rw [if_neg (by rw [h y]; exact q)]
      rw [hs, take_fold r c tk k h]
      show _ = tk ++ (if k y > 0 then _ else _)
      rw [if_neg q]
theorem more_eq (a b : List Str) : moreL a b = takeF (fun v => cn b v - cn a v) b := by
  unfold moreL
  rw [take_fold b _ [] (fun v => cn b v - cn a v) (fun v => by rw [look_dn, look_up, show kdpLook [] v 0 = 0 from rfl]; omega)]
  rfl
theorem takeF_mem : ∀ (l : List Str) (k : Str → Int) (z : Str), z ∈ takeF k l → z ∈ l
  | [], _, _, h => nomatch h
  | y :: r, k, z, h => by
    have h' : z ∈ (if k y > 0 then y :: takeF (sub1F k y) r else takeF k r) := h
    split at h'
    · rcases List.mem_cons.mp h' with rfl | h'
      · exact .head _
      · exact .tail _ (takeF_mem r _ z h')
    · exact .tail _ (takeF_mem r _ z h')
section
variable {X Y : List Str} (h : ∀ v, cn X v ≤ cn Y v)
include h
theorem fact1 : (unordL X Y).2 = [] ∧ (unordL X Y).1 = (moreL X Y.reverse).reverse := by
  have h1 := rem_all X.reverse Y [] (fun v => by rw [cn_reverse]; exact h v)
  unfold unordL
  rw [h1]
  refine ⟨rfl, ?_⟩
  show dropF (cn X.reverse) Y = _
  rw [dropF_congr Y (cn X.reverse) (cn X) (fun v => cn_reverse X v), drop_take Y (cn X) (cn_nonneg X) h, more_eq]
  refine congrArg List.reverse (takeF_congr _ _ _ fun v => .inl ?_)
  rw [cn_reverse]
theorem fact2 : (unordL Y X).2 = (moreL X Y).reverse ∧ (unordL Y X).1 = [] := by
  refine ⟨?_, ?_⟩
  · unfold unordL
    rw [rem_miss, List.nil_append, drop_take Y.reverse (cn X) (cn_nonneg X) (fun v => by rw [cn_reverse]; exact h v), List.reverse_reverse, more_eq]
    refine congrArg List.reverse (takeF_congr _ _ _ fun v => .inl ?_)
    rw [cn_reverse]
  · unfold unordL
    exact rem_none Y.reverse X [] (fun v => by rw [cn_reverse]; exact h v)
end
theorem cn_sub {a b : List Str} (h : a.Sublist b) (v : Str) : cn a v ≤ cn b v := by
  unfold cn
  exact Int.ofNat_le.mpr h.countP_le
end Mine
open PySem PySem.W PyProof.Rows PySem.Calls PySem.Spec
set_option Elab.async false
set_option maxRecDepth 100000
namespace Mine
noncomputable def isG (c : Nat) : Bool := [42, 97, 46, 63, 36, 92, 45, 47, 40, 41, 62].contains c
def GoodL (l : List Nat) : Prop := ∀ c ∈ l, isG c = true
noncomputable def lpL (S : Nat) : Nat → List Nat → List Nat
  | _, [] => []
  | met, c :: r => if c = 42 then (if 1 ≤ met then [41] else []) ++ ((if met + 1 = S then [46, 42] else [40, 63, 62, 46, 42, 63]) ++ lpL S (met + 1) r)
    else (if isMark c then [92, c] else [c]) ++ lpL S met r
noncomputable def patL (l : List Nat) : List Nat := (if starN l = 0 then [46, 42] else []) ++ lpL (starN l) 0 l
theorem t41 : (Str.ofString ")").cps.toList = [41] := by decide +kernel
theorem tds : (Str.ofString ".*").cps.toList = [46, 42] := by decide +kernel
theorem top6 : (Str.ofString "(?>.*?").cps.toList = [40, 63, 62, 46, 42, 63] := by decide +kernel
theorem tbs : (Str.ofString "\\").cps.toList = [92] := by decide +kernel
theorem lp_fold (S : Nat) : ∀ (l : List Nat) (met : Nat) (I : List Str), ((l.map fun (c : Nat) => ((c : Nat) : Int)).foldl (lpStep (S : Int)) (I, (met : Int))).1.flatMap (·.cps.toList) = I.flatMap (·.cps.toList) ++ lpL S met l
  | [], met, I => by simp [lpL]
  | c :: r, met, I => by
    rw [List.map_cons, List.foldl_cons]
    by_cases hc : c = 42
    · subst hc
      have hs : lpStep (S : Int) (I, (met : Int)) ((42 : Nat) : Int) = (I ++ (if 1 ≤ met then [Str.ofString ")"] else []) ++ [if met + 1 = S then Str.ofString ".*" else Str.ofString "(?>.*?"], ((met + 1 : Nat) : Int)) := by
        unfold lpStep
        rw [if_pos (show ((42 : Nat) : Int) = 42 from rfl)]
        have e1 : ((met : Int) + 1 > 1) = (1 ≤ met) := propext (by omega)
        have e2 : ((met : Int) + 1 = (S : Int)) = (met + 1 = S) := propext (by omega)
        simp only [e1, e2]
        rfl
      rw [hs, lp_fold S r (met + 1)]
      show _ = _ ++ (if (42 : Nat) = 42 then _ else _)
      rw [if_pos rfl, List.flatMap_append, List.flatMap_append]
      by_cases h1 : 1 ≤ met <;> by_cases h2 : met + 1 = S <;> simp [h1, h2, t41, tds, top6]
    · have hs : lpStep (S : Int) (I, (met : Int)) (c : Int) = (I ++ [if isMark c then Str.ofString "\\" ++ sg c else sg c], (met : Int)) := by
        unfold lpStep
        rw [if_neg (by omega)]
        rfl
      have hg : (sg (c : Int)).cps.toList = [c] := rfl
      rw [hs, lp_fold S r met]
      show _ = _ ++ (if c = 42 then _ else _)
      rw [if_neg hc, List.flatMap_append]
      by_cases h1 : isMark c = true
      · simp [h1, app_cps, tbs, hg]
      · simp [h1, hg]
theorem law_cps (x : Str) : (lawPat x).cps.toList = patL x.cps.toList := by
  unfold lawPat
  rw [join_cps, count_star]
  unfold lpFold patL
  have h := lp_fold (starN x.cps.toList) x.cps.toList 0 (if starN x.cps.toList = 0 then [Str.ofString ".*"] else [])
  have e1 : (((starN x.cps.toList : Nat) : Int) = 0) = (starN x.cps.toList = 0) := propext (by omega)
  simp only [e1]
  refine h.trans ?_
  by_cases hz : starN x.cps.toList = 0 <;> simp [hz, tds]
-- the counts
noncomputable def plainN (l : List Nat) : Nat := (l.filter fun c => !(c == 42) && !isMark c).length
theorem star_cons (c : Nat) (l : List Nat) : starN (c :: l) = (if c = 42 then 1 else 0) + starN l := by
  unfold starN; rw [List.filter_cons]; by_cases h : c = 42 <;> simp [h]; omega
theorem mark_cons (c : Nat) (l : List Nat) : markN (c :: l) = (if isMark c then 1 else 0) + markN l := by
  unfold markN; rw [List.filter_cons]; by_cases h : isMark c = true <;> simp [h]; omega
theorem plain_cons (c : Nat) (l : List Nat) : plainN (c :: l) = (if c = 42 then 0 else if isMark c then 0 else 1) + plainN l := by
  unfold plainN; rw [List.filter_cons]
  by_cases h : c = 42
  · simp [h]
  · by_cases h2 : isMark c = true <;> simp [h, h2]; omega
theorem mark_star : isMark 42 = false := by decide
theorem len_parts : ∀ l : List Nat, l.length = starN l + markN l + plainN l
  | [] => rfl
  | c :: r => by
    rw [List.length_cons, len_parts r, star_cons, mark_cons, plain_cons]
    by_cases h : c = 42
    · subst h; rw [mark_star]; simp; omega
    · by_cases h2 : isMark c = true <;> simp [h, h2] <;> omega
theorem star_app (a b : List Nat) : starN (a ++ b) = starN a + starN b := by unfold starN; simp
theorem mark_app (a b : List Nat) : markN (a ++ b) = markN a + markN b := by unfold markN; simp
theorem plain_app (a b : List Nat) : plainN (a ++ b) = plainN a + plainN b := by unfold plainN; simp
theorem lp_counts (S : Nat) : ∀ (l : List Nat) (met : Nat), met + starN l = S → starN (lpL S met l) = starN l ∧
    (markN (lpL S met l) : Int) = 2 * markN l + (if starN l = 0 then 0 else if met = 0 then 5 * (starN l : Int) - 4 else 5 * (starN l : Int) - 3) ∧
    (plainN (lpL S met l) : Int) = plainN l + (if starN l = 0 then 0 else (starN l : Int) - 1)
  | [], met, _ => ⟨rfl, rfl, rfl⟩
  | c :: r, met, h => by
    by_cases hc : c = 42
    · subst hc
      rw [star_cons, if_pos rfl] at h
      obtain ⟨i1, i2, i3⟩ := lp_counts S r (met + 1) (by omega)
      have e : lpL S met (42 :: r) = (if 1 ≤ met then [41] else []) ++ ((if met + 1 = S then [46, 42] else [40, 63, 62, 46, 42, 63]) ++ lpL S (met + 1) r) := by
        show (if (42 : Nat) = 42 then _ else _) = _
        rw [if_pos rfl]
      have a1 : starN ([46, 42] : List Nat) = 1 := by decide
      have a2 : starN ([40, 63, 62, 46, 42, 63] : List Nat) = 1 := by decide
      have a3 : starN ([41] : List Nat) = 0 := by decide
      have b1 : markN ([46, 42] : List Nat) = 1 := by decide
      have b2 : markN ([40, 63, 62, 46, 42, 63] : List Nat) = 4 := by decide
      have b3 : markN ([41] : List Nat) = 1 := by decide
      have c1 : plainN ([46, 42] : List Nat) = 0 := by decide
      have c2 : plainN ([40, 63, 62, 46, 42, 63] : List Nat) = 1 := by decide
      have c3 : plainN ([41] : List Nat) = 0 := by decide
      have z1 : starN ([] : List Nat) = 0 := rfl
      have z2 : markN ([] : List Nat) = 0 := rfl
      have z3 : plainN ([] : List Nat) = 0 := rfl
      rw [e, star_cons, mark_cons, plain_cons, star_app, star_app, mark_app, mark_app, plain_app, plain_app, i1, mark_star]
      rw [if_neg (by omega : ¬ met + 1 = 0)] at i2
      by_cases h1 : 1 ≤ met <;> by_cases h2 : met + 1 = S <;> by_cases h3 : starN r = 0 <;> first | (exfalso; omega) | skip
      all_goals (
        simp only [h1, h2, h3, if_true, if_false, a1, a2, a3, b1, b2, b3, c1, c2, c3, z1, z2, z3, Bool.false_eq_true] at i2 i3 ⊢
        refine ⟨?_, ?_, ?_⟩ <;> (repeat' split) <;> first | trivial | omega)
    · rw [star_cons, if_neg hc] at h
      obtain ⟨i1, i2, i3⟩ := lp_counts S r met (by omega)
      have e : lpL S met (c :: r) = (if isMark c then [92, c] else [c]) ++ lpL S met r := by
        show (if c = 42 then _ else _) = _
        rw [if_neg hc]
      have s92 : starN [92, c] = 0 := by rw [star_cons, star_cons, if_neg hc]; rfl
      have s1 : starN [c] = 0 := by rw [star_cons, if_neg hc]; rfl
      rw [e, star_cons, if_neg hc, star_app, mark_app, plain_app, mark_cons c r, plain_cons c r, if_neg hc, i1]
      simp only [Nat.zero_add]
      by_cases h1 : isMark c = true
      · have m92 : markN [92, c] = 2 := by rw [mark_cons, mark_cons, h1]; rfl
        have p92 : plainN [92, c] = 0 := by rw [plain_cons, plain_cons, if_neg hc, if_pos h1]; rfl
        simp only [h1, if_true, s92, m92, p92]
        refine ⟨by omega, ?_, ?_⟩ <;> omega
      · have m1 : markN [c] = 0 := by rw [mark_cons, if_neg h1]; rfl
        have p1 : plainN [c] = 1 := by rw [plain_cons, if_neg hc, if_neg h1]; rfl
        simp only [h1, if_false, s1, m1, p1, Bool.false_eq_true]
        refine ⟨by omega, ?_, ?_⟩ <;> omega
theorem lp_sub (S : Nat) : ∀ (l : List Nat) (met : Nat), l.Sublist (lpL S met l)
  | [], _ => .slnil
  | c :: r, met => by
    show List.Sublist _ (if c = 42 then _ else _)
    by_cases hc : c = 42
    · rw [if_pos hc]
      refine List.Sublist.trans ?_ (List.sublist_append_right _ _)
      have ih := lp_sub S r (met + 1)
      subst hc
      split
      · exact (List.Sublist.cons 46 (List.Sublist.cons_cons 42 ih))
      · exact (List.Sublist.cons 40 (.cons 63 (.cons 62 (.cons 46 (.cons_cons 42 (.cons 63 ih))))))
    · rw [if_neg hc]
      have ih := lp_sub S r met
      split
      · exact List.Sublist.cons 92 (List.Sublist.cons_cons c ih)
      · exact List.Sublist.cons_cons c ih
theorem pat_sub (l : List Nat) : l.Sublist (patL l) := (lp_sub _ l 0).trans (List.sublist_append_right _ _)
theorem lp_good (S : Nat) : ∀ (l : List Nat) (met : Nat), GoodL l → GoodL (lpL S met l)
  | [], _, _ => fun _ h => nomatch h
  | c :: r, met, hg => by
    have hr : GoodL r := fun z hz => hg z (.tail _ hz)
    show GoodL (if c = 42 then _ else _)
    have app : ∀ a b : List Nat, GoodL a → GoodL b → GoodL (a ++ b) := fun a b ha hb z hz => (List.mem_append.mp hz).elim (ha z) (hb z)
    split
    · refine app _ _ ?_ (app _ _ ?_ (lp_good S r _ hr))
      · split <;> intro z hz <;> simp at hz
        subst hz; decide
      · split <;> intro z hz <;> simp at hz
        · rcases hz with rfl | rfl <;> decide
        · rcases hz with rfl | rfl | rfl | rfl | rfl | rfl <;> decide
    · refine app _ _ ?_ (lp_good S r _ hr)
      have hc := hg c (.head _)
      split <;> intro z hz <;> simp at hz
      · rcases hz with rfl | rfl
        · decide
        · exact hc
      · subst hz; exact hc
theorem patL_good {l : List Nat} (hg : GoodL l) : GoodL (patL l) := by
  intro z hz
  unfold patL at hz
  rcases List.mem_append.mp hz with hz | hz
  · split at hz <;> simp at hz
    rcases hz with rfl | rfl <;> decide
  · exact lp_good _ l 0 hg z hz
theorem lp_len (S : Nat) : ∀ (l : List Nat) (met : Nat), (lpL S met l).length ≤ 8 * l.length
  | [], _ => Nat.le_refl _
  | c :: r, met => by
    show (if c = 42 then _ else _ : List Nat).length ≤ _
    have i1 := lp_len S r (met + 1)
    have i2 := lp_len S r met
    rw [List.length_cons]
    split
    · rw [List.length_append, List.length_append]
      split <;> split <;> simp <;> omega
    · rw [List.length_append]
      split <;> simp <;> omega
theorem patL_len (l : List Nat) : (patL l).length ≤ 8 * l.length + 2 := by
  unfold patL
  have := lp_len (starN l) l 0
  rw [List.length_append]
  split <;> simp <;> omega
theorem patL_counts (l : List Nat) : (starN (patL l) : Int) = (if 1 > (starN l : Int) then 1 else (starN l : Int)) ∧
    (markN (patL l) : Int) = 2 * markN l + 5 * (if 1 > (starN l : Int) then 1 else (starN l : Int)) - 4 ∧
    (plainN (patL l) : Int) = plainN l + ((if 1 > (starN l : Int) then 1 else (starN l : Int)) - 1) := by
  obtain ⟨i1, i2, i3⟩ := lp_counts (starN l) l 0 (by omega)
  unfold patL
  have a1 : starN ([46, 42] : List Nat) = 1 := by decide
  have b1 : markN ([46, 42] : List Nat) = 1 := by decide
  have c1 : plainN ([46, 42] : List Nat) = 0 := by decide
  have z1 : starN ([] : List Nat) = 0 := rfl
  have z2 : markN ([] : List Nat) = 0 := rfl
  have z3 : plainN ([] : List Nat) = 0 := rfl
  rw [star_app, mark_app, plain_app, i1]
  by_cases h : starN l = 0
  · rw [if_pos h] at i2 i3
    rw [if_pos h, if_pos (by omega), a1, b1, c1]
    refine ⟨by omega, by omega, by omega⟩
  · rw [if_neg h, if_pos rfl] at i2
    rw [if_neg h] at i3
    rw [if_neg h, if_neg (by omega), z1, z2, z3]
    refine ⟨by omega, by omega, by omega⟩
end Mine
open PySem PySem.W PyProof.Rows PySem.Calls PySem.Spec
set_option Elab.async false
set_option maxRecDepth 100000
namespace Mine
noncomputable def finL : List (List Nat) → List Nat
  | [] => []
  | [p] => [46, 42] ++ esc p
  | p :: q :: r => [40, 63, 62, 46, 42, 63] ++ (esc p ++ ([41] ++ finL (q :: r)))
noncomputable def starred (ps : List (List Nat)) : List Nat := ps.flatMap fun p => 42 :: p
theorem lpL_free (S : Nat) : ∀ (p rest : List Nat) (met : Nat), 42 ∉ p → GoodL p → lpL S met (p ++ rest) = esc p ++ lpL S met rest
  | [], _, _, _, _ => rfl
  | c :: r, rest, met, h, hg => by
    have hc : c ≠ 42 := fun e => h (e ▸ .head _)
    show (if c = 42 then _ else _) = _
    rw [if_neg hc]
    have e : (if isMark c then [92, c] else [c]) = esc1 c := by
      have hgc := hg c (.head _)
      unfold isG at hgc
      simp at hgc
      rcases hgc with rfl | rfl | rfl | rfl | rfl | rfl | rfl | rfl | rfl | rfl | rfl <;> first | exact absurd rfl hc | decide
    rw [e]
    show _ ++ lpL S met (r ++ rest) = _
    rw [lpL_free S r rest met (fun q => h (.tail _ q)) (fun z hz => hg z (.tail _ hz))]
    unfold esc
    rw [List.flatMap_cons, List.append_assoc]
theorem lpL_starred (S : Nat) : ∀ (ps : List (List Nat)) (met : Nat), ps ≠ [] → met + ps.length = S → (∀ p ∈ ps, 42 ∉ p ∧ GoodL p) → lpL S met (starred ps) = (if 1 ≤ met then [41] else []) ++ finL ps
  | [], _, h, _, _ => absurd rfl h
  | [p], met, _, hS, hp => by
    obtain ⟨h1, h2⟩ := hp p (.head _)
    simp only [List.length_cons, List.length_nil] at hS
    show lpL S met (42 :: (p ++ [])) = _
    show (if (42 : Nat) = 42 then _ else _) = _
    rw [if_pos rfl, if_pos (show met + 1 = S by omega), lpL_free S p [] _ h1 h2]
    show _ ++ ([46, 42] ++ (esc p ++ [])) = _
    rw [List.append_nil]
    rfl
  | p :: q :: r, met, _, hS, hp => by
    obtain ⟨h1, h2⟩ := hp p (.head _)
    simp only [List.length_cons] at hS
    show lpL S met (42 :: (p ++ starred (q :: r))) = _
    show (if (42 : Nat) = 42 then _ else _) = _
    rw [if_pos rfl, if_neg (show ¬ met + 1 = S by omega), lpL_free S p _ _ h1 h2, lpL_starred S (q :: r) (met + 1) (by simp) (by simp only [List.length_cons]; omega) (fun z hz => hp z (.tail _ hz)), if_pos (show 1 ≤ met + 1 by omega)]
    rfl
noncomputable def wrapAt (n : Nat) (i : Nat) (e : Str) : Str := if i = n then Str.ofString ".*" ++ e else if 1 ≤ i then wrapS e else e
theorem final_eq (es : List Str) (h : es ≠ []) : finalParts es = es.mapIdx (wrapAt (es.length - 1)) := by
  unfold finalParts wrapTo
  have hl : 0 < es.length := List.length_pos_iff.mpr h
  refine List.ext_getElem (by simp) fun i h1 h2 => ?_
  have hi : i < es.length := by simpa using h2
  rw [List.getElem_mapIdx]
  unfold wrapAt
  by_cases q : i = es.length - 1
  · subst q
    rw [List.getElem_set_self, if_pos rfl, List.getD_eq_getElem?_getD, List.getElem?_eq_getElem hi, Option.getD_some]
  · rw [List.getElem_set_ne (Ne.symm q), if_neg q, List.getElem_mapIdx]
    by_cases q1 : 1 ≤ i
    · rw [if_pos q1, if_pos ⟨q1, by omega⟩]
    · rw [if_neg q1, if_neg (fun z => q1 z.1)]
theorem fin_map : ∀ (ps : List (List Nat)) (k : Nat), ps ≠ [] → 1 ≤ k → ((ps.map fun p => (⟨(esc p).toArray⟩ : Str)).mapIdx fun i e => wrapAt (k + (ps.length - 1)) (i + k) e).flatMap (·.cps.toList) = finL ps
  | [], _, h, _ => absurd rfl h
  | [p], k, _, hk => by
    simp only [List.map_cons, List.map_nil, List.mapIdx_cons, List.mapIdx_nil, List.flatMap_cons, List.flatMap_nil, List.append_nil]
    unfold wrapAt
    rw [if_pos (by simp), app_cps, tds]
    rfl
  | p :: q :: r, k, _, hk => by
    have ih := fin_map (q :: r) (k + 1) (by simp) (by omega)
    rw [List.map_cons, List.mapIdx_cons, List.flatMap_cons]
    have e1 : (wrapAt (k + ((p :: q :: r).length - 1)) (0 + k) ⟨(esc p).toArray⟩).cps.toList = [40, 63, 62, 46, 42, 63] ++ (esc p ++ [41]) := by
      unfold wrapAt
      rw [if_neg (by simp only [List.length_cons]; omega), if_pos (by omega)]
      unfold wrapS
      rw [app_cps, app_cps, top6, t41, List.append_assoc]
    have e2 : (fun i e => wrapAt (k + ((p :: q :: r).length - 1)) (i + 1 + k) e) = (fun i e => wrapAt (k + 1 + ((q :: r).length - 1)) (i + (k + 1)) e) := by
      funext i e
      have a1 : k + ((p :: q :: r).length - 1) = k + 1 + ((q :: r).length - 1) := by simp only [List.length_cons]; omega
      have a2 : i + 1 + k = i + (k + 1) := by omega
      rw [a1, a2]
    rw [e1, e2, ih]
    simp [finL]
theorem fin_all (p0 : List Nat) (ps : List (List Nat)) : (finalParts ((p0 :: ps).map fun p => (⟨(esc p).toArray⟩ : Str))).flatMap (·.cps.toList) = if ps = [] then [46, 42] ++ esc p0 else esc p0 ++ finL ps := by
  rw [final_eq _ (by simp), List.map_cons, List.mapIdx_cons, List.flatMap_cons]
  cases ps with
  | nil =>
    simp only [List.map_nil, List.mapIdx_nil, List.flatMap_nil, List.append_nil, if_true]
    unfold wrapAt
    rw [if_pos (by simp), app_cps, tds]
  | cons q r =>
    rw [if_neg (by simp)]
    have h := fin_map (q :: r) 1 (by simp) (Nat.le_refl _)
    have e1 : (wrapAt (((⟨(esc p0).toArray⟩ : Str) :: (q :: r).map fun p => (⟨(esc p).toArray⟩ : Str)).length - 1) 0 ⟨(esc p0).toArray⟩) = ⟨(esc p0).toArray⟩ := by
      unfold wrapAt
      rw [if_neg (by simp), if_neg (by decide)]
    have e2 : (fun i e => wrapAt (((⟨(esc p0).toArray⟩ : Str) :: (q :: r).map fun p => (⟨(esc p).toArray⟩ : Str)).length - 1) (i + 1) e) = (fun i e => wrapAt (1 + ((q :: r).length - 1)) (i + 1) e) := by
      funext i e
      have a1 : ((⟨(esc p0).toArray⟩ : Str) :: (q :: r).map fun p => (⟨(esc p).toArray⟩ : Str)).length - 1 = 1 + ((q :: r).length - 1) := by simp; omega
      rw [a1]
    rw [e1, e2, h]
-- x is its parts with stars between
theorem glue_cps : ∀ (ps : List Str) (p0 : Str), (Str.join ⟨#[42]⟩ (p0 :: ps)).cps.toList = p0.cps.toList ++ starred (ps.map (·.cps.toList))
  | [], p0 => by
    show p0.cps.toList = _
    simp [starred]
  | q :: r, p0 => by
    show (p0 ++ (⟨#[42]⟩ : Str) ++ Str.join ⟨#[42]⟩ (q :: r)).cps.toList = _
    rw [app_cps, app_cps, glue_cps r q]
    simp [starred]
theorem star_starred : ∀ (ps : List (List Nat)), (∀ p ∈ ps, 42 ∉ p) → starN (starred ps) = ps.length
  | [], _ => rfl
  | p :: r, h => by
    have hp : starN p = 0 := by
      unfold starN
      rw [List.length_eq_zero_iff, List.filter_eq_nil_iff]
      intro c hc e
      exact h p (.head _) ((beq_iff_eq.mp e) ▸ hc)
    have e : starred (p :: r) = 42 :: (p ++ starred r) := by simp [starred]
    rw [e, star_cons, star_app, hp, star_starred r (fun z hz => h z (.tail _ hz)), if_pos rfl, List.length_cons]
    omega
theorem trans_cps {x : Str} (hg : GoodL x.cps.toList) : (Txt.join (Str.ofString "") (finalParts ((Txt.split x (Str.ofString "*")).map escS))).cps.toList = patL x.cps.toList := by
  have es : Str.ofString "*" = ⟨#[42]⟩ := by decide +kernel
  rw [es]
  have hfree := StrLaws.split_free x 42
  have hjoin := StrLaws.join_split x ⟨#[42]⟩
  have hpos := PyProof.Rows.split_pos x ⟨#[42]⟩
  generalize Txt.split x ⟨#[42]⟩ = ps at *
  cases ps with
  | nil => simp at hpos
  | cons p0 r =>
    have hx : x.cps.toList = p0.cps.toList ++ starred (r.map (·.cps.toList)) := by rw [← glue_cps, hjoin]
    rw [join_cps]
    have em : (p0 :: r).map escS = ((p0.cps.toList :: r.map (·.cps.toList)).map fun p => (⟨(esc p).toArray⟩ : Str)) := by
      simp [escS]
    rw [em, fin_all]
    have hr : ∀ p ∈ r.map (·.cps.toList), 42 ∉ p := fun p hp => by
      obtain ⟨q, hq, rfl⟩ := List.mem_map.mp hp
      exact hfree q (.tail _ hq)
    have hgr : ∀ p ∈ r.map (·.cps.toList), GoodL p := fun p hp c hc => hg c (by
      rw [hx]
      refine List.mem_append_right _ ?_
      unfold starred
      exact List.mem_flatMap.mpr ⟨p, hp, .tail _ hc⟩)
    have hg0 : GoodL p0.cps.toList := fun c hc => hg c (by rw [hx]; exact List.mem_append_left _ hc)
    have h0 := hfree p0 (.head _)
    have hs0 : starN p0.cps.toList = 0 := by
      unfold starN
      rw [List.length_eq_zero_iff, List.filter_eq_nil_iff]
      intro c hc e
      exact h0 ((beq_iff_eq.mp e) ▸ hc)
    have hs : starN x.cps.toList = (r.map (·.cps.toList)).length := by rw [hx, star_app, hs0, star_starred _ hr]; omega
    unfold patL
    rw [hs, hx, lpL_free _ _ _ _ h0 hg0]
    by_cases hn : r.map (·.cps.toList) = []
    · rw [if_pos hn, hn]
      show _ = [46, 42] ++ (esc p0.cps.toList ++ [])
      rw [List.append_nil]
    · rw [if_neg hn, if_neg (fun q => hn (List.length_eq_zero_iff.mp q)), lpL_starred _ _ 0 hn (by omega) (fun p hp => ⟨hr p hp, hgr p hp⟩)]
      rfl
end Mine
open PySem PySem.W PyProof.Rows PySem.Calls PySem.Spec
set_option Elab.async false
set_option maxRecDepth 100000
namespace Mine
def Good (x : Str) : Prop := GoodL x.cps.toList
theorem path_good {x : Str} (h : PathOk x) : Good x := by
  intro c hc
  have h1 := h.2.2 c hc
  unfold isP at h1
  simp at h1
  rcases h1 with rfl | rfl | rfl | rfl | rfl | rfl | rfl | rfl <;> decide
theorem good_lt {l : List Nat} (h : GoodL l) : ∀ c ∈ l, c < 128 := by
  intro c hc
  have h1 := h c hc
  unfold isG at h1
  simp at h1
  rcases h1 with rfl | rfl | rfl | rfl | rfl | rfl | rfl | rfl | rfl | rfl | rfl <;> decide
theorem str_cps {x y : Str} (h : x.cps.toList = y.cps.toList) : x = y := Str.ext' (Array.toList_inj.mp h)
theorem len_cps (x : Str) : x.length = x.cps.toList.length := by rw [Array.length_toList]; rfl
theorem good_pat {x : Str} (hG : Good x) : Good (lawPat x) := by
  unfold Good
  rw [law_cps]
  exact patL_good hG
theorem pat_len (x : Str) : (lawPat x).length ≤ 8 * x.length + 2 := by
  rw [len_cps, len_cps, law_cps]
  exact patL_len _
theorem starred_in {x p : Str} (hp : p ∈ Txt.split x (Str.ofString "*")) : ∀ c ∈ p.cps.toList, c ∈ x.cps.toList := by
  have es : Str.ofString "*" = ⟨#[42]⟩ := by decide +kernel
  rw [es] at hp
  have hjoin := StrLaws.join_split x ⟨#[42]⟩
  generalize Txt.split x ⟨#[42]⟩ = ps at *
  cases ps with
  | nil => cases hp
  | cons p0 r =>
    have hx : x.cps.toList = p0.cps.toList ++ starred (r.map (·.cps.toList)) := by rw [← glue_cps, hjoin]
    intro c hc
    rw [hx]
    rcases List.mem_cons.mp hp with rfl | hp
    · exact List.mem_append_left _ hc
    · refine List.mem_append_right _ ?_
      unfold starred
      exact List.mem_flatMap.mpr ⟨p.cps.toList, List.mem_map.mpr ⟨p, hp, rfl⟩, .tail _ hc⟩
theorem split_le {x : Str} (hl : x.length ≤ 1000) : (Txt.split x (Str.ofString "*")).length ≤ 1001 := by
  have es : Str.ofString "*" = ⟨#[42]⟩ := by decide +kernel
  rw [es]
  have hfree := StrLaws.split_free x 42
  have hjoin := StrLaws.join_split x ⟨#[42]⟩
  generalize Txt.split x ⟨#[42]⟩ = ps at *
  cases ps with
  | nil => simp
  | cons p0 r =>
    have hx : x.cps.toList = p0.cps.toList ++ starred (r.map (·.cps.toList)) := by rw [← glue_cps, hjoin]
    have h1 := star_starred (r.map (·.cps.toList)) (fun p hp => by
      obtain ⟨q, hq, rfl⟩ := List.mem_map.mp hp
      exact hfree q (.tail _ hq))
    have h2 : starN (starred (r.map (·.cps.toList))) ≤ (starred (r.map (·.cps.toList))).length := by unfold starN; exact List.length_filter_le _ _
    have h3 := congrArg List.length hx
    rw [List.length_append, ← len_cps] at h3
    rw [List.length_map] at h1
    rw [List.length_cons]
    omega
theorem pat_trans (w : World) (x : Str) (t : Tok) (hG : Good x) (hl : x.length ≤ 1000) : ClaimV w 2 33 [.str x t] (fun t => .str (lawPat x) t) := by
  have e : lawPat x = Txt.join (Str.ofString "") (finalParts ((Txt.split x (Str.ofString "*")).map escS)) := str_cps (by rw [law_cps, trans_cps hG])
  rw [e]
  exact translate_spec w x t hl (fun p hp c hc => good_lt hG c (starred_in hp c hc)) (split_le hl) (PyProof.Rows.split_pos x _)
theorem signs_map (x : Str) : signs x = x.cps.toList.map (fun c => (⟨#[c]⟩ : Str)) := by
  unfold signs
  first | rfl | simp
theorem signs_ok {x : Str} (hG : Good x) : ∀ z ∈ signs x, PyData.strOk z = true := by
  intro z hz
  rw [signs_map] at hz
  obtain ⟨c, hc, rfl⟩ := List.mem_map.mp hz
  have := good_lt hG c hc
  unfold PyData.strOk
  simp
  omega
theorem signs_le (x : Str) (v : Str) : cn (signs x) v ≤ cn (signs (lawPat x)) v := by
  rw [signs_map, signs_map, law_cps]
  exact cn_sub ((pat_sub _).map _) v
theorem step_good (w : World) (x : Str) (t u : Tok) (hG : Good x) (hl : x.length ≤ 1000) (hy : (lawPat x).length ≤ 4000) : ClaimT w 4 87 x (lawPat x) t u := by
  obtain ⟨a1, a2⟩ := fact1 (signs_le x)
  obtain ⟨b1, b2⟩ := fact2 (signs_le x)
  have ok := signs_ok (good_pat hG)
  refine step_spec w x t u hl hy a1 a2 b1 b2 (fun z hz => ok z ?_) (fun z hz => ok z ?_)
  · have h1 := List.mem_reverse.mp hz
    rw [more_eq] at h1
    exact List.mem_reverse.mp (takeF_mem _ _ _ h1)
  · have h1 := List.mem_reverse.mp hz
    rw [more_eq] at h1
    exact takeF_mem _ _ _ h1
theorem len_all (x : Str) : (x.length : Int) = starN x.cps.toList + markN x.cps.toList + plainN x.cps.toList := by
  have := len_parts x.cps.toList
  rw [len_cps]; omega
theorem counts_1 (w : World) (x : Str) (t u v : Tok) (hl : x.length ≤ 4) (hy : (lawPat x).length ≤ 4096) : ClaimV w 2 80 [.str x t, .str (lawPat x) u, .int 1 v] (fun _ => .bool true) := by
  obtain ⟨c1, c2, c3⟩ := patL_counts x.cps.toList
  have l1 := len_all x
  have l2 := len_all (lawPat x)
  rw [← law_cps] at c1 c2 c3
  generalize hS : (if 1 > (starN x.cps.toList : Int) then 1 else (starN x.cps.toList : Int)) = S at c1 c2 c3
  refine counts_spec w x (lawPat x) t u v 1 2 (.inl rfl) rfl (by omega) hy S hS.symm c1 _ rfl ?_ ?_
  · clear c1 c3 l1 l2 hS hl hy
    omega
  · clear hS hl hy
    omega
theorem same_S {S n : Int} (h : n = S) (h1 : 1 ≤ S) : (if 1 > n then 1 else n) = S := by
  rw [if_neg (by omega)]; exact h
theorem one_le (n : Int) : 1 ≤ (if 1 > n then 1 else n) := by split <;> omega
theorem counts_2 (w : World) (x : Str) (t u v : Tok) (hl : x.length ≤ 4) (hy : (lawPat (lawPat x)).length ≤ 4096) : ClaimV w 2 80 [.str x t, .str (lawPat (lawPat x)) u, .int 2 v] (fun _ => .bool true) := by
  obtain ⟨c1, c2, c3⟩ := patL_counts x.cps.toList
  obtain ⟨d1, d2, d3⟩ := patL_counts (lawPat x).cps.toList
  have l1 := len_all x
  have l2 := len_all (lawPat (lawPat x))
  rw [← law_cps] at c1 c2 c3 d1 d2 d3
  have hp := one_le (starN x.cps.toList : Int)
  generalize hS : (if 1 > (starN x.cps.toList : Int) then 1 else (starN x.cps.toList : Int)) = S at c1 c2 c3 hp
  rw [same_S c1 hp] at d1 d2 d3
  refine counts_spec w x _ t u v 2 4 (.inr (.inl rfl)) rfl (by omega) hy S hS.symm d1 _ rfl ?_ ?_
  · clear c1 c3 d1 d3 l1 l2 hS hp hl hy
    omega
  · clear hS hp hl hy
    omega
theorem counts_3 (w : World) (x : Str) (t u v : Tok) (hl : x.length ≤ 4) (hy : (lawPat (lawPat (lawPat x))).length ≤ 4096) : ClaimV w 2 80 [.str x t, .str (lawPat (lawPat (lawPat x))) u, .int 3 v] (fun _ => .bool true) := by
  obtain ⟨c1, c2, c3⟩ := patL_counts x.cps.toList
  obtain ⟨d1, d2, d3⟩ := patL_counts (lawPat x).cps.toList
  obtain ⟨e1, e2, e3⟩ := patL_counts (lawPat (lawPat x)).cps.toList
  have l1 := len_all x
  have l2 := len_all (lawPat (lawPat (lawPat x)))
  rw [← law_cps] at c1 c2 c3 d1 d2 d3 e1 e2 e3
  have hp := one_le (starN x.cps.toList : Int)
  generalize hS : (if 1 > (starN x.cps.toList : Int) then 1 else (starN x.cps.toList : Int)) = S at c1 c2 c3 hp
  rw [same_S c1 hp] at d1 d2 d3
  rw [same_S d1 hp] at e1 e2 e3
  refine counts_spec w x _ t u v 3 8 (.inr (.inr rfl)) rfl (by omega) hy S hS.symm e1 _ rfl ?_ ?_
  · clear c1 c3 d1 d3 e1 e3 l1 l2 hS hp hl hy
    omega
  · clear hS hp hl hy
    omega
end Mine
open PySem PySem.W PyProof.Rows PySem.Calls PySem.Spec PyProof.V
set_option Elab.async false
set_option maxRecDepth 100000
set_option maxHeartbeats 1000000
namespace Mine
/-- the k-th text of the law's row -/
noncomputable def rowK (x : Str) : Nat → Str
  | 0 => x
  | k + 1 => lawPat (rowK x k)
/-- the law's row behind k turns -/
noncomputable def rowL (x : Str) (k : Nat) : List Str := (List.range (k + 1)).map (rowK x)
theorem rowL_length (x : Str) (k : Nat) : (rowL x k).length = k + 1 := by unfold rowL; rw [List.length_map, List.length_range]
theorem rowL_succ (x : Str) (k : Nat) : rowL x (k + 1) = rowL x k ++ [lawPat (rowK x k)] := by
  unfold rowL
  rw [List.range_succ, List.map_append]
  rfl
theorem rowL_get? {x : Str} {k i : Nat} (h : i ≤ k) : (rowL x k)[i]? = some (rowK x i) := by
  unfold rowL
  rw [List.getElem?_map, List.getElem?_range (Nat.lt_succ_of_le h)]
  rfl
theorem rowL_last (x : Str) (k : Nat) : (rowL x k)[(rowL x k).length - 1]? = some (rowK x k) := by
  rw [rowL_length]
  exact rowL_get? (Nat.le_refl k)
theorem rowL_get {x : Str} {k i : Nat} (h : i ≤ k) : (rowL x k).getD i Str.empty = rowK x i := by
  rw [List.getD_eq_getElem?_getD, rowL_get? h]
  rfl
theorem rowK_good {x : Str} (h : PathOk x) : ∀ k, Good (rowK x k)
  | 0 => path_good h
  | k + 1 => good_pat (rowK_good h k)
theorem rowK_len {x : Str} (h : x.length ≤ 4) : ∀ k, k ≤ 3 → (rowK x k).length ≤ 2194 ∧ (k ≤ 2 → (rowK x k).length ≤ 274) ∧ (k ≤ 1 → (rowK x k).length ≤ 34)
  | 0, _ => ⟨Nat.le_trans h (by decide), fun _ => Nat.le_trans h (by decide), fun _ => Nat.le_trans h (by decide)⟩
  | 1, _ => by
    have q : (rowK x 1).length ≤ 34 := Nat.le_trans (pat_len x) (by omega)
    exact ⟨Nat.le_trans q (by decide), fun _ => Nat.le_trans q (by decide), fun _ => q⟩
  | 2, _ => by
    have p := (rowK_len h 1 (by decide)).2.2 (by decide)
    have q : (rowK x 2).length ≤ 274 := Nat.le_trans (pat_len (rowK x 1)) (by omega)
    exact ⟨Nat.le_trans q (by decide), fun _ => q, fun z => absurd z (by decide)⟩
  | 3, _ => by
    have p := (rowK_len h 2 (by decide)).2.1 (by decide)
    have q : (rowK x 3).length ≤ 2194 := Nat.le_trans (pat_len (rowK x 2)) (by omega)
    exact ⟨q, fun z => absurd z (by decide), fun z => absurd z (by decide)⟩
  | k + 4, z => absurd z (by omega)
theorem rowK_le {x : Str} (h : x.length ≤ 4) {k : Nat} (hk : k < 3) : (rowK x k).length ≤ 1000 ∧ (lawPat (rowK x k)).length ≤ 4000 :=
  ⟨Nat.le_trans ((rowK_len h k (Nat.le_of_lt hk)).2.1 (Nat.le_of_lt_succ hk)) (by decide), Nat.le_trans (rowK_len h (k + 1) hk).1 (by decide)⟩
theorem counts_any (w : World) {x : Str} (t u v : Tok) (hl : x.length ≤ 4) : ∀ {i : Nat}, i < 3 → ClaimV w 2 80 [.str x t, .str (rowK x (i + 1)) u, .int (1 + (i : Int)) v] (fun _ => .bool true)
  | 0, hi => counts_1 w x t u v hl (Nat.le_trans (rowK_le hl hi).2 (by decide))
  | 1, hi => counts_2 w x t u v hl (Nat.le_trans (rowK_le hl hi).2 (by decide))
  | 2, hi => counts_3 w x t u v hl (Nat.le_trans (rowK_le hl hi).2 (by decide))
  | i + 3, hi => absurd hi (by omega)
section
variable {prog : Program} {w : World} {A : Around} {E : Value → Shared → Prop} {s : Shared} {env : Env} {h₀ : Heap} {x : Str} {body : List Stmt} {Q : Flow → Shared → Prop}
/-- a loop over a range, by what holds ahead of each turn -/
theorem rest_ind {I : Addr} {a : Int} {n : Nat} (Inv : Nat → (Str → Option Value) → List (Addr × Obj) → Prop)
    (turn : ∀ i m news, i < n → Inv i m news → ∀ t h tk, Fr h₀ env.locals h (fun y => if y = x then some (.int (a + (i : Int)) t) else m y) →
      News h₀ env.locals h ((I, itR (a + ((i + 1 : Nat) : Int)) ((n : Int) - ((i + 1 : Nat) : Int))) :: news) →
      wpAny (model prog w) A (execs body env) (UnrPost h₀ env.locals { s with heap := h, toks := tk } I (itR (a + ((i + 1 : Nat) : Int)) ((n : Int) - ((i + 1 : Nat) : Int))) (Inv (i + 1)) Q) E { s with heap := h, toks := tk })
    (fin : ∀ m news, Inv n m news → ∀ h tk, Fr h₀ env.locals h m → News h₀ env.locals h news → Q .next { s with heap := h, toks := tk }) :
    ∀ k i m news, i + k = n → Inv i m news → RangeRest prog w A E h₀ env x body Q s I a n k i m news
  | 0, i, m, news, e, hI => fin m news (by rw [← e]; exact hI)
  | k + 1, i, m, news, e, hI => fun t h tk F N => by
    refine wpAny_mono (turn i m news (by omega) hI t h tk F N) (fun f s₂ p => ?_) fun _ _ e => e
    cases f with
    | ret v => exact p
    | brk => exact p
    | next =>
      obtain ⟨h', tk', m', news', e', F', N', off, q⟩ := p
      exact ⟨h', tk', m', news', e', F', N', off, rest_ind Inv turn fin k (i + 1) m' news' (by omega) q⟩
    | cont =>
      obtain ⟨h', tk', m', news', e', F', N', off, q⟩ := p
      exact ⟨h', tk', m', news', e', F', N', off, rest_ind Inv turn fin k (i + 1) m' news' (by omega) q⟩
end
end Mine
open PySem PySem.W PyProof.Rows PySem.Calls PySem.Spec PyProof.V
set_option Elab.async false
set_option maxRecDepth 100000
set_option maxHeartbeats 1000000
namespace Mine
section
variable {prog : Program} {w : World} {A : Around} {E : Value → Shared → Prop} {s : Shared} {env : Env} {h₀ : Heap} {x v : Str} {body : List Stmt} {Q : Flow → Shared → Prop} {I : Addr} {a : Int} {n : Nat} {z : Str} {m0 : Str → Option Value} {news0 : List (Addr × Obj)}
theorem turns_join {M : Model} {e : Sem Value} {Q : Value → Shared → Prop} (h : ∀ (n : Nat) t tk, n = 2 ∨ n = 3 → Q (.int (n : Int) t) { s with toks := tk })
    (g : wpAny M A e (fun v s' => ∃ (n : Nat) (t : Tok) (tk : Nat), (n = 2 ∨ n = 3) ∧ v = .int (n : Int) t ∧ s' = { s with toks := tk }) E s) : wpAny M A e Q E s :=
  wpAny_mono g (fun _ _ ⟨n, t, tk, hn, e1, e2⟩ => by rw [e1, e2]; exact h n t tk hn) fun _ _ e => e
/-- what holds ahead of a turn of reduce's loop: the row so far -/
def RedInv (z x v : Str) (I : Addr) (m0 : Str → Option Value) (news0 : List (Addr × Obj)) (i : Nat) (m' : Str → Option Value) (news' : List (Addr × Obj)) : Prop :=
  ∃ (D : Addr) (vs : List Value) (k : Nat) (e : Option Value), (∀ y, m' y = if y = v then some (.ref D) else if y = x then e else m0 y) ∧ (∀ p ∈ (D, listOf vs.toArray k) :: news0, p ∈ news') ∧ D ≠ I ∧ StrsAre vs (rowL z i)
theorem red_loop {l0 : Addr} {vs0 : List Value} {k0 : Nat} (hvx : v ≠ x) (hl : (l0, listOf vs0.toArray k0) ∈ news0) (hS : StrsAre vs0 (rowL z 0)) (hv : m0 v = some (.ref l0)) (hI : ∀ p ∈ news0, p.1 < I)
    (turn : ∀ i D vs k t h tk, i < n → StrsAre vs (rowL z i) → D ≠ I → Fr h₀ env.locals h (fun y => if y = x then some (.int (a + (i : Int)) t) else if y = v then some (.ref D) else m0 y) →
      News h₀ env.locals h ((I, itR (a + ((i + 1 : Nat) : Int)) ((n : Int) - ((i + 1 : Nat) : Int))) :: (D, listOf vs.toArray k) :: news0) →
      wpAny (model prog w) A (execs body env) (UnrPost h₀ env.locals { s with heap := h, toks := tk } I (itR (a + ((i + 1 : Nat) : Int)) ((n : Int) - ((i + 1 : Nat) : Int))) (RedInv z x v I m0 news0 (i + 1)) Q) E { s with heap := h, toks := tk })
    (fin : ∀ D vs k e h tk, StrsAre vs (rowL z n) → Fr h₀ env.locals h (fun y => if y = v then some (.ref D) else if y = x then e else m0 y) → News h₀ env.locals h ((D, listOf vs.toArray k) :: news0) → Q .next { s with heap := h, toks := tk }) :
    RangeRest prog w A E h₀ env x body Q s I a n n 0 m0 news0 := by
  refine rest_ind (RedInv z x v I m0 news0) ?_ ?_ n 0 m0 news0 (Nat.zero_add n) ⟨l0, vs0, k0, m0 x, fun y => ?_, fun p hp => ?_, Nat.ne_of_lt (hI _ hl), hS⟩
  · rintro i m news hi ⟨D, vs, k, e, hm, hn, hD, hS⟩ t h tk F N
    refine turn i D vs k t h tk hi hS hD ?_ ?_
    · rw [show m = fun y => if y = v then some (.ref D) else if y = x then e else m0 y from funext hm] at F
      refine cast (congrArg (Fr h₀ env.locals h) (funext fun y => ?_)) F
      by_cases h1 : y = x
      · rw [if_pos h1, if_pos h1]
      · rw [if_neg h1, if_neg h1]; dsimp only; rw [if_neg h1]
    · intro p hp
      rcases List.mem_cons.mp hp with rfl | hp
      · exact N _ (.head _)
      · exact N _ (.tail _ (hn _ hp))
  · rintro m news ⟨D, vs, k, e, hm, hn, hD, hS⟩ h tk F N
    refine fin D vs k e h tk hS ?_ fun p hp => N _ (hn _ hp)
    rw [show m = fun y => if y = v then some (.ref D) else if y = x then e else m0 y from funext hm] at F
    exact F
  · by_cases h1 : y = v
    · rw [if_pos h1, h1, hv]
    · rw [if_neg h1]
      by_cases h2 : y = x
      · rw [if_pos h2, h2]
      · rw [if_neg h2]
  · rcases List.mem_cons.mp hp with rfl | hp
    · exact hl
    · exact hp
theorem red_end {s₁ : Shared} {it : Obj} {L D' : Addr} {d1 d3 : Addr × Obj} {vs' : List Value} {k' i tk : Nat} {e d : Option Value} {h' : Heap} (F : Fr h₀ L h' (fun y => if y = v then some (.ref D') else if y = x then e else if y = v then d else m0 y))
    (N : News h₀ L h' ((D', listOf vs'.toArray k') :: d1 :: (I, it) :: d3 :: news0)) (h1 : D' ≠ I) (h2 : ∀ p ∈ news0, p.1 < I) (hS : StrsAre vs' (rowL z (i + 1))) : UnrEnd h₀ L s₁ I it (RedInv z x v I m0 news0 (i + 1)) { s₁ with heap := h', toks := tk } := by
  refine UnrEnd.intro F N ((D', listOf vs'.toArray k') :: news0) (fun p hp => ?_) (fun p hp => ?_) ⟨D', vs', k', e, fun y => ?_, fun p hp => hp, h1, hS⟩
  · rcases List.mem_cons.mp hp with rfl | hp
    · exact .tail _ (.tail _ (.head _))
    · rcases List.mem_cons.mp hp with rfl | hp
      · exact .head _
      · exact .tail _ (.tail _ (.tail _ (.tail _ hp)))
  · rcases List.mem_cons.mp hp with rfl | hp
    · exact h1
    · exact Nat.ne_of_lt (h2 _ hp)
  · by_cases q : y = v
    · dsimp only; rw [if_pos q, if_pos q]
    · dsimp only; rw [if_neg q, if_neg q, if_neg q]
/-- what holds ahead of a turn of the last loop -/
def ChkInv (x : Str) (m0 : Str → Option Value) (news0 : List (Addr × Obj)) (_ : Nat) (m' : Str → Option Value) (news' : List (Addr × Obj)) : Prop :=
  (∃ e : Option Value, ∀ y, m' y = if y = x then e else m0 y) ∧ ∀ p ∈ news0, p ∈ news'
theorem chk_loop
    (turn : ∀ i t h tk, i < n → Fr h₀ env.locals h (fun y => if y = x then some (.int (a + (i : Int)) t) else m0 y) →
      News h₀ env.locals h ((I, itR (a + ((i + 1 : Nat) : Int)) ((n : Int) - ((i + 1 : Nat) : Int))) :: news0) →
      wpAny (model prog w) A (execs body env) (UnrPost h₀ env.locals { s with heap := h, toks := tk } I (itR (a + ((i + 1 : Nat) : Int)) ((n : Int) - ((i + 1 : Nat) : Int))) (ChkInv x m0 news0 (i + 1)) Q) E { s with heap := h, toks := tk })
    (fin : ∀ e h tk, Fr h₀ env.locals h (fun y => if y = x then e else m0 y) → News h₀ env.locals h news0 → Q .next { s with heap := h, toks := tk }) :
    RangeRest prog w A E h₀ env x body Q s I a n n 0 m0 news0 := by
  refine rest_ind (ChkInv x m0 news0) ?_ ?_ n 0 m0 news0 (Nat.zero_add n) ⟨⟨m0 x, fun y => ?_⟩, fun p hp => hp⟩
  · rintro i m news hi ⟨⟨e, hm⟩, hn⟩ t h tk F N
    refine turn i t h tk hi ?_ ?_
    · rw [show m = fun y => if y = x then e else m0 y from funext hm] at F
      refine cast (congrArg (Fr h₀ env.locals h) (funext fun y => ?_)) F
      by_cases h1 : y = x
      · rw [if_pos h1, if_pos h1]
      · rw [if_neg h1, if_neg h1]; exact if_neg h1
    · intro p hp
      rcases List.mem_cons.mp hp with rfl | hp
      · exact N _ (.head _)
      · exact N _ (.tail _ (hn _ hp))
  · rintro m news ⟨⟨e, hm⟩, hn⟩ h tk F N
    refine fin e h tk ?_ fun p hp => N _ (hn _ hp)
    rw [show m = fun y => if y = x then e else m0 y from funext hm] at F
    exact F
  · by_cases h1 : y = x
    · rw [if_pos h1, h1]
    · rw [if_neg h1]
theorem chk_end {s₁ : Shared} {it : Obj} {L : Addr} {i tk : Nat} {e : Option Value} {h' : Heap} {all : List (Addr × Obj)} (F : Fr h₀ L h' (fun y => if y = x then e else m0 y)) (N : News h₀ L h' all) (sub : ∀ p ∈ (I, it) :: news0, p ∈ all) (h2 : ∀ p ∈ news0, p.1 < I) :
    UnrEnd h₀ L s₁ I it (ChkInv x m0 news0 i) { s₁ with heap := h', toks := tk } :=
  UnrEnd.intro F N news0 sub (fun p hp => Nat.ne_of_lt (h2 p hp)) ⟨⟨e, fun _ => rfl⟩, fun _ h => h⟩
theorem strs_snoc1 {vs : List Value} {i : Nat} {t : Tok} (h : StrsAre vs (rowL z i)) : StrsAre (vs ++ [.str (lawPat (rowK z i)) t]) (rowL z (i + 1)) := by
  rw [rowL_succ]
  exact h.append' (.cons _ t .nil)
theorem row_sz {vs : List Value} {i : Nat} {y : Value} (h : StrsAre vs (rowL z i)) (hi : i < 3) : vs.length + [y].length ≤ 100 := by
  rw [h.length, rowL_length]
  exact Nat.le_trans (Nat.add_le_add_right (Nat.add_le_add_right (Nat.le_of_lt hi) 1) 1) (by decide)
theorem le_three (hn : n = 2 ∨ n = 3) : n ≤ 3 := by rcases hn with rfl | rfl <;> decide
theorem range_small (hn : n = 2 ∨ n = 3) : Builtin.Range.small 0 (n : Int) 1 = true ∧ Builtin.Range.rangeSize 0 (n : Int) 1 = (n : Int) := by rcases hn with rfl | rfl <;> decide
theorem range_small1 (hn : n = 2 ∨ n = 3) : Builtin.Range.small 1 ((n : Int) + 1) 1 = true ∧ Builtin.Range.rangeSize 1 ((n : Int) + 1) 1 = (n : Int) := by rcases hn with rfl | rfl <;> decide
theorem len_row {L D : Addr} {vs : List Value} {k : Nat} {news : List (Addr × Obj)} {Q : Value → Shared → Prop} (N : News h₀ L s.heap news) (hm : (D, listOf vs.toArray k) ∈ news) (hl : vs.length = n + 1) (hn : n ≤ 3)
    (h : Q (.int ((n + 1 : Nat) : Int) (s.toks + 1)) { s with toks := s.toks + 1 + 1 }) : wpAny (model prog w) A (call (.builtin "len") [.ref D]) Q E s := by
  have e : vs.toArray.size = n + 1 := by rw [List.size_toArray]; exact hl
  refine len_list (items := vs.toArray) ⟨_, (N _ hm).1, rfl, k, rfl⟩ (by rw [e]; omega) ?_
  rw [e]
  exact h
theorem before {i : Nat} (hi : i < 3) : 0 ≤ 1 + (i : Int) - 1 ∧ 1 + (i : Int) - 1 < 2 ^ 63 ∧ (1 + (i : Int) - 1).toNat = i := by
  have e : 1 + (i : Int) - 1 = i := by omega
  rw [e]
  exact ⟨by omega, by omega, Int.toNat_natCast i⟩
theorem after {i : Nat} (hi : i < 3) : 0 ≤ 1 + (i : Int) ∧ 1 + (i : Int) < 2 ^ 63 ∧ (1 + (i : Int)).toNat = i + 1 := ⟨by omega, by omega, by omega⟩
theorem item_strs {value slice : PySem.Expr} {L D : Addr} {vs : List Value} {ts : List Str} {k : Nat} {j : Int} {u : Tok} {y : Str} {news : List (Addr × Obj)} {Q : Value → Shared → Prop} (N : News h₀ L s.heap news) (hm : (D, listOf vs.toArray k) ∈ news) (hi : StrsAre vs ts) {q : Nat} (hj : 0 ≤ j ∧ j < 2 ^ 63 ∧ j.toNat = q) (hx : ts[q]? = some y)
    (h : ∀ t, Q (.str y t) s) (hs : subscripted slice false (.ref D) (.int j u) = operate [.ref D, .int j u] (getItem (.ref D) (.int j u)) := by with_unfolding_all rfl) :
    wpAny (model prog w) A (subscriptTail value slice (.ref D) (.int j u)) Q E s := by
  have z := N _ hm
  obtain ⟨t', ht'⟩ := hi.get _ _ hx
  have hL : s.heap.IsList D vs.toArray := ⟨_, z.1, rfl, k, rfl⟩
  exact tail_any hL.typeIs slot_list_getitem.lookup (wpAny_getItem_list hL hj.1 hj.2.1 (by rw [List.getElem?_toArray, hj.2.2]; exact ht') (h t')) hs
end
end Mine
open PySem PySem.W PyProof.Rows PySem.Calls PySem.Spec PyProof.V
set_option Elab.async false
set_option maxRecDepth 100000
set_option maxHeartbeats 8000000
local macro_rules | `(tactic| walk_at "call type:range") => `(tactic| k_extra "call type:range")
theorem Mine.l1 : PySem.Challenge.rw_in0155_01.Holds := hd (by
  k_with_none
  w_top off
  k_with "call type:range" => (k_here; (with_reducible show wpAny _ _ (call (Value.type "range") [Value.int _ _]) _ _ _); k_dflt (refine' Mine.range1_led ?F ?N ?_; (case F => k_asm); (case N => k_asm)); intro r9 h9 tk9 a9 b9 F9 N9 l9; (try k_lt l9); (try k_sweep))
  k_with "call ref" => (k_here; (with_reducible show wpAny _ _ (call (Value.ref 33) _) _ _ _); k_dflt (refine' Mine.claim_use (Mine.pat_trans _ _ _ ?hG ?hx) ?k1 ?k2 ?k3 ?k4 ?k5 ?kK ?kd ?ku ?_; (case hG => assumption); (case hx => assumption); (case k1 => k_asm); (case k2 => k_asm); (case k3 => k_asm); (case k4 => k_asm); (case k5 => k_asm); (case kK => first | exact rfl | assumption); (case kd => first | k_room | ktr_room); (case ku => first | ((simp only [units_deeper, units_caller]); decide) | ktr_units | exact Nat.le_of_ble_eq_true rfl)); intro t9 h9 tk9 F9 N9; (try dsimp only); (try k_fold))
  k_with "call ref" => (k_here; (with_reducible show wpAny _ _ (call (Value.ref 87) _) _ _ _); k_dflt (refine' Mine.step_good _ _ _ _ ?hG ?hl ?hy _ _ _ _ _ _ _ _ _ _ _ _ _ _ _ _ _ _ _ _ _ ?k1 ?k2 ?k3 ?k4 ?k5 ?kK ?kd ?ku ?k6 ?k7 ?_; (case hG => assumption); (case hl => assumption); (case hy => first | assumption | omega); (case k1 => k_asm); (case k2 => k_asm); (case k3 => k_asm); (case k4 => k_asm); (case k5 => k_asm); (case k6 => k_asm); (case k7 => k_asm); (case kK => first | exact rfl | assumption); (case kd => first | k_room | ktr_room); (case ku => first | ((simp only [units_deeper, units_caller]); decide) | ktr_units | exact Nat.le_of_ble_eq_true rfl)); intro h9 tk9 F9 N9; (try dsimp only); (try k_fold))
  k_with "call ref" => (k_here; (with_reducible show wpAny _ _ (call (Value.ref 80) _) _ _ _); k_dflt (refine' Mine.claim_use (Mine.counts_any _ _ _ _ ?hx ?hy) ?k1 ?k2 ?k3 ?k4 ?k5 ?kK ?kd ?ku ?_; (case hx => assumption); (case hy => assumption); (case k1 => k_asm); (case k2 => k_asm); (case k3 => k_asm); (case k4 => k_asm); (case k5 => k_asm); (case kK => first | exact rfl | assumption); (case kd => first | k_room | ktr_room); (case ku => first | ((simp only [units_deeper, units_caller]); decide) | ktr_units | exact Nat.le_of_ble_eq_true rfl)); intro t9 h9 tk9 F9 N9; (try dsimp only); (try k_fold))
  k_go0
  (all_goals try k_fold)
  repeat' ((fail_if_success (with_reducible show wpAny _ _ (call (Value.ref 54) _) _ _ _)); first | (k_unfold; (try dsimp only)) | (k_end; wrow_close) | walk1 | (dsimp only; walk1) | (leave1; walk_say "STEP leave1"; try dsimp only) | fail "no step")
  rename Below callerA _ _ _ => B0
  rename Fr _ _ _ _ => F0
  rename News _ _ _ _ => N0
  rename Frag.In _ (ghostOf _ _) => X0
  rename Top _ _ _ _ _ (ghostOf _ _) => T0
  rename IntsAre _ _ => I0
  with_reducible rename (ghostOf _ _).IsList _ _ => S0
  refine Mine.path_spec _ _ _ _ _ _ _ _ _ _ _ _ _ _ _ _ _ _ _ _ _ _ _ _ B0 F0 X0 N0 T0 rfl ?hd ?hu S0 I0 ?hl fun x t9 h9 tk9 hP F1 N1 => ?_
  case hd => decide
  case hu => decide
  case hl => omega
  clear F0 N0
  have hx4 : x.length ≤ 4 := hP.2.1
  repeat' ((fail_if_success (with_reducible show wpAny _ _ (eval (PySem.Expr.IfExp _ _ _ _) _) _ _ _)); first | (k_unfold; (try dsimp only)) | (k_end; wrow_close) | walk1 | (dsimp only; walk1) | (leave1; walk_say "STEP leave1"; try dsimp only) | fail "no step")
  refine Mine.turns_join (fun n t8 tk8 hn => ?_) ?g
  case g =>
    k_steps
    · exact .inr rfl
    · exact .inl rfl
  dsimp only
  (try k_fold)
  repeat' ((fail_if_success (with_reducible show wpAny _ _ (call (Value.ref 42) _) _ _ _)); first | (k_unfold; (try dsimp only)) | (k_end; wrow_close) | walk1 | (dsimp only; walk1) | (leave1; walk_say "STEP leave1"; try dsimp only) | fail "no step")
  refine wpAny_call ?_
  k_dflt (refine' code_def ?k1 ?k2 ?k3 ?k4 ?k5 ?kA ?kF ?kK ?k6 ?k7 ?k8 ?k9 ?kB ?_ ?c2 ?c3 ?c4 ?c5; (case kA => exact rfl); (case kF => exact rfl); (case kK => exact rfl); (case k1 => k_asm); (case k2 => k_asm); (case k3 => k_asm); (case k4 => k_asm); (case k5 => k_asm); (case k6 => k_is); (case k7 => k_is); (case k8 => k_room); (case k9 => exact binds_K (by k_in) rfl (by k_is) rfl rfl rfl); (case c5 => decide); (case kB => exact locs rfl); (case c2 => exact rfl); (case c3 => exact rfl); (case c4 => exact rfl); k_whole; intro g' L' h' FG' F' N' B' X' T'; (try dsimp only); (try k_lift B'); (try k_fold))
  repeat' ((fail_if_success (with_reducible show wpAny _ _ (call (Value.builtin "iter") _) _ _ _)); first | (k_unfold; (try dsimp only)) | (k_end; wrow_close) | walk1 | (dsimp only; walk1) | (leave1; walk_say "STEP leave1"; try dsimp only) | fail "no step")
  rename News _ _ _ _ => N2
  rename Fr _ _ _ _ => F2
  refine Mine.call_iter_range (n := n) F2 N2 (N2 _ (.tail _ (.head _))).1 (Mine.range_small hn).1 (Mine.range_small hn).2 fun I9 h9 F9 N9 l9 => ?_
  clear N2 F2
  have l8 := l9
  (try k_lt l9)
  k_with "pyIter ref" => skip
  repeat' ((fail_if_success (with_reducible show wpAny _ _ (pyIter (Value.ref _)) (fun it s₂ => LoopAtV _ _ _ _ _ _ _ _ _ it s₂) _ _)); first | (k_unfold; (try dsimp only)) | (k_end; wrow_close) | walk1 | (dsimp only; walk1) | (leave1; walk_say "STEP leave1"; try dsimp only) | fail "no step")
  rename News _ _ _ _ => N2
  rename Fr _ _ _ _ => F2
  refine Mine.iter_rit (n := n) rfl F2 N2 (fun p hp => Nat.ne_of_lt (l8 p hp)) (Mine.red_loop (z := x) (v := Str.ofString "value") (by decide +kernel) (.head _) (.cons x t9 .nil) (if_pos rfl) l8 ?turn ?fin)
  case turn =>
    clear N2 F2
    intro i D vs k t1 h1 tk1 hi hS hD F1 N1
    have hi3 : i < 3 := by omega
    have hG := Mine.rowK_good hP i
    have hl := (Mine.rowK_le hx4 hi3).1
    repeat' ((fail_if_success (with_reducible show wpAny _ _ (subscriptTail _ _ (Value.ref _) (Value.int _ _)) _ _ _)); first | (k_unfold; (try dsimp only)) | (k_end; wrow_close) | walk1 | (dsimp only; walk1) | (leave1; walk_say "STEP leave1"; try dsimp only) | fail "no step")
    rename News _ _ _ _ => N2
    refine Mine.last_strs N2 (.tail _ (.head _)) hS (Mine.rowL_last x i) fun t2 => ?_
    repeat' ((fail_if_success (with_reducible show wpAny _ _ (binaryOp Operator.Add _ _) _ _ _)); first | (k_unfold; (try dsimp only)) | (k_end; wrow_close) | walk1 | (dsimp only; walk1) | (leave1; walk_say "STEP leave1"; try dsimp only) | fail "no step")
    rename News _ _ _ _ => N2
    rename Fr _ _ _ _ => F2
    refine Mine.add_two F2 N2 (.tail _ (.tail _ (.head _))) (.head _) (Mine.row_sz hS hi3) fun D9 h9 F9 N9 l9 => ?_
    clear N2 F2
    have lD := l9 _ (.tail _ (.head _))
    (try k_lt l9)
    repeat' ((fail_if_success (with_reducible show UnrEnd _ _ _ _ _ _ _)); first | (k_unfold; (try dsimp only)) | (k_end; wrow_close) | walk1 | (dsimp only; walk1) | (leave1; walk_say "STEP leave1"; try dsimp only) | fail "no step")
    rename News g' _ _ _ => N3
    rename Fr g' _ _ _ => F3
    exact Mine.red_end F3 N3 (Ne.symm (Nat.ne_of_lt lD)) l8 (Mine.strs_snoc1 hS)
  case fin =>
    clear N2 F2
    intro D vs k e h4 tk4 hS F4 N4
    have F5 : Fr g' L' h4 _ := F4
    have N5 : News g' L' h4 _ := N4
    clear F4 N4 l8
    dsimp only
    repeat' ((fail_if_success (with_reducible show wpAny _ _ (exec (Stmt.If _ _ _ _) _) _ _ _)); first | (k_unfold; (try dsimp only)) | (k_end; wrow_close) | walk1 | (dsimp only; walk1) | (leave1; walk_say "STEP leave1"; try dsimp only) | fail "no step")
    clear F5 N5
    have hlen : vs.length = n + 1 := hS.length.trans (Mine.rowL_length x n)
    repeat' ((fail_if_success (with_reducible show wpAny _ _ (call (Value.builtin "len") _) _ _ _)); first | (k_unfold; (try dsimp only)) | (k_end; wrow_close) | walk1 | (dsimp only; walk1) | (leave1; walk_say "STEP leave1"; try dsimp only) | fail "no step")
    rename News _ _ _ _ => N2
    refine Mine.len_row N2 (.head _) hlen (Mine.le_three hn) ?_
    repeat' ((fail_if_success (with_reducible show wpAny _ _ (subscriptTail _ _ (Value.ref _) (Value.int _ _)) _ _ _)); first | (k_unfold; (try dsimp only)) | (k_end; wrow_close) | walk1 | (dsimp only; walk1) | (leave1; walk_say "STEP leave1"; try dsimp only) | fail "no step")
    rename News _ _ _ _ => N2
    refine Mine.item_strs (y := x) N2 (.head _) hS (q := 0) (by decide) (Mine.rowL_get? (Nat.zero_le n)) fun t2 => ?_
    repeat' ((fail_if_success (with_reducible show wpAny _ _ (call (Value.type "range") _) _ _ _)); first | (k_unfold; (try dsimp only)) | (k_end; wrow_close) | walk1 | (dsimp only; walk1) | (leave1; walk_say "STEP leave1"; try dsimp only) | fail "no step")
    rename Fr _ _ _ _ => F2
    refine Mine.range2_led F2 N2 fun r8 h8 tk8 a8 F8 N8 l8 => ?_
    clear N2 F2
    (try k_lt l8)
    repeat' ((fail_if_success (with_reducible show wpAny _ _ (pyIter (Value.ref _)) (fun it s₂ => LoopAtV _ _ _ _ _ _ _ _ _ it s₂) _ _)); first | (k_unfold; (try dsimp only)) | (k_end; wrow_close) | walk1 | (dsimp only; walk1) | (leave1; walk_say "STEP leave1"; try dsimp only) | fail "no step")
    rename News _ _ _ _ => N2
    rename Fr _ _ _ _ => F2
    refine iter_rangeUnr (n := n) rfl (N2 _ (.head _)).1 (Mine.range_small1 hn).1 (Mine.range_small1 hn).2 F2 N2 fun I8 l6 => Mine.chk_loop ?turn2 ?fin2
    case turn2 =>
      clear N2 F2
      intro i t1 h1 tk1 hi F1 N1
      have hi3 : i < 3 := by omega
      have hG := Mine.rowK_good hP i
      have hl := (Mine.rowK_le hx4 hi3).1
      have hy := (Mine.rowK_le hx4 hi3).2
      clear hlen
      repeat' ((fail_if_success (with_reducible show wpAny _ _ (subscriptTail _ _ (Value.ref _) (Value.int _ _)) _ _ _)); first | (k_unfold; (try dsimp only)) | (k_end; wrow_close) | walk1 | (dsimp only; walk1) | (leave1; walk_say "STEP leave1"; try dsimp only) | fail "no step")
      rename News _ _ _ _ => N2
      refine Mine.item_strs (y := Mine.rowK x i) N2 (.tail _ (.tail _ (.head _))) hS (Mine.before hi3) (Mine.rowL_get? (Nat.le_of_lt hi)) fun t2 => ?_
      repeat' ((fail_if_success (with_reducible show wpAny _ _ (subscriptTail _ _ (Value.ref _) (Value.int _ _)) _ _ _)); first | (k_unfold; (try dsimp only)) | (k_end; wrow_close) | walk1 | (dsimp only; walk1) | (leave1; walk_say "STEP leave1"; try dsimp only) | fail "no step")
      refine Mine.item_strs (y := Mine.lawPat (Mine.rowK x i)) N2 (.tail _ (.tail _ (.head _))) hS (Mine.after hi3) (Mine.rowL_get? hi) fun t3 => ?_
      repeat' ((fail_if_success (with_reducible show wpAny _ _ (subscriptTail _ _ (Value.ref _) (Value.int _ _)) _ _ _)); first | (k_unfold; (try dsimp only)) | (k_end; wrow_close) | walk1 | (dsimp only; walk1) | (leave1; walk_say "STEP leave1"; try dsimp only) | fail "no step")
      clear N2
      rename News _ _ _ _ => N2
      refine Mine.item_strs (y := Mine.rowK x (i + 1)) N2 (.tail _ (.tail _ (.head _))) hS (Mine.after hi3) (Mine.rowL_get? hi) fun t4 => ?_
      repeat' ((fail_if_success (with_reducible show UnrEnd _ _ _ _ _ _ _)); first | (k_unfold; (try dsimp only)) | (k_end; wrow_close) | walk1 | (dsimp only; walk1) | (leave1; walk_say "STEP leave1"; try dsimp only) | fail "no step")
      rename News (ghostOf _ _) _ _ _ => N3
      rename Fr (ghostOf _ _) _ _ _ => F3
      exact Mine.chk_end F3 N3 (fun _ hp => hp) l6
    case fin2 =>
      clear N2 F2
      intro e h4 tk4 F4 N4
      dsimp only
      k_steps)
theorem PySem.Challenge.cw_in0155_01_holds : PySem.Challenge.rw_in0155_01.Holds := by
  exact Mine.l1
