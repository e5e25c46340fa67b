import PyProof.Rows.All
import Wide.All
import OpenK.AllK
import Wide.FinOn
import PySem.Challenge.RW_sc0073_01
set_option Elab.async false
set_option compiler.extract_closed false
section
example : True := by w_top off; trivial
open PySem PySem.W PyProof.Rows
namespace Mine
local macro_rules | `(tactic| o_law) => `(tactic| refine holds_law (by decide +kernel) fun said => ?_)
set_option maxRecDepth 100000 in
set_option maxHeartbeats 8000000 in
set_option synthInstance.maxSize 1 in
open_top hd for PySem.Challenge.rw_sc0073_01
end Mine
end
section
example : True := by w_top off; trivial
open PySem PyProof.Rows
namespace Mine
/-- the signs of a text -/
noncomputable abbrev sg (x : Str) : List Nat := x.cps.toList
noncomputable def ofL (l : List Nat) : Str := ⟨l.toArray⟩
theorem sg_ofL (l : List Nat) : sg (ofL l) = l := rfl
theorem ofL_sg (x : Str) : ofL (sg x) = x := rfl
theorem str_ext {x y : Str} (h : sg x = sg y) : x = y := by rw [← ofL_sg x, h, ofL_sg]
theorem length_ofL (l : List Nat) : (ofL l).length = l.length := by simp [ofL, Str.length]
theorem length_sg (x : Str) : x.length = (sg x).length := by simp [Str.length]
noncomputable def rpl (c : Nat) (z l : List Nat) : List Nat := l.flatMap fun k => if k = c then z else [k]
theorem rpl_free (c : Nat) (z : List Nat) : ∀ l : List Nat, c ∉ l → rpl c z l = l
  | [], _ => rfl
  | k :: r, h => by
    have h1 : ¬ k = c := fun e => h (e ▸ List.mem_cons_self ..)
    have h2 := rpl_free c z r fun m => h (List.mem_cons_of_mem _ m)
    unfold rpl at h2 ⊢
    rw [List.flatMap_cons, h2, if_neg h1]; rfl
theorem rpl_append (c : Nat) (z a b : List Nat) : rpl c z (a ++ b) = rpl c z a ++ rpl c z b := by unfold rpl; rw [List.flatMap_append]
theorem rpl_one (c : Nat) (z : List Nat) : rpl c z [c] = z := by simp [rpl]
theorem rpl_join (c : Nat) (z : Str) : ∀ parts : List Str, (∀ p ∈ parts, c ∉ p.cps.toList) → rpl c (sg z) (sg (Str.join ⟨#[c]⟩ parts)) = sg (Str.join z parts)
  | [], _ => rfl
  | [p], h => rpl_free c _ _ (h p (List.mem_singleton.mpr rfl))
  | p :: q :: r, h => by
    have ih := rpl_join c z (q :: r) fun a ha => h a (List.mem_cons_of_mem _ ha)
    show rpl c (sg z) (sg (p ++ ⟨#[c]⟩ ++ Str.join ⟨#[c]⟩ (q :: r))) = sg (p ++ z ++ Str.join z (q :: r))
    simp only [sg, Str.cps_append, Array.toList_append] at ih ⊢
    rw [rpl_append, rpl_append, ih, rpl_free c _ _ (h p (List.mem_cons_self ..))]
    show p.cps.toList ++ rpl c _ [c] ++ _ = _
    rw [rpl_one]
theorem replace_rpl (x z : Str) (c : Nat) : Txt.replace x ⟨#[c]⟩ z = ofL (rpl c (sg z) (sg x)) := by
  apply str_ext
  rw [sg_ofL, StrLaws.replace_one, ← rpl_join c z _ (StrLaws.split_free x c), StrLaws.join_split]
theorem not_found {x : Str} {c : Nat} (h : (Builtin.Str.occurrences x ⟨#[c]⟩ 0 x.length 1).isEmpty = true) : c ∉ sg x := by
  have := StrLaws.found_one x c
  rw [h] at this
  simpa using this

noncomputable def amp : List Nat := [38, 97, 109, 112, 59]
noncomputable def lt_ : List Nat := [38, 108, 116, 59]
noncomputable def gt_ : List Nat := [38, 103, 116, 59]
noncomputable def quot : List Nat := [38, 113, 117, 111, 116, 59]
/-- the table of a hand -/
noncomputable def tab : Nat → List (Nat × List Nat)
  | 0 => [(38, amp), (60, lt_), (62, gt_)]
  | 1 => [(38, amp), (60, lt_), (62, gt_), (13, [38, 35, 120, 68, 59])]
  | 2 => [(38, amp), (60, lt_), (62, gt_), (34, quot), (9, [38, 35, 48, 57, 59]), (10, [38, 35, 49, 48, 59]), (13, [38, 35, 49, 51, 59])]
  | 3 => [(38, amp), (60, lt_), (34, quot), (9, [38, 35, 120, 57, 59]), (10, [38, 35, 120, 65, 59]), (13, [38, 35, 120, 68, 59])]
  | _ => [(38, amp), (62, gt_), (34, quot)]
noncomputable def img (h c : Nat) : List Nat := ((tab h).lookup c).getD [c]
noncomputable def spell (h : Nat) (l : List Nat) : List Nat := l.flatMap (img h)
noncomputable def spellS (h : Nat) (x : Str) : Str := ofL (spell h (sg x))
noncomputable def chain (ps : List (Nat × List Nat)) (l : List Nat) : List Nat := ps.foldl (fun l p => rpl p.1 p.2 l) l
noncomputable def chainC (ps : List (Nat × List Nat)) (c : Nat) : List Nat := chain ps [c]
theorem chain_nil (ps : List (Nat × List Nat)) : chain ps [] = [] := by
  unfold chain
  induction ps with
  | nil => rfl
  | cons p r ih => exact ih
theorem chain_append (ps : List (Nat × List Nat)) : ∀ a b : List Nat, chain ps (a ++ b) = chain ps a ++ chain ps b := by
  unfold chain
  induction ps with
  | nil => intro a b; rfl
  | cons p r ih => intro a b; rw [List.foldl_cons, rpl_append, ih]; rfl
theorem chain_flat (ps : List (Nat × List Nat)) : ∀ l : List Nat, chain ps l = l.flatMap (chainC ps)
  | [] => chain_nil ps
  | c :: r => by
    rw [List.flatMap_cons, ← chain_flat ps r]
    exact chain_append ps [c] r
/-- the order in which the program replaces -/
noncomputable def ord : Nat → List (Nat × List Nat)
  | 0 => tab 0
  | 1 => tab 1
  | 2 => [(38, amp), (60, lt_), (62, gt_), (34, quot), (13, [38, 35, 49, 51, 59]), (10, [38, 35, 49, 48, 59]), (9, [38, 35, 48, 57, 59])]
  | 3 => tab 3
  | n + 4 => tab (n + 4)
theorem chainC_img (h : Nat) (hh : h < 5) (c : Nat) : chainC (ord h) c = img h c := by
  have hc : c < 128 ∨ 128 ≤ c := by lia
  rcases hc with hc | hc
  · have : ∀ h < 5, ∀ c < 128, chainC (ord h) c = img h c := by decide +kernel
    exact this h hh c hc
  · have e : img h c = [c] := by
      unfold img
      have : (tab h).lookup c = none := by
        rw [List.lookup_eq_none_iff]
        intro p hp
        have : p.1 < 128 := by
          have hall : ∀ h < 5, ∀ p ∈ tab h, p.1 < 128 := by decide +kernel
          exact hall h hh p hp
        simp; lia
      rw [this]; rfl
    rw [e]
    have hall : ∀ h < 5, ∀ p ∈ ord h, p.1 < 128 := by decide +kernel
    have hall := hall h hh
    unfold chainC chain
    generalize ord h = ps at hall
    induction ps with
    | nil => rfl
    | cons p r ih =>
      rw [List.foldl_cons, rpl_free]
      · exact ih fun q hq => hall q (List.mem_cons_of_mem _ hq)
      · have := hall p (List.mem_cons_self ..)
        simp; lia
theorem chain_spell (h : Nat) (hh : h < 5) (l : List Nat) : chain (ord h) l = spell h l := by
  rw [chain_flat]; unfold spell
  congr 1; funext c; exact chainC_img h hh c
theorem img_len (h : Nat) (hh : h < 5) (c : Nat) : 1 ≤ (img h c).length ∧ (img h c).length ≤ 6 := by
  unfold img
  cases e : (tab h).lookup c with
  | none => simp
  | some z =>
    have hall : ∀ h < 5, ∀ p ∈ tab h, 1 ≤ p.2.length ∧ p.2.length ≤ 6 := by decide +kernel
    have : ∃ k, (k, z) ∈ tab h := by
      generalize tab h = t at e
      induction t with
      | nil => cases e
      | cons p r ih =>
        rw [List.lookup_cons] at e
        split at e
        · cases e; exact ⟨p.1, List.mem_cons_self ..⟩
        · obtain ⟨k, hk⟩ := ih e; exact ⟨k, List.mem_cons_of_mem _ hk⟩
    obtain ⟨k, hk⟩ := this
    exact hall h hh _ hk
theorem flat_len {f : Nat → List Nat} {n : Nat} (hf : ∀ c, (f c).length ≤ n) : ∀ l : List Nat, (l.flatMap f).length ≤ n * l.length
  | [] => by simp
  | c :: r => by
    have := flat_len hf r
    have := hf c
    rw [List.flatMap_cons, List.length_append, List.length_cons, Nat.mul_add]; lia
theorem spell_len (h : Nat) (hh : h < 5) (l : List Nat) : (spell h l).length ≤ 6 * l.length := flat_len (fun c => (img_len h hh c).2) l
/-- each stretch of the order makes no text longer than sixfold -/
theorem part_len (h : Nat) (hh : h < 5) (n : Nat) (l : List Nat) : (chain ((ord h).take n) l).length ≤ 6 * l.length := by
  rw [chain_flat]
  apply flat_len
  intro c
  have hn : n ≤ 7 ∨ 7 < n := by lia
  have hc : c < 128 ∨ 128 ≤ c := by lia
  rcases hc with hc | hc
  · rcases hn with hn | hn
    · have : ∀ h < 5, ∀ n ≤ 7, ∀ c < 128, (chainC ((ord h).take n) c).length ≤ 6 := by decide +kernel
      exact this h hh n hn c hc
    · have : ∀ h < 5, ∀ c < 128, (chainC (ord h) c).length ≤ 6 := by decide +kernel
      have hl : ∀ h < 5, (ord h).length ≤ 7 := by decide +kernel
      rw [List.take_of_length_le (by have := hl h hh; lia)]
      exact this h hh c hc
  · have hall : ∀ h < 5, ∀ p ∈ ord h, p.1 < 128 := by decide +kernel
    have hall : ∀ p ∈ (ord h).take n, p.1 < 128 := fun p hp => hall h hh p (List.mem_of_mem_take hp)
    unfold chainC chain
    generalize (ord h).take n = ps at hall
    have : ps.foldl (fun l p => rpl p.1 p.2 l) [c] = [c] := by
      induction ps with
      | nil => rfl
      | cons p r ih =>
        rw [List.foldl_cons, rpl_free]
        · exact ih fun q hq => hall q (List.mem_cons_of_mem _ hq)
        · have := hall p (List.mem_cons_self ..)
          simp; lia
    rw [this]; simp
/-- a backslash ahead of each of the signs of q -/
noncomputable def slash (q : List Nat) (c : Nat) : List Nat := if c ∈ q then [92, c] else [c]
noncomputable def qs1 : List Nat := [34, 92]
noncomputable def qs0 : List Nat := [34, 92, 32, 9, 10, 13]
noncomputable def dress (k : Nat) (l : List Nat) : List Nat := if k = 1 then 34 :: (l.flatMap (slash qs1) ++ [34]) else l.flatMap (slash qs0)
noncomputable def dressS (k : Nat) (x : Str) : Str := ofL (dress k (sg x))
theorem slash_len (q : List Nat) (c : Nat) : (slash q c).length ≤ 2 := by unfold slash; split <;> simp
theorem in_text (y : Str) (c : Nat) : ((!(Builtin.Str.occurrences y ⟨#[c]⟩ 0 y.length 1).isEmpty) = true) ↔ c ∈ sg y := by
  rw [StrLaws.found_one y c]; simp
end Mine
end
section
example : True := by w_top off; trivial
open PySem PySem.W PyProof.Rows
namespace Mine
/-- the names that the top binds loosely, as the law's frame tells them -/
noncomputable abbrev looseT : List Str := looseW hd.view_1 [] ++ (recsOf hd.view_1).map (·.name) ++ (litsOf hd.view_1).map (·.1) ++ (clssOf hd.view_1 (looseW hd.view_1 [])).map (·.name)
/-- a stop for the walk -/
noncomputable def Mark (P : Prop) : Prop := P
theorem Mark.intro {P : Prop} (h : P) : Mark P := h
theorem Mark.out {P : Prop} (h : Mark P) : P := h

noncomputable def Never : Value → Shared → Prop := fun _ _ => False
theorem no_raise {α : Type} {M : Model} {A : Around} {t : Sem α} {Q : α → Shared → Prop} {E : Value → Shared → Prop} {s : Shared} (h : wpAny M A t Q (fun _ _ => False) s) : wpAny M A t Q E s := wpAny_noRaise h

/-- what a call of a def of the text is told to do: the ledger news is met, and Post tells of the result and of the ledger behind -/
noncomputable abbrev Does (w : World) (f : Addr) (need : Nat) (news : List (Addr × Obj)) (vs : List Value) (Post : Value → List (Addr × Obj) → Prop) : Prop :=
  ∀ (mean : ExcName → Option Value) (mg mb : Str → Option Value) (dp un : Nat) (gd : Option (List Code)) (cn : Str) (cs : Scope) (a : Addr) (ccd : Value) (cl : List (Str × Addr)) (outer : List Env) (A₀ : Around) (base h₀ : Heap) (L : Addr) (m : Str → Option Value) (s : Shared) (Q E : Value → Shared → Prop),
    Below A₀ base outer h₀ → Fr h₀ L s.heap m → (hd.heap_1 w.params).In h₀ → News h₀ L s.heap news → Top topProg looseT mean mg mb h₀ → cs.kind = .function →
    dp + need < recursionLimit → un + 8 * need < cLine →
    (∀ (r : Value) (tl : List (Addr × Obj)) (h' : Heap) (tk' : Nat), Post r tl → Fr h₀ L h' m → News h₀ L h' tl → Q r { s with heap := h', toks := tk' }) →
    wpAny (model PySem.Challenge.rw_sc0073_01.row.prog w) (ktrTop dp un gd cn cs L a ccd cl outer) (call (.ref f) vs) Q E s

theorem does_mono {w : World} {f : Addr} {n n' : Nat} {news : List (Addr × Obj)} {vs : List Value} {P P' : Value → List (Addr × Obj) → Prop} (h : Does w f n news vs P) (hn : n ≤ n') (hp : ∀ r tl, P r tl → P' r tl) : Does w f n' news vs P' := by
  intro mean mg mb dp un gd cn cs a ccd cl outer A₀ base h₀ L m s Q E B F X N T hk hd hu ret
  exact h mean mg mb dp un gd cn cs a ccd cl outer A₀ base h₀ L m s Q E B F X N T hk (by omega) (by omega) fun r tl h' tk' hP => ret r tl h' tk' (hp _ _ hP)

theorem Does.use {w : World} {f : Addr} {need : Nat} {news : List (Addr × Obj)} {vs : List Value} {Post : Value → List (Addr × Obj) → Prop} (d : Does w f need news vs Post)
    {mean : ExcName → Option Value} {mg mb : Str → Option Value} {dp un : Nat} {gd : Option (List Code)} {cn : Str} {cs : Scope} {a : Addr} {ccd : Value} {cl : List (Str × Addr)} {outer : List Env} {A₀ : Around} {base h₀ : Heap} {L : Addr} {m : Str → Option Value} {s : Shared} {Q E : Value → Shared → Prop}
    (B : Below A₀ base outer h₀) (F : Fr h₀ L s.heap m) (X : (hd.heap_1 w.params).In h₀) (N : News h₀ L s.heap news) (T : Top topProg looseT mean mg mb h₀) (hk : cs.kind = .function)
    (hd : dp + need < recursionLimit) (hu : un + 8 * need < cLine)
    (ret : ∀ (r : Value) (tl : List (Addr × Obj)) (h' : Heap) (tk' : Nat), Post r tl → Fr h₀ L h' m → News h₀ L h' tl → Q r { s with heap := h', toks := tk' }) :
    wpAny (model PySem.Challenge.rw_sc0073_01.row.prog w) (ktrTop dp un gd cn cs L a ccd cl outer) (call (.ref f) vs) Q E s :=
  d mean mg mb dp un gd cn cs a ccd cl outer A₀ base h₀ L m s Q E B F X N T hk hd hu ret
theorem eqI {a b : Int} {t : Tok} (h : a = b) : Value.int a t = Value.int b t := congrArg (fun y => Value.int y t) h
theorem eqS {a b : Str} {t : Tok} (h : a = b) : Value.str a t = Value.str b t := congrArg (fun y => Value.str y t) h
section
variable {M : Model} {A : Around} {E : Value → Shared → Prop} {s : Shared} {env : Env} {h₀ : Heap} {L : Addr} {m : Str → Option Value} {news : List (Addr × Obj)}
/-- the state behind: another heap, another count of tokens -/
noncomputable def Behind (h₀ : Heap) (L : Addr) (m : Str → Option Value) (news : List (Addr × Obj)) (s s' : Shared) : Prop :=
  ∃ (h : Heap) (tk : Nat), s' = { s with heap := h, toks := tk } ∧ Fr h₀ L h m ∧ News h₀ L h news
theorem Behind.intro {s : Shared} {h : Heap} {tk : Nat} (F : Fr h₀ L h m) (N : News h₀ L h news) : Behind h₀ L m news s { s with heap := h, toks := tk } := ⟨h, tk, rfl, F, N⟩
theorem Behind.here {s : Shared} (F : Fr h₀ L s.heap m) (N : News h₀ L s.heap news) : Behind h₀ L m news s s := ⟨s.heap, s.toks, rfl, F, N⟩
end
theorem off_lt {rest : List (Addr × Obj)} {d e : Addr} (h : ∀ p ∈ rest, p.1 < e) (he : @LE.le Nat _ e d) : ∀ p ∈ rest, p.1 ≠ d := fun p hp => Nat.ne_of_lt (Nat.lt_of_lt_of_le (h p hp) he)
theorem allLt_mem {d : Addr} {l : List (Addr × Obj)} (h : AllLt d l) : ∀ p ∈ l, p.1 < d := by
  induction l with
  | nil => exact fun p hp => nomatch hp
  | cons q r ih =>
    intro p hp
    rcases List.mem_cons.mp hp with e | hp
    · rw [e]; exact h.1
    · exact ih h.2 p hp
theorem off_all {rest : List (Addr × Obj)} {d e : Addr} (h : AllLt e rest) (he : @LE.le Nat _ e d) : ∀ p ∈ rest, p.1 ≠ d := off_lt (allLt_mem h) he
section
variable {prog : Program} {w : World} {A : Around} {E : Value → Shared → Prop} {s : Shared} {h₀ : Heap} {L : Addr} {m : Str → Option Value} {news : List (Addr × Obj)} {cn : Str} {cs : Scope} {a : Addr} {ccd : Value} {cl : List (Str × Addr)} {x : Str}
theorem storeZ {M : Model} {v : Value} {Q : Unit → Shared → Prop} (F : Fr h₀ L s.heap m) (N : News h₀ L s.heap news)
    (h : ∀ h', let m' : Str → Option Value := fun y => if y = x then some v else m y; Fr h₀ L h' m' → News h₀ L h' news → Q () { s with heap := h', toks := s.toks + 1 })
    (hk : cs.kind = .function := by rfl) (hx : (envX cn cs L a ccd cl).kindOf x = some .local := by rfl) : wpAny M A (storeName (envX cn cs L a ccd cl) x v) Q E s :=
  storeX_L F N h hk hx
theorem newListZ {M : Model} {vs : List Value} {Q : Value → Shared → Prop} (F : Fr h₀ L s.heap m) (N : News h₀ L s.heap news)
    (h : ∀ l h', let nw : List (Addr × Obj) := (l, W.listOf vs.toArray 0) :: news; Fr h₀ L h' m → News h₀ L h' nw → (∀ p ∈ news, p.1 < l) → Q (.ref l) { s with heap := h' }) (hsz : vs.length ≤ sizeLine := by size_fits) : wpAny M A (newList vs) Q E s :=
  newList_K F N h hsz
theorem frZ {g h : Heap} {P : Prop} (F : Fr g L h m) (k : let m' := m; Fr g L h m' → P) : P := k F
theorem newsZ {g h : Heap} {P : Prop} (N : News g L h news) (k : let nw := news; News g L h nw → P) : P := k N
end
theorem wp_hideQ {α : Type} {M : Model} {A : Around} {t : Sem α} {Q : α → Shared → Prop} {E : Value → Shared → Prop} {s : Shared} (h : ∀ R : α → Shared → Prop, (∀ a s', Q a s' → R a s') → wpAny M A t R E s) : wpAny M A t Q E s := h Q fun _ _ h => h
theorem room_le {dp a b c : Nat} (h : dp + a < c) (e : 1 + b ≤ a) : dp + 1 + b < c := by omega
theorem room_0 {dp a c : Nat} (h : dp + a < c) : dp < c := Nat.lt_of_le_of_lt (Nat.le_add_right _ _) h
theorem units_le {un a b c : Nat} (h : un + 8 * a < c) (e : 3 + 8 * b ≤ 8 * a) : un + 3 + 8 * b < c := by omega
theorem units_le1 {un a b c : Nat} (h : un + 8 * a < c) (e : 4 + 8 * b ≤ 8 * a) : un + 3 + 1 + 8 * b < c := by omega
theorem off_all0 {rest : List (Addr × Obj)} {d : Addr} (h : AllLt d rest) : ∀ p ∈ rest, p.1 ≠ d := fun p hp => Nat.ne_of_lt (allLt_mem h p hp)
theorem off_allA {l rest : List (Addr × Obj)} {d : Addr} (h : AllLt d (l ++ rest)) : ∀ p ∈ rest, p.1 ≠ d := fun p hp => Nat.ne_of_lt (allLt_mem h p (List.mem_append_right _ hp))
end Mine
end
section
open PySem PySem.W PyProof.Rows
open Mine
local macro_rules | `(tactic| k_search $t) => `(tactic| (k_dflt (refine' Does.use $t ?z1 ?z2 ?z3 ?z4 ?z5 ?z6 ?z7 ?z8 ?_); (case z1 => k_asm); (case z2 => k_asm); (case z3 => k_asm); (case z4 => k_asm); (case z5 => k_asm); (case z6 => first | exact rfl | assumption); (case z7 => ktr_room); (case z8 => ktr_units)))
local macro_rules | `(tactic| walk_at "used") => `(tactic| ((intro r9 tl9 h9 tk9 P9 F9 N9); (obtain ⟨e9, t9, e8⟩ := P9); (subst e9); (subst e8); (try dsimp only); (try k_fold)))
local macro_rules | `(tactic| ktr_room) => `(tactic| first | decide | exact room_le (by with_reducible assumption) (Nat.le_of_ble_eq_true rfl) | exact room_0 (by with_reducible assumption))
local macro_rules | `(tactic| ktr_units) => `(tactic| first | decide | exact units_le (by with_reducible assumption) (Nat.le_of_ble_eq_true rfl) | exact units_le1 (by with_reducible assumption) (Nat.le_of_ble_eq_true rfl))
section
example : True := by w_top off; trivial
open PySem PySem.W PyProof.Rows
namespace Mine
set_option maxRecDepth 100000 in
set_option maxHeartbeats 8000000 in
theorem esc_if {prog : Program} {w : World} {A : Around} {E : Value → Shared → Prop} {s : Shared} {nm : Str} {scope : Scope} {L a : Addr} {cd : Value} {h₀ : Heap} {m : Str → Option Value} {news : List (Addr × Obj)} {c r x : Str} {k : Nat} {z l : List Nat} {t : Tok} {p1 p2 p3 p4 p5 p6 p7 p8 p9 p10 p11 : Pos}
    {pl : Sem Bool} {Q : Flow → Shared → Prop} (F : Fr h₀ L s.heap m) (N : News h₀ L s.heap news) (KX : (hd.heap_1 w.params).In h₀) (hm : m (Str.ofString "text") = some (.str x t)) (hc : c = ⟨#[k]⟩) (hz : sg r = z) (hx : sg x = l) (hl1 : l.length ≤ 1000000) (hr : z.length ≤ 6) (hr2 : 2 ≤ z.length)
    (hk : scope.kind = .function) (hl : (envOf nm scope L a cd).kindOf (Str.ofString "text") = some .local) (h1 : 1 ≤ s.toks)
    (h : ∀ t' h' tk', 1 ≤ tk' → Fr h₀ L h' (fun y => if y = Str.ofString "text" then some (.str (ofL (rpl k z l)) t') else m y) → News h₀ L h' news → Q .next { s with heap := h', toks := tk' })
    (he : eval (.Call (.Attribute (.Name (Str.ofString "text") p5) (Str.ofString "replace") p6) [.Constant (.str c) 0 p7, .Constant (.str r) 0 p8] [] p9) (envOf nm scope L a cd) = (do
      let ov ← eval (.Name (Str.ofString "text") p5) (envOf nm scope L a cd)
      standAt p6.atName
      let (f, first) ← holding [ov] (getMethod ov (Str.ofString "replace") pl)
      callWith p9 f first (backTo p9 (starEach [.Constant (.str c) 0 p7, .Constant (.str r) 0 p8] (envOf nm scope L a cd))) []) := by rfl) :
    wpAny (model prog w) A (exec (.If (.Compare (.Constant (.str c) 0 p1) [.In] [.Name (Str.ofString "text") p2] p3) [.Assign [.Name (Str.ofString "text") p4] (.Call (.Attribute (.Name (Str.ofString "text") p5) (Str.ofString "replace") p6) [.Constant (.str c) 0 p7, .Constant (.str r) 0 p8] [] p9) p10] [] p11) (envOf nm scope L a cd)) Q E s := by
  have hx1 : x.length ≤ 1000000 := by rw [length_sg, hx]; exact hl1
  have hr1 : r.length ≤ 6 := by rw [length_sg, hz]; exact hr
  have hcr : (c == r) = false := by
    rw [hc]
    apply Bool.eq_false_iff.mpr
    intro e
    have e := eq_of_beq e
    rw [← e] at hz
    rw [← hz] at hr2
    simp at hr2
  have test : wpAny (model prog w) A (isTrue (.Compare (.Constant (.str c) 0 p1) [.In] [.Name (Str.ofString "text") p2] p3) (envOf nm scope L a cd) (eval (.Compare (.Constant (.str c) 0 p1) [.In] [.Name (Str.ofString "text") p2] p3) (envOf nm scope L a cd)))
      (fun b s₂ => b = (!(Builtin.Str.occurrences x c 0 x.length 1).isEmpty) ∧ Behind h₀ L m news s s₂) E s := by
    k_steps
    refine ld F hm ?_ hk hl
    k_steps
    exact Behind.intro F N
  refine wpAny_If (wpAny_mono (wpAny_toks_of h1 test) (fun b s₂ hb => ?_) fun _ _ x => x.2)
  obtain ⟨ht, hb, h', tk, rfl, F', N'⟩ := hb
  subst hb
  cases e : (Builtin.Str.occurrences x c 0 x.length 1).isEmpty with
  | true =>
    simp only [Bool.not_true, Bool.false_eq_true, if_false]
    refine wpAny_execs_nil (h t h' tk ht ?_ N')
    have e2 : (ofL (rpl k z l)) = x := by
      rw [hc] at e
      rw [← hx, rpl_free k z (sg x) (not_found e), ofL_sg]
    rw [e2]
    have e3 : (fun y => if y = Str.ofString "text" then some (Value.str x t) else m y) = m := by
      funext y
      by_cases hy : y = Str.ofString "text"
      · rw [if_pos hy, hy, hm]
      · rw [if_neg hy]
    rw [e3]; exact F'
  | false =>
    simp only [Bool.not_false, if_true]
    dsimp only at ht
    have body : wpAny (model prog w) A (exec (.Assign [.Name (Str.ofString "text") p4] (.Call (.Attribute (.Name (Str.ofString "text") p5) (Str.ofString "replace") p6) [.Constant (.str c) 0 p7, .Constant (.str r) 0 p8] [] p9) p10) (envOf nm scope L a cd))
       (fun f s₂ => f = .next ∧ ∃ t', Behind h₀ L (fun y => if y = Str.ofString "text" then some (.str (Txt.replace x c r) t') else m y) news s s₂) E { s with heap := h', toks := tk } := by
      k_steps
      refine MethodCall_ (pl := pl) ?_ he
      refine ld (h₀ := h₀) ?fF hm ?_ hk hl
      case fF => exact F'
      k_steps
      refine SC.replaceW (by show tk ≠ 0; omega) (by show tk + 1 ≠ 0; omega) (by show tk ≠ tk + 1; omega) hcr (by omega) (by omega) ?_
      intro t' k'
      refine stN (h₀ := h₀) (m := m) (news := news) ?fF ?nN (fun h'' F'' N'' => ?_) hk hl
      case fF => exact F'
      case nN => exact N'
      exact ⟨trivial, t', Behind.intro F'' N''⟩
    refine wpAny_execs_cons (wpAny_mono (wpAny_toks_of (n := 1) ht body) (fun f s₂ hb => ?_) fun _ _ x => x.2)
    obtain ⟨ht2, rfl, t', h'', tk'', rfl, F'', N''⟩ := hb
    refine wpAny_execs_nil (h t' h'' tk'' ht2 ?_ N'')
    rw [hc, replace_rpl, hz, hx] at F''
    exact F''
end Mine
end
section
example : True := by w_top off; trivial
open PySem PySem.W PyProof.Rows
namespace Mine
theorem execs_cons1 {M : Model} {A : Around} {E : Value → Shared → Prop} {s : Shared} {env : Env} {st : Stmt} {rest : List Stmt} {Q : Flow → Shared → Prop} (h1 : 1 ≤ s.toks)
    (h : wpAny M A (exec st env) (fun f s' => 1 ≤ s'.toks → match f with | .next => wpAny M A (execs rest env) Q E s' | f => Q f s') E s) : wpAny M A (execs (st :: rest) env) Q E s :=
  wpAny_execs_cons (wpAny_with_toks h1 (wpAny_mono h (fun _ _ x => x) (fun _ _ e _ => e)))
theorem gen_tk {α : Type} {M : Model} {A : Around} {E : Value → Shared → Prop} {t : Sem α} {Q : α → Shared → Prop} {h : Heap} {g : Array GenState} {d : Drawn} {X : Nat} {os : OsState} (hX : 1 ≤ X) (hh : ∀ tk, 1 ≤ tk → wpAny M A t Q E ⟨h, g, d, tk, os⟩) : wpAny M A t Q E ⟨h, g, d, X, os⟩ := hh X hX
theorem done_spell (h n : Nat) (hh : h < 5) (hn : (ord h).length ≤ n) (x : Str) : ofL (chain ((ord h).take n) (sg x)) = spellS h x := by
  rw [List.take_of_length_le hn, chain_spell h hh]; rfl
theorem chain_take (h n : Nat) {k : Nat} {z l : List Nat} (hp : (ord h)[n]? = some (k, z)) : chain ((ord h).take (n + 1)) l = rpl k z (chain ((ord h).take n) l) := by
  rw [List.take_add_one, hp]
  unfold chain
  rw [List.foldl_append]; rfl
theorem esc_step {prog : Program} {w : World} {A : Around} {E : Value → Shared → Prop} {s : Shared} {nm : Str} {scope : Scope} {L a : Addr} {cd : Value} {h₀ : Heap} {m : Str → Option Value} {news : List (Addr × Obj)} {c r : Str} {l : List Nat} {t : Tok} {p1 p2 p3 p4 p5 p6 p7 p8 p9 p10 p11 : Pos}
    {pl : Sem Bool} {Q : Flow → Shared → Prop} (hand n : Nat) (F : Fr h₀ L s.heap m) (N : News h₀ L s.heap news) (KX : (hd.heap_1 w.params).In h₀) (hm : m (Str.ofString "text") = some (.str (ofL (chain ((ord hand).take n) l)) t)) (hh : hand < 5) (hl1 : l.length ≤ 100000)
    (hp : (ord hand)[n]? = some (c.cps.getD 0 0, sg r)) (hc : c = ⟨#[c.cps.getD 0 0]⟩)
    (hk : scope.kind = .function) (hl : (envOf nm scope L a cd).kindOf (Str.ofString "text") = some .local) (h1 : 1 ≤ s.toks)
    (h : ∀ t' h' tk', 1 ≤ tk' → Fr h₀ L h' (fun y => if y = Str.ofString "text" then some (.str (ofL (chain ((ord hand).take (n + 1)) l)) t') else m y) → News h₀ L h' news → Q .next { s with heap := h', toks := tk' })
    (he : eval (.Call (.Attribute (.Name (Str.ofString "text") p5) (Str.ofString "replace") p6) [.Constant (.str c) 0 p7, .Constant (.str r) 0 p8] [] p9) (envOf nm scope L a cd) = (do
      let ov ← eval (.Name (Str.ofString "text") p5) (envOf nm scope L a cd)
      standAt p6.atName
      let (f, first) ← holding [ov] (getMethod ov (Str.ofString "replace") pl)
      callWith p9 f first (backTo p9 (starEach [.Constant (.str c) 0 p7, .Constant (.str r) 0 p8] (envOf nm scope L a cd))) []) := by rfl) :
    wpAny (model prog w) A (exec (.If (.Compare (.Constant (.str c) 0 p1) [.In] [.Name (Str.ofString "text") p2] p3) [.Assign [.Name (Str.ofString "text") p4] (.Call (.Attribute (.Name (Str.ofString "text") p5) (Str.ofString "replace") p6) [.Constant (.str c) 0 p7, .Constant (.str r) 0 p8] [] p9) p10] [] p11) (envOf nm scope L a cd)) Q E s := by
  have hall : ∀ h < 5, ∀ p ∈ ord h, 2 ≤ p.2.length ∧ p.2.length ≤ 6 := by decide +kernel
  have hall := hall hand hh _ (List.mem_of_getElem? hp)
  refine esc_if F N KX hm hc rfl rfl ?_ hall.2 hall.1 hk hl h1 (fun t' h' tk' h1' F' N' => ?_) he
  · have := part_len hand hh n l
    rw [sg_ofL]; omega
  · refine h t' h' tk' h1' ?_ N'
    rw [chain_take hand n hp]; exact F'

set_option maxRecDepth 100000 in
set_option maxHeartbeats 8000000 in
theorem does_cdata (w : World) (news : List (Addr × Obj)) (x : Str) (tx : Tok) (hx : (sg x).length ≤ 100000) : Does w 91 1 news [.str x tx] (fun r tl => tl = news ∧ ∃ t, r = .str (spellS 0 x) t) := by
  intro mean mg mb dp un gd cn cs a ccd cl outer A₀ base h₀ L m s Q E B F X N T hk hd hu ret
  refine wpAny_call ?_
  k_dflt cell_enter
  refine gen_tk (by exact Nat.le_add_left 1 _) fun tk htk => ?_
  refine execs_cons1 (by assumption) ?_
  refine wpAny_Try_except ?_
  refine execs_cons1 (by assumption) ?_
  k_dflt (refine' esc_step 0 0 ?zF ?zN ?zx ?zm (by decide) hx ?zp ?zc ?zk ?zq ?z1 ?_ ?ze)
  case zF => k_asm
  case zN => k_asm
  case zx => k_asm
  case zm => rfl
  case zp => decide +kernel
  case zc => decide +kernel
  case zk => rfl
  case zq => rfl
  case z1 => assumption
  case ze => rfl
  intro t0 h0 tk0 ht0 F0 N0 hu0
  dsimp only
  refine execs_cons1 (by assumption) ?_
  k_dflt (refine' esc_step 0 1 ?zF ?zN ?zx ?zm (by decide) hx ?zp ?zc ?zk ?zq ?z1 ?_ ?ze)
  case zF => k_asm
  case zN => k_asm
  case zx => k_asm
  case zm => rfl
  case zp => decide +kernel
  case zc => decide +kernel
  case zk => rfl
  case zq => rfl
  case z1 => assumption
  case ze => rfl
  intro t1 h1 tk1 ht1 F1 N1 hu1
  dsimp only
  refine execs_cons1 (by assumption) ?_
  k_dflt (refine' esc_step 0 2 ?zF ?zN ?zx ?zm (by decide) hx ?zp ?zc ?zk ?zq ?z1 ?_ ?ze)
  case zF => k_asm
  case zN => k_asm
  case zx => k_asm
  case zm => rfl
  case zp => decide +kernel
  case zc => decide +kernel
  case zk => rfl
  case zq => rfl
  case z1 => assumption
  case ze => rfl
  intro t2 h2 tk2 ht2 F2 N2 hu2
  dsimp only
  k_steps
  refine ret _ _ _ _ ⟨rfl, t2, ?_⟩ (by k_asm) (by k_asm)
  exact congrArg (fun y => Value.str y t2) (done_spell 0 3 (by decide) (by decide) x)
set_option maxRecDepth 100000 in
set_option maxHeartbeats 8000000 in
theorem does_c14n (w : World) (news : List (Addr × Obj)) (x : Str) (tx : Tok) (hx : (sg x).length ≤ 100000) : Does w 112 1 news [.str x tx] (fun r tl => tl = news ∧ ∃ t, r = .str (spellS 1 x) t) := by
  intro mean mg mb dp un gd cn cs a ccd cl outer A₀ base h₀ L m s Q E B F X N T hk hd hu ret
  refine wpAny_call ?_
  k_dflt cell_enter
  refine gen_tk (by exact Nat.le_add_left 1 _) fun tk htk => ?_
  refine execs_cons1 (by assumption) ?_
  refine wpAny_Try_except ?_
  refine execs_cons1 (by assumption) ?_
  k_dflt (refine' esc_step 1 0 ?zF ?zN ?zx ?zm (by decide) hx ?zp ?zc ?zk ?zq ?z1 ?_ ?ze)
  case zF => k_asm
  case zN => k_asm
  case zx => k_asm
  case zm => rfl
  case zp => decide +kernel
  case zc => decide +kernel
  case zk => rfl
  case zq => rfl
  case z1 => assumption
  case ze => rfl
  intro t0 h0 tk0 ht0 F0 N0 hu0
  dsimp only
  refine execs_cons1 (by assumption) ?_
  k_dflt (refine' esc_step 1 1 ?zF ?zN ?zx ?zm (by decide) hx ?zp ?zc ?zk ?zq ?z1 ?_ ?ze)
  case zF => k_asm
  case zN => k_asm
  case zx => k_asm
  case zm => rfl
  case zp => decide +kernel
  case zc => decide +kernel
  case zk => rfl
  case zq => rfl
  case z1 => assumption
  case ze => rfl
  intro t1 h1 tk1 ht1 F1 N1 hu1
  dsimp only
  refine execs_cons1 (by assumption) ?_
  k_dflt (refine' esc_step 1 2 ?zF ?zN ?zx ?zm (by decide) hx ?zp ?zc ?zk ?zq ?z1 ?_ ?ze)
  case zF => k_asm
  case zN => k_asm
  case zx => k_asm
  case zm => rfl
  case zp => decide +kernel
  case zc => decide +kernel
  case zk => rfl
  case zq => rfl
  case z1 => assumption
  case ze => rfl
  intro t2 h2 tk2 ht2 F2 N2 hu2
  dsimp only
  refine execs_cons1 (by assumption) ?_
  k_dflt (refine' esc_step 1 3 ?zF ?zN ?zx ?zm (by decide) hx ?zp ?zc ?zk ?zq ?z1 ?_ ?ze)
  case zF => k_asm
  case zN => k_asm
  case zx => k_asm
  case zm => rfl
  case zp => decide +kernel
  case zc => decide +kernel
  case zk => rfl
  case zq => rfl
  case z1 => assumption
  case ze => rfl
  intro t3 h3 tk3 ht3 F3 N3 hu3
  dsimp only
  k_steps
  refine ret _ _ _ _ ⟨rfl, t3, ?_⟩ (by k_asm) (by k_asm)
  exact congrArg (fun y => Value.str y t3) (done_spell 1 4 (by decide) (by decide) x)
set_option maxRecDepth 100000 in
set_option maxHeartbeats 8000000 in
theorem does_attrib (w : World) (news : List (Addr × Obj)) (x : Str) (tx : Tok) (hx : (sg x).length ≤ 100000) : Does w 98 1 news [.str x tx] (fun r tl => tl = news ∧ ∃ t, r = .str (spellS 2 x) t) := by
  intro mean mg mb dp un gd cn cs a ccd cl outer A₀ base h₀ L m s Q E B F X N T hk hd hu ret
  refine wpAny_call ?_
  k_dflt cell_enter
  refine gen_tk (by exact Nat.le_add_left 1 _) fun tk htk => ?_
  refine execs_cons1 (by assumption) ?_
  refine wpAny_Try_except ?_
  refine execs_cons1 (by assumption) ?_
  k_dflt (refine' esc_step 2 0 ?zF ?zN ?zx ?zm (by decide) hx ?zp ?zc ?zk ?zq ?z1 ?_ ?ze)
  case zF => k_asm
  case zN => k_asm
  case zx => k_asm
  case zm => rfl
  case zp => decide +kernel
  case zc => decide +kernel
  case zk => rfl
  case zq => rfl
  case z1 => assumption
  case ze => rfl
  intro t0 h0 tk0 ht0 F0 N0 hu0
  dsimp only
  refine execs_cons1 (by assumption) ?_
  k_dflt (refine' esc_step 2 1 ?zF ?zN ?zx ?zm (by decide) hx ?zp ?zc ?zk ?zq ?z1 ?_ ?ze)
  case zF => k_asm
  case zN => k_asm
  case zx => k_asm
  case zm => rfl
  case zp => decide +kernel
  case zc => decide +kernel
  case zk => rfl
  case zq => rfl
  case z1 => assumption
  case ze => rfl
  intro t1 h1 tk1 ht1 F1 N1 hu1
  dsimp only
  refine execs_cons1 (by assumption) ?_
  k_dflt (refine' esc_step 2 2 ?zF ?zN ?zx ?zm (by decide) hx ?zp ?zc ?zk ?zq ?z1 ?_ ?ze)
  case zF => k_asm
  case zN => k_asm
  case zx => k_asm
  case zm => rfl
  case zp => decide +kernel
  case zc => decide +kernel
  case zk => rfl
  case zq => rfl
  case z1 => assumption
  case ze => rfl
  intro t2 h2 tk2 ht2 F2 N2 hu2
  dsimp only
  refine execs_cons1 (by assumption) ?_
  k_dflt (refine' esc_step 2 3 ?zF ?zN ?zx ?zm (by decide) hx ?zp ?zc ?zk ?zq ?z1 ?_ ?ze)
  case zF => k_asm
  case zN => k_asm
  case zx => k_asm
  case zm => rfl
  case zp => decide +kernel
  case zc => decide +kernel
  case zk => rfl
  case zq => rfl
  case z1 => assumption
  case ze => rfl
  intro t3 h3 tk3 ht3 F3 N3 hu3
  dsimp only
  refine execs_cons1 (by assumption) ?_
  k_dflt (refine' esc_step 2 4 ?zF ?zN ?zx ?zm (by decide) hx ?zp ?zc ?zk ?zq ?z1 ?_ ?ze)
  case zF => k_asm
  case zN => k_asm
  case zx => k_asm
  case zm => rfl
  case zp => decide +kernel
  case zc => decide +kernel
  case zk => rfl
  case zq => rfl
  case z1 => assumption
  case ze => rfl
  intro t4 h4 tk4 ht4 F4 N4 hu4
  dsimp only
  refine execs_cons1 (by assumption) ?_
  k_dflt (refine' esc_step 2 5 ?zF ?zN ?zx ?zm (by decide) hx ?zp ?zc ?zk ?zq ?z1 ?_ ?ze)
  case zF => k_asm
  case zN => k_asm
  case zx => k_asm
  case zm => rfl
  case zp => decide +kernel
  case zc => decide +kernel
  case zk => rfl
  case zq => rfl
  case z1 => assumption
  case ze => rfl
  intro t5 h5 tk5 ht5 F5 N5 hu5
  dsimp only
  refine execs_cons1 (by assumption) ?_
  k_dflt (refine' esc_step 2 6 ?zF ?zN ?zx ?zm (by decide) hx ?zp ?zc ?zk ?zq ?z1 ?_ ?ze)
  case zF => k_asm
  case zN => k_asm
  case zx => k_asm
  case zm => rfl
  case zp => decide +kernel
  case zc => decide +kernel
  case zk => rfl
  case zq => rfl
  case z1 => assumption
  case ze => rfl
  intro t6 h6 tk6 ht6 F6 N6 hu6
  dsimp only
  k_steps
  refine ret _ _ _ _ ⟨rfl, t6, ?_⟩ (by k_asm) (by k_asm)
  exact congrArg (fun y => Value.str y t6) (done_spell 2 7 (by decide) (by decide) x)
set_option maxRecDepth 100000 in
set_option maxHeartbeats 8000000 in
theorem does_attrc14n (w : World) (news : List (Addr × Obj)) (x : Str) (tx : Tok) (hx : (sg x).length ≤ 100000) : Does w 119 1 news [.str x tx] (fun r tl => tl = news ∧ ∃ t, r = .str (spellS 3 x) t) := by
  intro mean mg mb dp un gd cn cs a ccd cl outer A₀ base h₀ L m s Q E B F X N T hk hd hu ret
  refine wpAny_call ?_
  k_dflt cell_enter
  refine gen_tk (by exact Nat.le_add_left 1 _) fun tk htk => ?_
  refine execs_cons1 (by assumption) ?_
  refine wpAny_Try_except ?_
  refine execs_cons1 (by assumption) ?_
  k_dflt (refine' esc_step 3 0 ?zF ?zN ?zx ?zm (by decide) hx ?zp ?zc ?zk ?zq ?z1 ?_ ?ze)
  case zF => k_asm
  case zN => k_asm
  case zx => k_asm
  case zm => rfl
  case zp => decide +kernel
  case zc => decide +kernel
  case zk => rfl
  case zq => rfl
  case z1 => assumption
  case ze => rfl
  intro t0 h0 tk0 ht0 F0 N0 hu0
  dsimp only
  refine execs_cons1 (by assumption) ?_
  k_dflt (refine' esc_step 3 1 ?zF ?zN ?zx ?zm (by decide) hx ?zp ?zc ?zk ?zq ?z1 ?_ ?ze)
  case zF => k_asm
  case zN => k_asm
  case zx => k_asm
  case zm => rfl
  case zp => decide +kernel
  case zc => decide +kernel
  case zk => rfl
  case zq => rfl
  case z1 => assumption
  case ze => rfl
  intro t1 h1 tk1 ht1 F1 N1 hu1
  dsimp only
  refine execs_cons1 (by assumption) ?_
  k_dflt (refine' esc_step 3 2 ?zF ?zN ?zx ?zm (by decide) hx ?zp ?zc ?zk ?zq ?z1 ?_ ?ze)
  case zF => k_asm
  case zN => k_asm
  case zx => k_asm
  case zm => rfl
  case zp => decide +kernel
  case zc => decide +kernel
  case zk => rfl
  case zq => rfl
  case z1 => assumption
  case ze => rfl
  intro t2 h2 tk2 ht2 F2 N2 hu2
  dsimp only
  refine execs_cons1 (by assumption) ?_
  k_dflt (refine' esc_step 3 3 ?zF ?zN ?zx ?zm (by decide) hx ?zp ?zc ?zk ?zq ?z1 ?_ ?ze)
  case zF => k_asm
  case zN => k_asm
  case zx => k_asm
  case zm => rfl
  case zp => decide +kernel
  case zc => decide +kernel
  case zk => rfl
  case zq => rfl
  case z1 => assumption
  case ze => rfl
  intro t3 h3 tk3 ht3 F3 N3 hu3
  dsimp only
  refine execs_cons1 (by assumption) ?_
  k_dflt (refine' esc_step 3 4 ?zF ?zN ?zx ?zm (by decide) hx ?zp ?zc ?zk ?zq ?z1 ?_ ?ze)
  case zF => k_asm
  case zN => k_asm
  case zx => k_asm
  case zm => rfl
  case zp => decide +kernel
  case zc => decide +kernel
  case zk => rfl
  case zq => rfl
  case z1 => assumption
  case ze => rfl
  intro t4 h4 tk4 ht4 F4 N4 hu4
  dsimp only
  refine execs_cons1 (by assumption) ?_
  k_dflt (refine' esc_step 3 5 ?zF ?zN ?zx ?zm (by decide) hx ?zp ?zc ?zk ?zq ?z1 ?_ ?ze)
  case zF => k_asm
  case zN => k_asm
  case zx => k_asm
  case zm => rfl
  case zp => decide +kernel
  case zc => decide +kernel
  case zk => rfl
  case zq => rfl
  case z1 => assumption
  case ze => rfl
  intro t5 h5 tk5 ht5 F5 N5 hu5
  dsimp only
  k_steps
  refine ret _ _ _ _ ⟨rfl, t5, ?_⟩ (by k_asm) (by k_asm)
  exact congrArg (fun y => Value.str y t5) (done_spell 3 6 (by decide) (by decide) x)
set_option maxRecDepth 100000 in
set_option maxHeartbeats 8000000 in
theorem does_html (w : World) (news : List (Addr × Obj)) (x : Str) (tx : Tok) (hx : (sg x).length ≤ 100000) : Does w 105 1 news [.str x tx] (fun r tl => tl = news ∧ ∃ t, r = .str (spellS 4 x) t) := by
  intro mean mg mb dp un gd cn cs a ccd cl outer A₀ base h₀ L m s Q E B F X N T hk hd hu ret
  refine wpAny_call ?_
  k_dflt cell_enter
  refine gen_tk (by exact Nat.le_add_left 1 _) fun tk htk => ?_
  refine execs_cons1 (by assumption) ?_
  refine wpAny_Try_except ?_
  refine execs_cons1 (by assumption) ?_
  k_dflt (refine' esc_step 4 0 ?zF ?zN ?zx ?zm (by decide) hx ?zp ?zc ?zk ?zq ?z1 ?_ ?ze)
  case zF => k_asm
  case zN => k_asm
  case zx => k_asm
  case zm => rfl
  case zp => decide +kernel
  case zc => decide +kernel
  case zk => rfl
  case zq => rfl
  case z1 => assumption
  case ze => rfl
  intro t0 h0 tk0 ht0 F0 N0 hu0
  dsimp only
  refine execs_cons1 (by assumption) ?_
  k_dflt (refine' esc_step 4 1 ?zF ?zN ?zx ?zm (by decide) hx ?zp ?zc ?zk ?zq ?z1 ?_ ?ze)
  case zF => k_asm
  case zN => k_asm
  case zx => k_asm
  case zm => rfl
  case zp => decide +kernel
  case zc => decide +kernel
  case zk => rfl
  case zq => rfl
  case z1 => assumption
  case ze => rfl
  intro t1 h1 tk1 ht1 F1 N1 hu1
  dsimp only
  refine execs_cons1 (by assumption) ?_
  k_dflt (refine' esc_step 4 2 ?zF ?zN ?zx ?zm (by decide) hx ?zp ?zc ?zk ?zq ?z1 ?_ ?ze)
  case zF => k_asm
  case zN => k_asm
  case zx => k_asm
  case zm => rfl
  case zp => decide +kernel
  case zc => decide +kernel
  case zk => rfl
  case zq => rfl
  case z1 => assumption
  case ze => rfl
  intro t2 h2 tk2 ht2 F2 N2 hu2
  dsimp only
  k_steps
  refine ret _ _ _ _ ⟨rfl, t2, ?_⟩ (by k_asm) (by k_asm)
  exact congrArg (fun y => Value.str y t2) (done_spell 4 3 (by decide) (by decide) x)
end Mine
end
section
example : True := by w_top off; trivial
open PySem PySem.W PyProof.Rows
namespace Mine
noncomputable def subc (x y : Str) : Int := if x = y then 0 else if Txt.lower x = Txt.lower y then 1 else 2
set_option maxRecDepth 100000 in
set_option maxHeartbeats 8000000 in
theorem does_sub (w : World) (news : List (Addr × Obj)) (x y : Str) (tx ty : Tok) (hx : x.length ≤ 1000) (hy : y.length ≤ 1000) : Does w 28 1 news [.str x tx, .str y ty] (fun r tl => tl = news ∧ ∃ t, r = .int (subc x y) t) := by
  intro mean mg mb dp un gd cn cs a ccd cl outer A₀ base h₀ L m s Q E B F X N T hk hd hu ret
  refine wpAny_call ?_
  k_dflt cell_enter
  k_steps
  all_goals
    refine ret _ _ _ _ ⟨rfl, _, eqI ?_⟩ (by k_asm) (by k_asm)
    unfold subc
    simp_all
set_option maxRecDepth 100000 in
set_option maxHeartbeats 8000000 in
theorem does_bare (w : World) (news : List (Addr × Obj)) (c : Int) (tc : Tok) (h0 : 0 ≤ c) (h1 : c < 2 ^ 40) : Does w 133 1 news [.int c tc]
   (fun r tl => tl = news ∧ ∃ t, r = .str (Txt.item (Str.ofString "aA&<>\"\\ \t\n\r;") (c.fmod 12) ++ Txt.item (Str.ofString "aA&<>\"\\ \t\n\r;") ((c.fdiv 12).fmod 12) ++ Txt.item (Str.ofString "aA&<>\"\\ \t\n\r;") ((c.fdiv 144).fmod 12)) t) := by
  intro mean mg mb dp un gd cn cs a ccd cl outer A₀ base h₀ L m s Q E B F X N T hk hd hu ret
  refine wpAny_call ?_
  k_dflt cell_enter
  k_steps
  exact ret _ _ _ _ ⟨rfl, _, rfl⟩ (by k_asm) (by k_asm)
end Mine
end
section
example : True := by w_top off; trivial
open PySem PySem.W PyProof.Rows
namespace Mine
local macro_rules | `(tactic| walk_at "call ref") => `(tactic| (k_here; k_search (does_cdata _ _ _ _ ?zb); (case zb => assumption); walk_at "used"))
local macro_rules | `(tactic| walk_at "call ref") => `(tactic| (k_here; k_search (does_c14n _ _ _ _ ?zb); (case zb => assumption); walk_at "used"))
local macro_rules | `(tactic| walk_at "call ref") => `(tactic| (k_here; k_search (does_attrib _ _ _ _ ?zb); (case zb => assumption); walk_at "used"))
local macro_rules | `(tactic| walk_at "call ref") => `(tactic| (k_here; k_search (does_attrc14n _ _ _ _ ?zb); (case zb => assumption); walk_at "used"))
local macro_rules | `(tactic| walk_at "call ref") => `(tactic| (k_here; k_search (does_html _ _ _ _ ?zb); (case zb => assumption); walk_at "used"))
set_option maxRecDepth 100000 in
set_option maxHeartbeats 8000000 in
theorem does_write0 (w : World) (news : List (Addr × Obj)) (x : Str) (tc tx : Tok) (hx : (sg x).length ≤ 100000) : Does w 159 2 news [.int 0 tc, .str x tx] (fun r tl => tl = news ∧ ∃ t, r = .str (spellS 0 x) t) := by
  intro mean mg mb dp un gd cn cs a ccd cl outer A₀ base h₀ L m s Q E B F X N T hk hd hu ret
  refine wpAny_call ?_
  k_dflt cell_enter
  k_steps
  exact ret _ news _ _ ⟨rfl, _, rfl⟩ (by k_asm) (by first | k_asm | (refine' cb_drop ?cbN ?cbS; (case cbN => assumption); (case cbS => (intro p hp; (repeat (first | exact hp | apply List.Mem.tail))))))
set_option maxRecDepth 100000 in
set_option maxHeartbeats 8000000 in
theorem does_write1 (w : World) (news : List (Addr × Obj)) (x : Str) (tc tx : Tok) (hx : (sg x).length ≤ 100000) : Does w 159 2 news [.int 1 tc, .str x tx] (fun r tl => tl = news ∧ ∃ t, r = .str (spellS 1 x) t) := by
  intro mean mg mb dp un gd cn cs a ccd cl outer A₀ base h₀ L m s Q E B F X N T hk hd hu ret
  refine wpAny_call ?_
  k_dflt cell_enter
  k_steps
  exact ret _ news _ _ ⟨rfl, _, rfl⟩ (by k_asm) (by first | k_asm | (refine' cb_drop ?cbN ?cbS; (case cbN => assumption); (case cbS => (intro p hp; (repeat (first | exact hp | apply List.Mem.tail))))))
set_option maxRecDepth 100000 in
set_option maxHeartbeats 8000000 in
theorem does_write2 (w : World) (news : List (Addr × Obj)) (x : Str) (tc tx : Tok) (hx : (sg x).length ≤ 100000) : Does w 159 2 news [.int 2 tc, .str x tx] (fun r tl => tl = news ∧ ∃ t, r = .str (spellS 2 x) t) := by
  intro mean mg mb dp un gd cn cs a ccd cl outer A₀ base h₀ L m s Q E B F X N T hk hd hu ret
  refine wpAny_call ?_
  k_dflt cell_enter
  k_steps
  exact ret _ news _ _ ⟨rfl, _, rfl⟩ (by k_asm) (by first | k_asm | (refine' cb_drop ?cbN ?cbS; (case cbN => assumption); (case cbS => (intro p hp; (repeat (first | exact hp | apply List.Mem.tail))))))
set_option maxRecDepth 100000 in
set_option maxHeartbeats 8000000 in
theorem does_write3 (w : World) (news : List (Addr × Obj)) (x : Str) (tc tx : Tok) (hx : (sg x).length ≤ 100000) : Does w 159 2 news [.int 3 tc, .str x tx] (fun r tl => tl = news ∧ ∃ t, r = .str (spellS 3 x) t) := by
  intro mean mg mb dp un gd cn cs a ccd cl outer A₀ base h₀ L m s Q E B F X N T hk hd hu ret
  refine wpAny_call ?_
  k_dflt cell_enter
  k_steps
  exact ret _ news _ _ ⟨rfl, _, rfl⟩ (by k_asm) (by first | k_asm | (refine' cb_drop ?cbN ?cbS; (case cbN => assumption); (case cbS => (intro p hp; (repeat (first | exact hp | apply List.Mem.tail))))))
set_option maxRecDepth 100000 in
set_option maxHeartbeats 8000000 in
theorem does_write4 (w : World) (news : List (Addr × Obj)) (x : Str) (tc tx : Tok) (hx : (sg x).length ≤ 100000) : Does w 159 2 news [.int 4 tc, .str x tx] (fun r tl => tl = news ∧ ∃ t, r = .str (spellS 4 x) t) := by
  intro mean mg mb dp un gd cn cs a ccd cl outer A₀ base h₀ L m s Q E B F X N T hk hd hu ret
  refine wpAny_call ?_
  k_dflt cell_enter
  k_steps
  exact ret _ news _ _ ⟨rfl, _, rfl⟩ (by k_asm) (by first | k_asm | (refine' cb_drop ?cbN ?cbS; (case cbN => assumption); (case cbS => (intro p hp; (repeat (first | exact hp | apply List.Mem.tail))))))
theorem does_write (w : World) (news : List (Addr × Obj)) (c : Int) (x : Str) (tc tx : Tok) (h0 : 0 ≤ c) (h5 : c < 5) (hx : (sg x).length ≤ 100000) : Does w 159 2 news [.int c tc, .str x tx] (fun r tl => tl = news ∧ ∃ t, r = .str (spellS c.toNat x) t) := by
  have : c = 0 ∨ c = 1 ∨ c = 2 ∨ c = 3 ∨ c = 4 := by omega
  rcases this with rfl | rfl | rfl | rfl | rfl
  · exact does_write0 w news x tc tx hx
  · exact does_write1 w news x tc tx hx
  · exact does_write2 w news x tc tx hx
  · exact does_write3 w news x tc tx hx
  · exact does_write4 w news x tc tx hx
end Mine
end
section
example : True := by w_top off; trivial
open PySem PySem.W PyProof.Rows PyProof.Rows.LCg
namespace Mine
section
variable {prog : Program} {w : World} {A : Around} {E : Value → Shared → Prop} {s : Shared} {h₀ : Heap} {L : Addr} {m : Str → Option Value} {env : Env}

/-- what a source of a comprehension is told to be: an iterator that walks; no test -/
inductive Src (prog : Program) (w : World) (A : Around) (h₀ : Heap) (L : Addr) (m : Str → Option Value) (env : Env) (elt : Expr) (x : Str) (scope : Scope) (cl : List (Str × Addr)) (Q : Value → Shared → Prop) (it : Value) (s₂ : Shared) : Prop
  | mk (I : Addr) (fp : List Addr) (n : Nat) (P : Nat → Value → Prop) (St : Nat → Heap → Prop) (S : List (Addr × Obj) → Prop) (news : List (Addr × Obj)) (h1 : it = .ref I) (h2 : Walks prog w A I fp [I] n P St) (h3 : n ≤ sizeLine) (h4 : (∀ i h, St i h → ∃ o, h.get? I = some o)) (h5 : (∀ i h h' o nw, St i h → h.get? I = some o → h'.get? I = some o → (∀ b o, h₀.get? b = some o → h'.get? b = some o) → News h₀ L h' nw → S nw → St i h')) (h6 : St 0 s₂.heap) (h7 : (∀ b ∈ fp, b < s₂.heap.objs.size)) (h8 : Fr h₀ L s₂.heap m) (h9 : News h₀ L s₂.heap news) (h10 : L ≠ I) (h11 : h₀.get? I = none) (h12 : (∀ p ∈ news, p.1 ≠ I)) (h13 : S news) (h14 : CompRest prog w A h₀ L m env elt x scope cl s₂ S P (FinE h₀ L m s₂ Q) n 0 [] news) : Src prog w A h₀ L m env elt x scope cl Q it s₂
inductive SrcT (prog : Program) (w : World) (A : Around) (h₀ : Heap) (L : Addr) (m : Str → Option Value) (env : Env) (ct elt : Expr) (x : Str) (scope : Scope) (cl : List (Str × Addr)) (Q : Value → Shared → Prop) (it : Value) (s₂ : Shared) : Prop
  | mk (I : Addr) (fp : List Addr) (n : Nat) (P : Nat → Value → Prop) (St : Nat → Heap → Prop) (S : List (Addr × Obj) → Prop) (news : List (Addr × Obj)) (h1 : it = .ref I) (h2 : Walks prog w A I fp [I] n P St) (h3 : n ≤ sizeLine) (h4 : (∀ i h, St i h → ∃ o, h.get? I = some o)) (h5 : (∀ i h h' o nw, St i h → h.get? I = some o → h'.get? I = some o → (∀ b o, h₀.get? b = some o → h'.get? b = some o) → News h₀ L h' nw → S nw → St i h')) (h6 : St 0 s₂.heap) (h7 : (∀ b ∈ fp, b < s₂.heap.objs.size)) (h8 : Fr h₀ L s₂.heap m) (h9 : News h₀ L s₂.heap news) (h10 : L ≠ I) (h11 : h₀.get? I = none) (h12 : (∀ p ∈ news, p.1 ≠ I)) (h13 : S news) (h14 : LCt.CompRestT prog w A h₀ L m env ct elt x scope cl s₂ S P (FinE h₀ L m s₂ Q) n 0 [] news) : SrcT prog w A h₀ L m env ct elt x scope cl Q it s₂
theorem fin_of {D C : Addr} {ys : List Value} {news' : List (Addr × Obj)} {h h'' : Heap} (N' : News h₀ L h ((D, lst ys) :: news')) (hs : Heap.SameBut C h h'') (hCD : C ≠ D) (off : ∀ p ∈ news', p.1 ≠ C) : News h₀ L h'' ((D, lst ys) :: news') := fun p hp => by
  refine ⟨hs.extBut _ _ ?_ (N' p hp).1, (N' p hp).2⟩
  cases hp with
  | head => exact Ne.symm hCD
  | tail _ q => exact off p q

theorem comp_src {elt iter : Expr} {x : Str} {px : Pos} {scope : Scope} {cl : List (Str × Addr)} {pos : Pos} {Q : Value → Shared → Prop} (_F₀ : Fr h₀ L s.heap m)
    (hclos : closureFor scope env = pure cl) (hcell : ∀ y ∈ scope.names, y.2 ≠ .cell) (hkind : scope.kind = .function)
    (hnames : ∀ y ∈ scope.names, y.2 = .local → scope.names.lookup y.1 = some .local) (hx : scope.names.lookup x = some .local)
    (h : wpAny (model prog w) A (eval iter env) (fun xv s₁ => wpAny (model prog w) A (pyIter xv) (Src prog w A h₀ L m env elt x scope cl Q) E s₁) E s)
    (hs : ∀ x, foldedSetIterable iter env x = pure x := by intro _; rfl) :
    wpAny (model prog w) A (eval (.ListComp elt [⟨.Name x px, iter, [], 0⟩] scope pos) env) Q E s := by
  rw [eval_ListComp]
  refine wpAny_comprehension_free (use := none) rfl hs hclos hkind hnames (wpAny_mono h (fun xv s₁ h₁ => wpAny_mono h₁ (fun it s₂ h₂ => ?_) fun _ _ e => e) fun _ _ e => e)
  obtain ⟨I, fp, n, P, St, S, news, rfl, W, hsz, hIo, hSt, hst, hfp, F, N, hIL, hI₀, off, hS, R⟩ := h₂
  refine block_U W hsz hIo hSt hcell hkind hx hst hfp F N hIL hI₀ off hS R ?_
  intro D C h tk m' ys news' F' N' o1 hn hC₀ _ hCL _ hCD offC fin
  exact ⟨m', hn, fun h'' hs'' => fin D h'' tk (F'.change hs'' hCL hC₀) (fin_of N' hs'' hCD offC) o1⟩

theorem comp_srcT {ct elt iter : Expr} {x : Str} {px : Pos} {scope : Scope} {cl : List (Str × Addr)} {pos : Pos} {Q : Value → Shared → Prop} (_F₀ : Fr h₀ L s.heap m)
    (hclos : closureFor scope env = pure cl) (hcell : ∀ y ∈ scope.names, y.2 ≠ .cell) (hkind : scope.kind = .function)
    (hnames : ∀ y ∈ scope.names, y.2 = .local → scope.names.lookup y.1 = some .local) (hx : scope.names.lookup x = some .local)
    (h : wpAny (model prog w) A (eval iter env) (fun xv s₁ => wpAny (model prog w) A (pyIter xv) (SrcT prog w A h₀ L m env ct elt x scope cl Q) E s₁) E s)
    (hs : ∀ x, foldedSetIterable iter env x = pure x := by intro _; rfl) :
    wpAny (model prog w) A (eval (.ListComp elt [⟨.Name x px, iter, [ct], 0⟩] scope pos) env) Q E s := by
  rw [eval_ListComp]
  refine wpAny_comprehension_free (use := none) rfl hs hclos hkind hnames (wpAny_mono h (fun xv s₁ h₁ => wpAny_mono h₁ (fun it s₂ h₂ => ?_) fun _ _ e => e) fun _ _ e => e)
  obtain ⟨I, fp, n, P, St, S, news, rfl, W, hsz, hIo, hSt, hst, hfp, F, N, hIL, hI₀, off, hS, R⟩ := h₂
  refine LCt.block_T W hsz hIo hSt hcell hkind hx hst hfp F N hIL hI₀ off hS R ?_
  intro D C h tk m' ys news' F' N' o1 hn hC₀ _ hCL _ hCD offC fin
  exact ⟨m', hn, fun h'' hs'' => fin D h'' tk (F'.change hs'' hCL hC₀) (fin_of N' hs'' hCD offC) o1⟩

/-- a text as the source -/
theorem src_str {elt : Expr} {x : Str} {scope : Scope} {cl : List (Str × Addr)} {Q : Value → Shared → Prop} {y : Str} {t : Tok} {news : List (Addr × Obj)} (hh : A.handled = none) (F : Fr h₀ L s.heap m) (N : News h₀ L s.heap news) (hsz : y.length ≤ sizeLine)
    (R : ∀ h, CompRest prog w A h₀ L m env elt x scope cl { s with heap := h } (fun _ => True) (SignAt y) (FinE h₀ L m { s with heap := h } Q) y.cps.size 0 [] news) :
    wpAny (model prog w) A (pyIter (.str y t)) (Src prog w A h₀ L m env elt x scope cl Q) E s := by
  cases ha : y.cps.all (· < 128)
  · refine wpAny_pyIter_wide ha ⟨_, _, _, _, _, (fun _ => True), news, rfl, Walks.strWide hh _ y t, hsz, (fun i h st => let ⟨o, e, _⟩ := st; ⟨o, e⟩), ?_, ⟨_, Heap.get?_push_size _ rfl, rfl, rfl⟩, ?_, F.push _, N.grown (fun _ _ e => Heap.get?_push_of_some _ e), Nat.ne_of_lt F.ns.lt, next_is_new F, (fun p hp => Nat.ne_of_lt (Heap.lt_size (N p hp).1)), trivial, R _⟩
    · intro i h h' o nw st e e' _ _ _
      obtain ⟨o', q, r⟩ := st
      rw [e] at q; cases q
      exact ⟨o, e', r⟩
    · intro b hb
      rw [List.mem_singleton.mp hb]
      show s.heap.objs.size < (s.heap.push _).objs.size
      rw [Heap.size_push]; exact Nat.lt_succ_self _
  · refine wpAny_pyIter_ascii ha ⟨_, _, _, _, _, (fun _ => True), news, rfl, Walks.strAscii hh _ y t, hsz, (fun i h st => let ⟨o, e, _⟩ := st; ⟨o, e⟩), ?_, ⟨_, Heap.get?_push_size _ rfl, rfl, rfl⟩, ?_, F.push _, N.grown (fun _ _ e => Heap.get?_push_of_some _ e), Nat.ne_of_lt F.ns.lt, next_is_new F, (fun p hp => Nat.ne_of_lt (Heap.lt_size (N p hp).1)), trivial, R _⟩
    · intro i h h' o nw st e e' _ _ _
      obtain ⟨o', q, r⟩ := st
      rw [e] at q; cases q
      exact ⟨o, e', r⟩
    · intro b hb
      rw [List.mem_singleton.mp hb]
      show s.heap.objs.size < (s.heap.push _).objs.size
      rw [Heap.size_push]; exact Nat.lt_succ_self _
theorem src_strT {ct elt : Expr} {x : Str} {scope : Scope} {cl : List (Str × Addr)} {Q : Value → Shared → Prop} {y : Str} {t : Tok} {news : List (Addr × Obj)} (hh : A.handled = none) (F : Fr h₀ L s.heap m) (N : News h₀ L s.heap news) (hsz : y.length ≤ sizeLine)
    (R : ∀ h, LCt.CompRestT prog w A h₀ L m env ct elt x scope cl { s with heap := h } (fun _ => True) (SignAt y) (FinE h₀ L m { s with heap := h } Q) y.cps.size 0 [] news) :
    wpAny (model prog w) A (pyIter (.str y t)) (SrcT prog w A h₀ L m env ct elt x scope cl Q) E s := by
  cases ha : y.cps.all (· < 128)
  · refine wpAny_pyIter_wide ha ⟨_, _, _, _, _, (fun _ => True), news, rfl, Walks.strWide hh _ y t, hsz, (fun i h st => let ⟨o, e, _⟩ := st; ⟨o, e⟩), ?_, ⟨_, Heap.get?_push_size _ rfl, rfl, rfl⟩, ?_, F.push _, N.grown (fun _ _ e => Heap.get?_push_of_some _ e), Nat.ne_of_lt F.ns.lt, next_is_new F, (fun p hp => Nat.ne_of_lt (Heap.lt_size (N p hp).1)), trivial, R _⟩
    · intro i h h' o nw st e e' _ _ _
      obtain ⟨o', q, r⟩ := st
      rw [e] at q; cases q
      exact ⟨o, e', r⟩
    · intro b hb
      rw [List.mem_singleton.mp hb]
      show s.heap.objs.size < (s.heap.push _).objs.size
      rw [Heap.size_push]; exact Nat.lt_succ_self _
  · refine wpAny_pyIter_ascii ha ⟨_, _, _, _, _, (fun _ => True), news, rfl, Walks.strAscii hh _ y t, hsz, (fun i h st => let ⟨o, e, _⟩ := st; ⟨o, e⟩), ?_, ⟨_, Heap.get?_push_size _ rfl, rfl, rfl⟩, ?_, F.push _, N.grown (fun _ _ e => Heap.get?_push_of_some _ e), Nat.ne_of_lt F.ns.lt, next_is_new F, (fun p hp => Nat.ne_of_lt (Heap.lt_size (N p hp).1)), trivial, R _⟩
    · intro i h h' o nw st e e' _ _ _
      obtain ⟨o', q, r⟩ := st
      rw [e] at q; cases q
      exact ⟨o, e', r⟩
    · intro b hb
      rw [List.mem_singleton.mp hb]
      show s.heap.objs.size < (s.heap.push _).objs.size
      rw [Heap.size_push]; exact Nat.lt_succ_self _

/-- what a turn's value is told to be: a text of its own, the ledger as it was -/
noncomputable def OneText (g : Str) (news : List (Addr × Obj)) (y : Value) (news' : List (Addr × Obj)) : Prop := news' = news ∧ ∃ t : Tok, y = .str g t
/-- a text's signs one by one, each turned into a text -/
theorem rest_text {elt : Expr} {x : Str} {scope : Scope} {cl : List (Str × Addr)} {y : Str} {news : List (Addr × Obj)} {Fin : List Value → List (Addr × Obj) → Prop} (g : Nat → Str)
    (turn : ∀ c t I oI C oC D m₂ ys h tk (E' : Value → Shared → Prop), c ∈ sg y → NsObj oC m₂ → m₂ x = some (.str ⟨#[c]⟩ t) → Fr h₀ L h m → News h₀ L h ((I, oI) :: (C, oC) :: (D, lst ys) :: news) → Off3 I C D news → ((@Ne Nat I C) ∧ (@Ne Nat I D) ∧ (@Ne Nat C D)) →
      wpAny (model prog w) A (eval elt (compEnvC scope cl C env)) (CompEnd h₀ L m { s with heap := h, toks := tk } I oI C oC D (lst ys) (fun _ => True) (OneText (g c) news)) E' { s with heap := h, toks := tk })
    (fin : ∀ l : List (Str × Tok), l.map (·.1) = (sg y).map g → Fin (strValues l) news) :
    CompRest prog w A h₀ L m env elt x scope cl s (fun _ => True) (SignAt y) Fin y.cps.size 0 [] news := by
  have key : ∀ (j i : Nat) (l : List (Str × Tok)), i + j = y.cps.size → l.map (·.1) = ((sg y).take i).map g → CompRest prog w A h₀ L m env elt x scope cl s (fun _ => True) (SignAt y) Fin j i (strValues l) news := by
    intro j
    induction j with
    | zero =>
      intro i l hi hl
      have : (sg y).take i = sg y := List.take_of_length_le (by show y.cps.toList.length ≤ i; rw [Array.length_toList]; lia)
      rw [this] at hl
      exact CompRest.zero (fin l hl)
    | succ j ih =>
      intro i l hi hl
      refine CompRest.succ ?_
      intro v I oI C oC D m₂ h tk E' hv hC hx F N off ne
      obtain ⟨c, t, hc, rfl⟩ := hv
      have hc' : (sg y)[i]? = some c := by show y.cps.toList[i]? = some c; rw [Array.getElem?_toList]; exact hc
      refine wpAny_mono (turn c t I oI C oC D m₂ _ h tk E' (List.mem_of_getElem? hc') hC hx F N off ne) (fun r s₂ hq => ?_) fun _ _ e => e
      obtain ⟨h', tk', nw, e, F', N', off', hS, hn, t', hr⟩ := hq
      rw [hn] at N' off'
      refine ⟨h', tk', news, e, F', N', off', hS, ?_⟩
      rw [hr]
      have := ih (i + 1) (l ++ [(g c, t')]) (by lia) (by
        rw [List.map_append, hl, List.take_add_one, hc', List.map_append]; rfl)
      have e2 : strValues (l ++ [(g c, t')]) = strValues l ++ [.str (g c) t'] := by unfold strValues; rw [List.map_append]; rfl
      rwa [e2] at this
  exact key _ 0 [] (by lia) rfl

theorem join_nil_sg : ∀ ts : List Str, sg (Str.join ⟨#[]⟩ ts) = ts.flatMap sg
  | [] => rfl
  | [x] => by simp [Str.join]
  | x :: y :: r => by
    have ih := join_nil_sg (y :: r)
    show sg (x ++ ⟨#[]⟩ ++ Str.join ⟨#[]⟩ (y :: r)) = _
    rw [List.flatMap_cons, ← ih]
    simp [sg, Str.cps_append]
end
theorem slash_in {y : Str} {q : List Nat} {c : Nat} {b : Str} (hy : sg y = q) (hb : b = ⟨#[92]⟩) (h : (Builtin.Str.occurrences y ⟨#[c]⟩ 0 y.length 1).isEmpty = false) : b ++ ⟨#[c]⟩ = ofL (slash q c) := by
  have : c ∈ q := by rw [← hy]; exact (in_text y c).mp (by rw [h]; rfl)
  subst hb
  apply str_ext
  rw [sg_ofL]; unfold slash; rw [if_pos this]; rfl
theorem slash_out {y : Str} {q : List Nat} {c : Nat} (hy : sg y = q) (h : (Builtin.Str.occurrences y ⟨#[c]⟩ 0 y.length 1).isEmpty = true) : (⟨#[c]⟩ : Str) = ofL (slash q c) := by
  have : ¬ c ∈ q := by rw [← hy]; intro e; have := (in_text y c).mpr e; rw [h] at this; cases this
  unfold slash; rw [if_neg this]; rfl
/-- the texts of a comprehension joined -/
theorem join_here {prog : Program} {w : World} {A : Around} {E : Value → Shared → Prop} {s : Shared} {h₀ : Heap} {L D : Addr} {news : List (Addr × Obj)} {l : List (Str × Tok)} {k : Nat} {t : Tok} {Q : Value → Shared → Prop} {z : Str} {g : Nat → List Nat} {y : List Nat} (N : News h₀ L s.heap news) (hm : (D, ({ cls := .type "list", data := .seq (strValues l).toArray k } : Obj)) ∈ news) (hz : z = ⟨#[]⟩)
    (hl : l.map (·.1) = y.map (fun c => ofL (g c))) (hg : ∀ c, (g c).length ≤ 6) (hy : y.length ≤ 100000)
    (hq : ∀ t' k, Q (.str (ofL (y.flatMap g)) t') { s with toks := k }) : wpAny (model prog w) A (call (.builtin "str.join") [.str z t, .ref D]) Q E s := by
  subst hz
  have e : ∀ ts : List Nat, ((ts.map fun c => ofL (g c)).map fun x => x.length).sum ≤ 6 * ts.length := by
    intro ts
    induction ts with
    | nil => simp
    | cons c r ih => have := hg c; simp only [List.map_cons, List.sum_cons, List.length_cons, length_ofL] at ih ⊢; lia
  refine SC.join (l := l) (News.isList N hm) hl (joinOk_of_weight ?_ (by decide)) ?_
  · have := e y
    rw [List.length_map]; lia
  · intro t' k'
    have : Txt.join ⟨#[]⟩ (y.map fun c => ofL (g c)) = ofL (y.flatMap g) := by
      apply str_ext
      rw [sg_ofL]
      show sg (Builtin.Str.glued ⟨#[]⟩ _) = _
      rw [StrLaws.glued_eq_join, join_nil_sg, List.flatMap_map]
      rfl
    rw [this]
    exact hq t' k'
end Mine
end
section
local macro_rules | `(tactic| walk_at "eval ListComp") => `(tactic| (k_here; k_dflt (refine comp_src (by k_asm) (by with_unfolding_all rfl) (by decide) (by rfl) (by decide) (by rfl) ?_)))
local macro_rules | `(tactic| walk_at "pyIter str") => `(tactic| (k_here; (with_reducible show wpAny _ _ _ (Src _ _ _ _ _ _ _ _ _ _ _ _) _ _); refine Mark.out ?_))
section
example : True := by w_top off; trivial
open PySem PySem.W PyProof.Rows PyProof.Rows.LCg
namespace Mine
set_option maxRecDepth 100000 in
set_option maxHeartbeats 8000000 in
theorem does_dress (w : World) (news : List (Addr × Obj)) (c : Int) (x : Str) (tc tx : Tok) (h0 : 0 ≤ c) (h2 : c < 2) (hx : (sg x).length ≤ 100000) : Does w 164 1 news [.int c tc, .str x tx] (fun r tl => tl = news ∧ ∃ t, r = .str (dressS c.toNat x) t) := by
  intro mean mg mb dp un gd cn cs a ccd cl outer A₀ base h₀ L m s Q E B F X N T hk hd hu ret
  refine wpAny_call ?_
  k_dflt cell_enter
  k_steps
  · refine Mark.intro ?_
    refine src_str (by rfl) (by k_asm) (by k_asm) (by rw [length_sg, sizeLine_eq]; omega) (fun h => rest_text (fun c => ofL (slash qs1 c)) ?turn ?fin)
    case turn =>
      intro c t I oI C oC D m₂ ys h tk E' hc hC hx F N off ne
      k_steps
      all_goals refine CompEnd.intro (by assumption) (by assumption) news (fun p hp => hp) off trivial ⟨rfl, _, eqS ?_⟩
      all_goals first | (refine slash_in ?_ ?_ (by assumption) <;> decide +kernel) | (refine slash_out ?_ (by assumption) <;> decide +kernel)
    case fin =>
      intro l hl D h tk F N off
      dsimp only
      k_steps
      refine join_here (y := sg x) (g := slash qs1) (by k_asm) (by k_mem) (by decide +kernel) hl (fun c => Nat.le_trans (slash_len _ c) (by decide)) hx ?_
      intro t' k
      have hb : (ofL ((sg x).flatMap (slash qs1))).length ≤ 200000 := by
        rw [length_ofL]; have := Mine.flat_len (slash_len qs1) (sg x); omega
      dsimp only
      k_steps
      refine ret _ news _ _ ⟨rfl, _, eqS ?_⟩ (by k_asm) (by first | k_asm | (refine' cb_drop ?cbN ?cbS; (case cbN => assumption); (case cbS => (intro p hp; (repeat (first | exact hp | apply List.Mem.tail))))))
      have hc : c = 1 := by assumption
      subst hc
      apply str_ext
      unfold dressS dress
      rw [sg_ofL]
      simp only [sg, Str.cps_append, Array.toList_append]
      rfl
  · refine Mark.intro ?_
    refine src_str (by rfl) (by k_asm) (by k_asm) (by rw [length_sg, sizeLine_eq]; omega) (fun h => rest_text (fun c => ofL (slash qs0 c)) ?turn ?fin)
    case turn =>
      intro c t I oI C oC D m₂ ys h tk E' hc hC hx F N off ne
      k_steps
      all_goals refine CompEnd.intro (by assumption) (by assumption) news (fun p hp => hp) off trivial ⟨rfl, _, eqS ?_⟩
      all_goals first | (refine slash_in ?_ ?_ (by assumption) <;> decide +kernel) | (refine slash_out ?_ (by assumption) <;> decide +kernel)
    case fin =>
      intro l hl D h tk F N off
      dsimp only
      k_steps
      refine join_here (y := sg x) (g := slash qs0) (by k_asm) (by k_mem) (by decide +kernel) hl (fun c => Nat.le_trans (slash_len _ c) (by decide)) hx ?_
      intro t' k
      have hb : (ofL ((sg x).flatMap (slash qs0))).length ≤ 200000 := by
        rw [length_ofL]; have := Mine.flat_len (slash_len qs0) (sg x); omega
      dsimp only
      k_steps
      refine ret _ news _ _ ⟨rfl, _, eqS ?_⟩ (by k_asm) (by first | k_asm | (refine' cb_drop ?cbN ?cbS; (case cbN => assumption); (case cbS => (intro p hp; (repeat (first | exact hp | apply List.Mem.tail))))))
      have hc : c ≠ 1 := by assumption
      have hc : c.toNat ≠ 1 := by omega
      unfold dressS dress
      rw [if_neg hc]
end Mine
end
section
example : True := by w_top off; trivial
open PySem PySem.W PyProof.Rows PyProof.Rows.LCg
namespace Mine
section
variable {prog : Program} {w : World} {A : Around} {E : Value → Shared → Prop} {s : Shared} {h₀ : Heap} {env : Env}

/-- the end of a turn: on to the next one with the word kept, or out of the loop -/
noncomputable def ForEnd (h₀ : Heap) (L I : Addr) (oI : Obj) (S : List (Addr × Obj) → Prop) (J : (Str → Option Value) → List (Addr × Obj) → Prop) (s : Shared) (Q : Flow → Shared → Prop) (f : Flow) (s' : Shared) : Prop :=
  match f with
  | .ret v => Q (.ret v) s'
  | .brk => Q .next s'
  | _ => ∃ h' tk' m' news', s' = { s with heap := h', toks := tk' } ∧ Fr h₀ L h' m' ∧ News h₀ L h' ((I, oI) :: news') ∧ (∀ p ∈ news', p.1 ≠ I) ∧ S news' ∧ J m' news'
theorem ForEnd.next {L I : Addr} {oI : Obj} {S : List (Addr × Obj) → Prop} {J : (Str → Option Value) → List (Addr × Obj) → Prop} {Q : Flow → Shared → Prop} {h' : Heap} {tk' : Nat} {m' : Str → Option Value} {all : List (Addr × Obj)}
    (F : Fr h₀ L h' m') (N : News h₀ L h' all) (news' : List (Addr × Obj)) (sub : ∀ p ∈ (I, oI) :: news', p ∈ all) (off : ∀ p ∈ news', p.1 ≠ I) (hS : S news') (hj : J m' news') : ForEnd h₀ L I oI S J s Q .next { s with heap := h', toks := tk' } :=
  ⟨h', tk', m', news', rfl, F, fun p hp => N p (sub p hp), off, hS, hj⟩

theorem letGo_list {target : Expr} {I t : Addr} {i : Nat} {v : Value} {Q' : Unit → Shared → Prop} (hit : s.heap.IsListIter I t i) (h : Q' () s) : wpAny (model prog w) A (letOwnedTupleGo target (.ref I) v) Q' E s := by
  obtain ⟨o, ho, hc, hd⟩ := hit
  unfold letOwnedTupleGo
  cases target <;> first
    | exact wpAny_pure h
    | (cases v <;> first
        | exact wpAny_pure h
        | exact wpAny_bind (wpAny_load ho (by rw [hc, hd]; exact wpAny_pure h)))
theorem letGo_name {x : Str} {px : Pos} {it v : Value} {Q' : Unit → Shared → Prop} (h : Q' () s) : wpAny (model prog w) A (letOwnedTupleGo (.Name x px) it v) Q' E s := wpAny_pure h
inductive ForSrc (prog : Program) (w : World) (A : Around) (h₀ : Heap) (env : Env) (target : Expr) (body : List Stmt) (Q : Flow → Shared → Prop) (E : Value → Shared → Prop) (it : Value) (s : Shared) : Prop
  | mk (I : Addr) (fp : List Addr) (n : Nat) (P : Nat → Value → Prop) (St : Nat → Heap → Prop) (S : List (Addr × Obj) → Prop) (m : Str → Option Value) (news : List (Addr × Obj)) (J : Nat → (Str → Option Value) → List (Addr × Obj) → Prop) (h1 : it = .ref I) (h2 : Walks prog w A I fp [I] n P St) (h3 : (∀ i h, St i h → ∃ o, h.get? I = some o)) (h4 : (∀ i h h' o nw, St i h → h.get? I = some o → h'.get? I = some o → (∀ b o, h₀.get? b = some o → h'.get? b = some o) → News h₀ env.locals h' nw → S nw → St i h')) (h5 : St 0 s.heap) (h6 : (∀ i v (s' : Shared) (Q' : Unit → Shared → Prop), St (i + 1) s'.heap → Q' () s' → wpAny (model prog w) A (letOwnedTupleGo target (.ref I) v) Q' E s')) (h7 : Fr h₀ env.locals s.heap m) (h8 : News h₀ env.locals s.heap news) (h9 : env.locals ≠ I) (h10 : h₀.get? I = none) (h11 : (∀ p ∈ news, p.1 ≠ I)) (h12 : S news) (h13 : J 0 m news) (h14 : (∀ i v m₁ news₁ oI h tk, i < n → P i v → J i m₁ news₁ → S news₁ → (∀ p ∈ news₁, p.1 ≠ I) → Fr h₀ env.locals h m₁ → News h₀ env.locals h ((I, oI) :: news₁) → wpAny (model prog w) A (assign target env v) (fun _ s₂ => wpAny (model prog w) A (execs body env) (ForEnd h₀ env.locals I oI S (J (i + 1)) s Q) E s₂) E { s with heap := h, toks := tk })) (h15 : ∀ h tk m' news', Fr h₀ env.locals h m' → News h₀ env.locals h news' → J n m' news' → Q .next { s with heap := h, toks := tk }) : ForSrc prog w A h₀ env target body Q E it s
/-- a loop's state between its turns -/
inductive ForInv (h₀ : Heap) (L I : Addr) (n : Nat) (St : Nat → Heap → Prop) (S : List (Addr × Obj) → Prop) (J : Nat → (Str → Option Value) → List (Addr × Obj) → Prop) (s₂ : Shared) (k : Nat) (s' : Shared) : Prop
  | mk (i : Nat) (h' : Heap) (tk : Nat) (m' : Str → Option Value) (news' : List (Addr × Obj)) (e1 : s' = { s₂ with heap := h', toks := tk }) (e2 : i ≤ n) (e3 : k = n - i) (e4 : St i h') (e5 : Fr h₀ L h' m') (e6 : News h₀ L h' news') (e7 : ∀ p ∈ news', p.1 ≠ I) (e8 : S news') (e9 : J i m' news') : ForInv h₀ L I n St S J s₂ k s'
theorem for_walk {target iter : Expr} {body : List Stmt} {pos : Pos} {Q : Flow → Shared → Prop} {m₀ : Str → Option Value} (_F₀ : Fr h₀ env.locals s.heap m₀)
    (h : wpAny (model prog w) A (eval iter env) (fun xv s₁ => wpAny (model prog w) A (pyIter xv) (ForSrc prog w A h₀ env target body Q E) E s₁) E s)
    (hs : ∀ x, foldedSetIterable iter env x = pure x := by intro _; rfl)
    (hE : PassesOwn (model prog w) A env E := by passes_own) :
    wpAny (model prog w) A (exec (.For target iter body [] pos) env) Q E s := by
  refine wpAny_For (wpAny_mono h (fun xv s₁ h₁ => wpAny_mono h₁ (fun it s₂ h₂ => ?_) fun _ _ e => e) fun _ _ e => e) hs
  obtain ⟨I, fp, n, P, St, S, m, news, J, rfl, W, hIo, hSt, hst, go, F, N, hIL, hI₀, off, hS, hJ, turn, done⟩ := h₂
  refine codeAny_forLoop_any (ForInv h₀ env.locals I n St S J s₂) ?_ n
    ⟨0, s₂.heap, s₂.toks, m, news, rfl, Nat.zero_le _, rfl, hst, F, N, off, hS, hJ⟩
  rintro k s' ⟨i, h', tk, m', news', rfl, hi, rfl, hst', F', N', off', hS', hJ'⟩
  have keepF : ∀ h₁ : Heap, (∀ b o, b ∉ [I] → h'.get? b = some o → h₁.get? b = some o) → Fr h₀ env.locals h₁ m' ∧ News h₀ env.locals h₁ news' := fun h₁ hk =>
    ⟨fr_but F' hk hIL hI₀, news_but N' hk off'⟩
  by_cases hlt : i < n
  · refine W.item i _ _ _ hlt hst' fun v h₁ tk₁ hP hst₁ hk₁ => ?_
    obtain ⟨F₁, N₁⟩ := keepF h₁ hk₁
    obtain ⟨oI, hoI⟩ := hIo _ _ hst₁
    have N₂ : News h₀ env.locals h₁ ((I, oI) :: news') := fun p hp => by
      rcases List.mem_cons.mp hp with e | hp
      · rw [e]; exact ⟨hoI, Ne.symm hIL, hI₀⟩
      · exact N₁ p hp
    refine wpAny_passesOwn hE (go i v _ _ hst₁ ?_)
    refine wpAny_passesOwn hE (wpAny_mono (turn i v m' news' oI h₁ tk₁ hlt hP hJ' hS' off' F₁ N₂) (fun _ s₃ h₃ => wpAny_passesOwn hE (wpAny_mono h₃ (fun f s₄ h₄ => ?_) fun _ _ e => e)) fun _ _ e => e)
    have fin : (∃ h' tk' m' news', s₄ = { s₂ with heap := h', toks := tk' } ∧ Fr h₀ env.locals h' m' ∧ News h₀ env.locals h' ((I, oI) :: news') ∧ (∀ p ∈ news', p.1 ≠ I) ∧ S news' ∧ J (i + 1) m' news') →
        ∃ m, m < n - i ∧ ForInv h₀ env.locals I n St S J s₂ m s₄ := by
      rintro ⟨h₅, tk₅, m₅, news₅, rfl, F₅, N₅, off₅, hS₅, hJ₅⟩
      have zI := (N₅ (I, oI) List.mem_cons_self).1
      have N₆ : News h₀ env.locals h₅ news₅ := fun p hp => N₅ p (List.mem_cons_of_mem _ hp)
      exact ⟨n - (i + 1), Nat.sub_succ_lt_self n i hlt, ⟨i + 1, h₅, tk₅, m₅, news₅, rfl, hlt, rfl, hSt _ _ _ _ _ hst₁ hoI zI F₅.keep N₆ hS₅, F₅, N₆, off₅, hS₅, hJ₅⟩⟩
    cases f with
    | ret v => exact h₄
    | brk => exact h₄
    | next => exact fin h₄
    | cont => exact fin h₄
  · obtain rfl : i = n := Nat.le_antisymm hi (Nat.not_lt.mp hlt)
    refine W.done _ _ _ hst' fun h₁ tk₁ hk₁ => wpAny_execs_nil ?_
    obtain ⟨F₁, N₁⟩ := keepF h₁ hk₁
    exact done h₁ tk₁ m' news' F₁ N₁ hJ'

/-- a list of the ledger, or one that stood before, as the source -/
theorem for_list {target : Expr} {body : List Stmt} {Q : Flow → Shared → Prop} {ax : Addr} {its : Array Value} {m : Str → Option Value} {news : List (Addr × Obj)} (J : Nat → (Str → Option Value) → List (Addr × Obj) → Prop) (hh : A.handled = none)
    (F : Fr h₀ env.locals s.heap m) (N : News h₀ env.locals s.heap news) (hS : SrcAt h₀ ax its news) (hJ : J 0 m news)
    (turn : ∀ i v m₁ news₁ I oI g h tk, its[i]? = some v → J i m₁ news₁ → SrcAt h₀ ax its news₁ → (∀ p ∈ news₁, p.1 ≠ I) → (∀ p ∈ news, p.1 < I) → Fr h₀ env.locals h m₁ → News h₀ env.locals h ((I, oI) :: news₁) →
      wpAny (model prog w) A (assign target env v) (fun _ s₂ => wpAny (model prog w) A (execs body env) (ForEnd h₀ env.locals I oI (SrcAt h₀ ax its) (J (i + 1)) { s with heap := g } Q) E s₂) E { s with heap := h, toks := tk })
    (done : ∀ h tk m' news', Fr h₀ env.locals h m' → News h₀ env.locals h news' → J its.size m' news' → Q .next { s with heap := h, toks := tk }) :
    wpAny (model prog w) A (pyIter (.ref ax)) (ForSrc prog w A h₀ env target body Q E) E s := by
  have hl := hS.list F.keep N
  have hlt : ax < s.heap.objs.size := by obtain ⟨_, e, _⟩ := hl; exact Heap.lt_size e
  refine wpAny_pyIter_list hl ?_
  refine ⟨_, _, _, _, _, _, m, news, J, rfl, Walks.list hh s.heap.objs.size ax (Nat.ne_of_lt hlt) its, (fun i h st => by obtain ⟨o, e, _⟩ := st.1; exact ⟨o, e⟩), list_st, ⟨⟨_, Heap.get?_push_size _ rfl, rfl, rfl⟩, hl.push _⟩, (fun i v s' Q' st hq => letGo_list st.1 hq),
    F.push _, N.grown (fun _ _ e => Heap.get?_push_of_some _ e), Nat.ne_of_lt F.ns.lt, next_is_new F, (fun p hp => Nat.ne_of_lt (Heap.lt_size (N p hp).1)), hS, hJ, ?_, ?_⟩
  · intro i v m₁ news₁ oI h tk _ hP hJ₁ hS₁ off F₁ N₁
    exact turn i v m₁ news₁ _ oI _ h tk hP hJ₁ hS₁ off (fun p hp => Heap.lt_size (N p hp).1) F₁ N₁
  · intro h tk m' news' F' N' hJ'
    exact done h tk m' news' F' N' hJ'
/-- as for_list, with a list on top of the ledger and the frame's map named -/
theorem for_list_on {target : Expr} {body : List Stmt} {Q : Flow → Shared → Prop} {ax st : Addr} {o : Obj} {its : Array Value} {m : Str → Option Value} {news : List (Addr × Obj)} (J : Addr → (Str → Option Value) → Nat → (Str → Option Value) → List (Addr × Obj) → Prop) (hh : A.handled = none)
    (F : Fr h₀ env.locals s.heap m) (N : News h₀ env.locals s.heap ((st, o) :: news)) (hS : SrcAt h₀ ax its ((st, o) :: news)) (hJ : J st m 0 m ((st, o) :: news))
    (turn : ∀ i v m₁ news₁ I oI g h tk, its[i]? = some v → J st m i m₁ news₁ → SrcAt h₀ ax its news₁ → (∀ p ∈ news₁, p.1 ≠ I) → (∀ p ∈ (st, o) :: news, p.1 < I) → Fr h₀ env.locals h m₁ → News h₀ env.locals h ((I, oI) :: news₁) →
      wpAny (model prog w) A (assign target env v) (fun _ s₂ => wpAny (model prog w) A (execs body env) (ForEnd h₀ env.locals I oI (SrcAt h₀ ax its) (J st m (i + 1)) { s with heap := g } Q) E s₂) E { s with heap := h, toks := tk })
    (done : ∀ h tk m' news', Fr h₀ env.locals h m' → News h₀ env.locals h news' → J st m its.size m' news' → Q .next { s with heap := h, toks := tk }) :
    wpAny (model prog w) A (pyIter (.ref ax)) (ForSrc prog w A h₀ env target body Q E) E s := for_list (J st m) hh F N hS hJ turn done
/-- a map that is m₀ but at some names -/
noncomputable def But (xs : List Str) (m₀ m₁ : Str → Option Value) : Prop := ∀ z, xs.contains z = false → m₁ z = m₀ z
theorem But.refl {xs : List Str} {m₀ : Str → Option Value} : But xs m₀ m₀ := fun _ _ => rfl
theorem But.eq {xs : List Str} {m₀ m₁ : Str → Option Value} (h : But xs m₀ m₁) : m₁ = fun z => if xs.contains z = true then m₁ z else m₀ z := by
  funext z
  cases e : xs.contains z with
  | true => simp
  | false => simp only [Bool.false_eq_true, if_false]; exact h z e
theorem But.set {xs : List Str} {m₀ m : Str → Option Value} {x : Str} {v : Option Value} (h : But xs m₀ m) (hx : xs.contains x = true) : But xs m₀ (fun z => if z = x then v else m z) := by
  intro z hz
  have e : z ≠ x := fun e => by rw [e, hx] at hz; cases hz
  exact (if_neg e).trans (h z hz)
theorem But.base {xs : List Str} {m₀ m₁ : Str → Option Value} : But xs m₀ (fun z => if xs.contains z = true then m₁ z else m₀ z) := fun z hz => if_neg (by rw [hz]; exact Bool.noConfusion)
theorem But.fr {L : Addr} {h : Heap} {xs : List Str} {m₀ m₁ : Str → Option Value} (b : But xs m₀ m₁) (F : Fr h₀ L h m₁) : Fr h₀ L h (fun z => if xs.contains z = true then m₁ z else m₀ z) := by rw [← b.eq]; exact F
/-- the last text of a list of the ledger -/
theorem last_text {value slice : Expr} {L st : Addr} {k : Nat} {i : Int} {u : Tok} {x : Str} {t : Tok} {l : List (Str × Tok)} {news : List (Addr × Obj)} {Q : Value → Shared → Prop} (N : News h₀ L s.heap news)
    (hm : (st, ({ cls := .type "list", data := .seq (strValues (l ++ [(x, t)])).toArray k } : Obj)) ∈ news) (hi : i = -1) (h : Q (.str x t) s)
    (hs : subscripted slice false (.ref st) (.int i u) = operate [.ref st, .int i u] (getItem (.ref st) (.int i u)) := by with_unfolding_all rfl) :
    wpAny (model prog w) A (subscriptTail value slice (.ref st) (.int i u)) Q E s := by
  subst hi
  have hL : s.heap.IsList st (strValues (l ++ [(x, t)])).toArray := News.isList N hm
  refine tail_any hL.typeIs slot_list_getitem.lookup (wpAny_getItem_list_neg hL (by decide) ?_ (by decide) (x := .str x t) ?_ h) hs
  · simp [strValues]; lia
  · have : ((-1 : Int) + ((strValues (l ++ [(x, t)])).toArray.size : Nat)).toNat = (strValues l).length := by simp [strValues]; lia
    rw [this]
    simp [strValues]
end
end Mine
end
section
example : True := by w_top off; trivial
open PySem PySem.W PyProof.Rows
namespace Mine
/-- a written text -/
noncomputable def strOf : Expr → Option Str
  | .Constant (.str k) _ _ => some k
  | _ => none
theorem strOf_eq {e : Expr} (h : (strOf e).isSome = true) : ∃ u p, e = .Constant (.str ((strOf e).getD ⟨#[]⟩)) u p := by
  unfold strOf at h ⊢
  split at h
  · exact ⟨_, _, rfl⟩
  · cases h
/-- the pairs of a display of written texts -/
noncomputable def litKv : List (Option Expr) → List Expr → List (Str × Str)
  | some e :: ks, f :: vs => ((strOf e).getD ⟨#[]⟩, (strOf f).getD ⟨#[]⟩) :: litKv ks vs
  | _, _ => []
noncomputable def isLits : List (Option Expr) → List Expr → Bool
  | [], [] => true
  | some e :: ks, f :: vs => (strOf e).isSome && ((strOf f).isSome && isLits ks vs)
  | _, _ => false
theorem isLits_cons {e : Expr} {ks : List (Option Expr)} {vs : List Expr} (h : isLits (some e :: ks) vs = true) : ∃ f vs', vs = f :: vs' ∧ (strOf e).isSome = true ∧ (strOf f).isSome = true ∧ isLits ks vs' = true := by
  cases vs with
  | nil => cases h
  | cons f vs' =>
    obtain ⟨h1, h⟩ := Bool.and_eq_true_iff.mp (show ((strOf e).isSome && ((strOf f).isSome && isLits ks vs')) = true from h)
    obtain ⟨h2, h3⟩ := Bool.and_eq_true_iff.mp h
    exact ⟨f, vs', rfl, h1, h2, h3⟩
theorem isLits_nil {vs : List Expr} (h : isLits [] vs = true) : vs = [] := by
  cases vs with
  | nil => rfl
  | cons f vs' => cases h
theorem isLits_none {ks : List (Option Expr)} {vs : List Expr} (h : isLits (none :: ks) vs = true) : False := by
  cases vs <;> cases h
noncomputable def StrKv : List (Str × Str) → List (Str × Value) → Prop
  | [], [] => True
  | p :: r, q :: s => (q.1 = p.1 ∧ ∃ t, q.2 = .str p.2 t) ∧ StrKv r s
  | _, _ => False
theorem strKv_keys : ∀ {ps : List (Str × Str)} {kvs : List (Str × Value)}, StrKv ps kvs → kvs.map (·.1) = ps.map (·.1)
  | [], [], _ => rfl
  | _ :: _, _ :: _, h => by simp [h.1.1, strKv_keys h.2]
theorem lits_eval {prog : Program} {w : World} {A : Around} {E : Value → Shared → Prop} {env : Env} {pos : Pos} (keys : List (Option Expr)) : ∀ (values : List Expr), isLits keys values = true → ∀ (s : Shared) (Q : List (Value × Value) → Shared → Prop),
    (∀ vs tk, allStrKeys vs = true → StrKv (litKv keys values) (strPairs vs) → Q vs { s with toks := tk }) → wpAny (model prog w) A (evalPairs (pairTrees keys values env pos)) Q E s := by
  induction keys with
  | nil =>
    intro values hl s Q h
    rw [isLits_nil hl] at h ⊢
    exact evalPairs_nil (h [] s.toks rfl trivial)
  | cons k ks ih =>
    intro values hl s Q h
    cases k with
    | none => exact (isLits_none hl).elim
    | some e =>
      obtain ⟨f, vs, rfl, h1, h2, h3⟩ := isLits_cons hl
      obtain ⟨u, p, e1⟩ := strOf_eq h1
      obtain ⟨u', p', e2⟩ := strOf_eq h2
      unfold litKv at h
      generalize (strOf e).getD ⟨#[]⟩ = x at e1 h
      generalize (strOf f).getD ⟨#[]⟩ = y at e2 h
      rw [e1, e2]
      refine evalPairs_cons (wpAny_Constant_str (wpAny_bind (wpAny_Constant_str (wpAny_bind (wpAny_standAt (wpAny_pure ?_))))))
      refine ih vs h3 _ _ fun r tk ha hk => ?_
      exact h _ tk ha ⟨⟨rfl, _, rfl⟩, hk⟩
theorem lits_len (keys : List (Option Expr)) : ∀ (values : List Expr), isLits keys values = true → keys.all (·.isSome) = true ∧ keys.length = values.length := by
  induction keys with
  | nil =>
    intro values hl
    rw [isLits_nil hl]
    exact ⟨rfl, rfl⟩
  | cons k ks ih =>
    intro values hl
    cases k with
    | none => exact (isLits_none hl).elim
    | some e =>
      obtain ⟨f, vs, rfl, h1, h2, h3⟩ := isLits_cons hl
      have := ih vs h3
      exact ⟨by rw [List.all_cons, this.1]; rfl, by rw [List.length_cons, List.length_cons, this.2]⟩
theorem dict_lits {prog : Program} {w : World} {A : Around} {E : Value → Shared → Prop} {s : Shared} {env : Env} {h₀ : Heap} {L : Addr} {m : Str → Option Value} {news : List (Addr × Obj)} {keys : List (Option Expr)} {values : List Expr} {pos : Pos} {Q : Value → Shared → Prop}
    (F : Fr h₀ L s.heap m) (N : News h₀ L s.heap news) (hbig : h₀.NoLimit) (hl : isLits keys values = true) (h0 : keys ≠ []) (hlen : keys.length ≤ 15) (hnd : ((litKv keys values).map (·.1)).Nodup)
    (h : ∀ d h' o kvs tk, Fr h₀ L h' m → News h₀ L h' ((d, o) :: news) → (∀ p ∈ news, p.1 < d) → (d == sysModules) = false → o.IsDictOf (PySem.strKind prog w) kvs → StrKv (litKv keys values) kvs → Q (.ref d) { s with heap := h', toks := tk }) :
    wpAny (model prog w) A (eval (.Dict keys values pos) env) Q E s := by
  have hll := lits_len keys values hl
  refine kdn_eval (knd := PySem.strKind prog w) F N hbig hll.1 hll.2 h0 hlen fun d h' o F' N' hlt lo hd => ?_
  refine lits_eval keys values hl _ _ fun vs tk ha hk => ?_
  refine kdn_made_str (s := { s with heap := h', toks := tk }) F' N' (UpdF.head fun p hp => Nat.ne_of_lt (hlt p hp)) hd ha (by rw [strKv_keys hk]; exact hnd) fun h'' o' F'' N'' hd'' => ?_
  exact h d h'' o' _ _ F'' N'' hlt lo hd'' hk
noncomputable def TabKvs (t : List (Nat × List Nat)) (kvs : List (Str × Value)) : Prop := StrKv (t.map fun p => (⟨#[p.1]⟩, ofL p.2)) kvs
theorem tabKvs_of {ps : List (Str × Str)} {t : List (Nat × List Nat)} {kvs : List (Str × Value)} (h : StrKv ps kvs) (e : ps = t.map fun p => (⟨#[p.1]⟩, ofL p.2)) : TabKvs t kvs := by unfold TabKvs; rw [← e]; exact h
theorem table_fin {w : World} {s : Shared} {h₀ h' : Heap} {L d : Addr} {m : Str → Option Value} {news news' : List (Addr × Obj)} {o : Obj} {kvs : List (Str × Value)} {ps : List (Str × Str)} {c : Int} {Q : Value → Shared → Prop} {tk' : Nat}
    (ret : ∀ (r : Value) (tl : List (Addr × Obj)) (h' : Heap) (tk' : Nat), (fun r tl => ∃ d o kvs, r = Value.ref d ∧ tl = (d, o) :: news ∧ (∀ p ∈ news, p.1 < d) ∧ (d == sysModules) = false ∧ o.IsDictOf (PySem.strKind PySem.Challenge.rw_sc0073_01.row.prog w) kvs ∧ TabKvs (tab c.toNat) kvs) r tl → Fr h₀ L h' m → News h₀ L h' tl → Q r { s with heap := h', toks := tk' })
    (F : Fr h₀ L h' m) (N : News h₀ L h' news') (hm : (d, o) ∈ news') (hs : ∀ p ∈ news, p ∈ news') {mid : List (Addr × Obj)} (hl : ∀ p ∈ mid, p.1 < d) (hs2 : ∀ p ∈ news, p ∈ mid) (lo : (d == sysModules) = false) (hd : o.IsDictOf (PySem.strKind PySem.Challenge.rw_sc0073_01.row.prog w) kvs) (hk : StrKv ps kvs) (e : ps = (tab c.toNat).map fun p => (⟨#[p.1]⟩, ofL p.2)) :
    Q (.ref d) { s with heap := h', toks := tk' } :=
  ret _ _ _ _ ⟨d, o, kvs, rfl, rfl, fun p hp => hl p (hs2 p hp), lo, hd, tabKvs_of hk e⟩ F (cb_drop N (List.forall_mem_cons.mpr ⟨hm, hs⟩))
local macro_rules | `(tactic| walk_at "eval Dict") => `(tactic| (k_here; k_dflt ((refine' dict_lits ?q1 ?q2 ?q3 ?q4 ?q5 ?q6 ?q7 ?_); (case q1 => k_asm); (case q2 => k_asm); (case q3 => exact Top.nolimit (by k_asm)); (case q4 => rfl); (case q5 => exact List.cons_ne_nil _ _); (case q6 => exact Nat.le_of_ble_eq_true rfl); (case q7 => decide +kernel)); intro d' h' o' kvs' tk' F' N' l1 lo' hd' hk'; (have l2 := l1); (try k_lt l1); (try dsimp only)))
set_option maxRecDepth 100000 in
set_option maxHeartbeats 8000000 in
theorem does_table (w : World) (news : List (Addr × Obj)) (c : Int) (tc : Tok) (h0 : 0 ≤ c) (h5 : c < 5) : Does w 147 1 news [.int c tc] (fun r tl => ∃ d o kvs, r = .ref d ∧ tl = (d, o) :: news ∧ (∀ p ∈ news, p.1 < d) ∧ (d == sysModules) = false ∧ o.IsDictOf (PySem.strKind PySem.Challenge.rw_sc0073_01.row.prog w) kvs ∧ TabKvs (tab c.toNat) kvs) := by
  intro mean mg mb dp un gd cn cs a ccd cl outer A₀ base h₀ L m s Q E B F X N T hk hd hu ret
  refine wpAny_call ?_
  k_dflt cell_enter
  k_steps
  have hc : c = 0 ∨ c = 1 ∨ c = 2 ∨ c = 3 ∨ c = 4 := by omega
  rcases hc with rfl | rfl | rfl | rfl | rfl
  all_goals k_steps
  all_goals exact table_fin ret (by k_asm) (by assumption) (by k_mem) (by intro p hp; repeat (first | exact hp | apply List.Mem.tail)) (by assumption) (by intro p hp; repeat (first | exact hp | apply List.Mem.tail)) (by assumption) (by assumption) (by assumption) (by decide +kernel)
end Mine
end
section
local macro_rules | `(tactic| walk_at "call ref") => `(tactic| (k_here; k_search (does_table _ _ _ _ ?za ?zb); (case za => first | assumption | omega); (case zb => first | assumption | omega); (intro r9 tl9 h9 tk9 P9 F9 N9); (obtain ⟨d9, o9, kvs9, e9, e8, lt9, lo9, hd9, hk9⟩ := P9); (subst e9); (subst e8); (try k_lt lt9); (try dsimp only); (try k_fold)))
section
example : True := by w_top off; trivial
open PySem PySem.W PyProof.Rows PyProof.Rows.LCg
namespace Mine
theorem strKv_at : ∀ {t : List (Nat × List Nat)} {kvs : List (Str × Value)} (c : Nat) (tk : Tok), TabKvs t kvs → ∃ t', (valueAt kvs (⟨#[c]⟩ : Str)).getD (.str ⟨#[c]⟩ tk) = .str (ofL ((t.lookup c).getD [c])) t'
  | [], [], c, tk, _ => ⟨tk, rfl⟩
  | p :: r, q :: s, c, tk, h => by
    obtain ⟨⟨h1, t, h2⟩, h3⟩ := h
    by_cases e : c = p.1
    · refine ⟨t, ?_⟩
      have e1 : valueAt (q :: s) (⟨#[c]⟩ : Str) = some q.2 := by
        unfold valueAt
        rw [List.find?_cons_of_pos (by simp [h1, e])]; rfl
      rw [e1, h2, List.lookup_cons, show (c == p.1) = true from by simp [e]]; rfl
    · have e1 : valueAt (q :: s) (⟨#[c]⟩ : Str) = valueAt s ⟨#[c]⟩ := by
        unfold valueAt
        rw [List.find?_cons_of_neg (by simp [h1]; exact fun x => e x.symm)]
      have e2 : (p :: r).lookup c = r.lookup c := by rw [List.lookup_cons, show (c == p.1) = false from by simp [e]]
      rw [e1, e2]
      exact strKv_at c tk h3
local macro_rules | `(tactic| walk_at "getMethod ref") => `(tactic| (k_here; k_dflt (refine kdg_method (by k_asm) (by k_mem) (by assumption) ?_)))
local macro_rules | `(tactic| walk_at "call builtin:dict.get") => `(tactic| (k_here; k_dflt (refine kdg_get2 (by k_asm) (by k_mem) (by assumption) (by assumption) (strKind_is _ _ _ _) _ rfl ?_)))
local macro_rules | `(tactic| k_all) => `(tactic| first | exact off_lt (by assumption) (Nat.le_refl _) | exact off_lt (by assumption) (by omega) | exact off_all (by assumption) (Nat.le_refl _) | exact off_all (by assumption) (by omega) | exact off_all (And.right (by assumption)) (by omega))
set_option maxRecDepth 100000 in
set_option maxHeartbeats 8000000 in
theorem does_spell (w : World) (news : List (Addr × Obj)) (c : Int) (x : Str) (tc tx : Tok) (h0 : 0 ≤ c) (h5 : c < 5) (hx : (sg x).length ≤ 100000) : Does w 152 2 news [.int c tc, .str x tx] (fun r tl => tl = news ∧ ∃ t, r = .str (spellS c.toNat x) t) := by
  intro mean mg mb dp un gd cn cs a ccd cl outer A₀ base h₀ L m s Q E B F X N T hk hd hu ret
  refine wpAny_call ?_
  k_dflt (refine' code_defC ?k1 ?k2 ?k3 ?k4 ?k5 ?kA ?kF ?kK ?k6 ?k7 ?k8 ?k9 ?kB ?kD ?_ ?c2 ?c3 ?c4; (case kA => exact rfl); (case kF => exact rfl); (case kK => assumption); (case k1 => k_asm); (case k2 => k_asm); (case k3 => k_asm); (case k4 => k_asm); (case k5 => k_asm); (case k6 => k_is); (case k7 => k_is); (case k8 => ktr_room); (case k9 => exact BindsTo.of_eq rfl); (case kB => exact rfl); (case kD => decide +kernel); (case c2 => exact rfl); (case c3 => exact rfl); (case c4 => exact rfl); k_whole; intro g' L' h' tk' cells' FG' F' N' Y' B' X' T' l1; (try k_lt l1); k_cells Y'; (try simp only [List.cons_append, List.nil_append] at N'); (try dsimp only); (try k_lift B'); (try k_fold))
  k_steps
  refine Mark.intro ?_
  refine src_str (by rfl) (by k_asm) (by k_asm) (by rw [length_sg, sizeLine_eq]; omega) (fun h => rest_text (fun c' => ofL (img c.toNat c')) ?turn ?fin)
  case turn =>
    intro c' t I oI C oC D m₂ ys h tk E' hc hC hx F N off ne
    k_steps
    obtain ⟨t', e⟩ := strKv_at c' t (by assumption)
    exact CompEnd.intro (by assumption) (by assumption) _ (fun p hp => hp) off trivial ⟨rfl, t', e⟩
  case fin =>
    intro l hl D h tk F N off
    dsimp only
    k_steps
    refine join_here (y := sg x) (g := img c.toNat) (by k_asm) (by k_mem) (by decide +kernel) hl (fun c' => (img_len c.toNat (by omega) c').2) hx ?_
    intro t' k
    dsimp only
    k_steps
    exact ret _ news _ _ ⟨rfl, _, rfl⟩ (by k_asm) (by first | k_asm | (refine' cb_drop ?cbN ?cbS; (case cbN => assumption); (case cbS => (intro p hp; (repeat (first | exact hp | apply List.Mem.tail))))))
end Mine
end
section
example : True := by w_top off; trivial
open PySem PySem.W PyProof.Rows PyProof.Rows.LCg
namespace Mine
section
variable {prog : Program} {w : World} {A : Around} {E : Value → Shared → Prop} {s : Shared} {h₀ : Heap} {L : Addr} {m : Str → Option Value} {env : Env}
/-- a dict of the ledger as the source -/
theorem src_dictT {ct elt : Expr} {x : Str} {scope : Scope} {cl : List (Str × Addr)} {Q : Value → Shared → Prop} {d : Addr} {o : Obj} {kvs : List (Str × Value)} {news : List (Addr × Obj)} (hh : A.handled = none) (F : Fr h₀ L s.heap m) (N : News h₀ L s.heap news)
    (hm : (d, o) ∈ news) (lo : (d == sysModules) = false) (hd : o.IsDictOf (PySem.strKind prog w) kvs) (hsz : kvs.length ≤ sizeLine)
    (R : ∀ h, LCt.CompRestT prog w A h₀ L m env ct elt x scope cl { s with heap := h } (fun nw => (d, o) ∈ nw) (fun i v => ∃ k y, kvs[i]? = some (k, y) ∧ (PySem.strKind prog w).is k v = true) (FinE h₀ L m { s with heap := h } Q) kvs.length 0 [] news) :
    wpAny (model prog w) A (pyIter (.ref d)) (SrcT prog w A h₀ L m env ct elt x scope cl Q) E s := by
  obtain ⟨es, ep, r⟩ := hd
  have hD : s.heap.DictAt (PySem.strKind prog w) d kvs ep := ⟨o, es, (N _ hm).1, r⟩
  have hlt := hD.lt_size
  refine wpAny_pyIter_dict lo hD ⟨_, _, _, _, _, (fun nw => (d, o) ∈ nw), news, rfl, Walks.dictKeys hh s.heap.objs.size d (Nat.ne_of_lt hlt) kvs ep, hsz, (fun i h st => let ⟨o, e, _⟩ := st.1; ⟨o, e⟩), ?_, ⟨⟨_, Heap.get?_push_size _ rfl, rfl, rfl⟩, hD.push _⟩, ?_, F.push _, N.grown (fun _ _ e => Heap.get?_push_of_some _ e), Nat.ne_of_lt F.ns.lt, next_is_new F, (fun p hp => Nat.ne_of_lt (Heap.lt_size (N p hp).1)), hm, R _⟩
  · intro i h h' o' nw st e e' _ N' hm'
    obtain ⟨⟨o2, q, r2⟩, _⟩ := st
    rw [e] at q; cases q
    exact ⟨⟨o', e', r2⟩, ⟨o, es, (N' _ hm').1, r⟩⟩
  · intro b hb
    show b < (s.heap.push _).objs.size
    rw [Heap.size_push]
    rcases List.mem_cons.mp hb with rfl | hb
    · exact Nat.lt_succ_self _
    · rw [List.mem_singleton.mp hb]; exact Nat.lt_succ_of_lt hlt

/-- x = [.. for .. in TEXT if ..] -/
noncomputable def SrcTA (prog : Program) (w : World) (A : Around) (h₀ : Heap) (L : Addr) (m : Str → Option Value) (env : Env) (ct elt : Expr) (x : Str) (scope : Scope) (cl : List (Str × Addr)) (y : Str) (Q : Flow → Shared → Prop) (v : Value) (s₁ : Shared) : Prop :=
  ∃ (z : Str) (t : Tok) (news : List (Addr × Obj)), v = .str z t ∧ A.handled = none ∧ Fr h₀ L s₁.heap m ∧ News h₀ L s₁.heap news ∧ z.length ≤ sizeLine ∧
    ∀ h, LCt.CompRestT prog w A h₀ L m env ct elt x scope cl { s₁ with heap := h } (fun _ => True) (SignAt z) (FinA h₀ L m { s₁ with heap := h } y Q) z.cps.size 0 [] news
theorem assign_strT {ct elt iter : Expr} {x y : Str} {px py : Pos} {scope : Scope} {cl : List (Str × Addr)} {pos spos : Pos} {Q : Flow → Shared → Prop} (_F₀ : Fr h₀ env.locals s.heap m)
    (hsw : swapsWith (.ListComp elt [⟨.Name x px, iter, [ct], 0⟩] scope pos) (some (.Name y py)) spos.line env = pure true)
    (hclos : closureFor scope env = pure cl) (hcell : ∀ z ∈ scope.names, z.2 ≠ .cell) (hkind : scope.kind = .function)
    (hnames : ∀ z ∈ scope.names, z.2 = .local → scope.names.lookup z.1 = some .local) (hx : scope.names.lookup x = some .local)
    (hy : env.kindOf y = some .local) (hp : (env.scope.kind == .class || (env.scope.kind == .module && env.locals != env.globals)) = false)
    (h : wpAny (model prog w) A (eval iter env) (SrcTA prog w A h₀ env.locals m env ct elt x scope cl y Q) E s)
    (hs : ∀ x, foldedSetIterable iter env x = pure x := by intro _; rfl) :
    wpAny (model prog w) A (exec (.Assign [.Name y py] (.ListComp elt [⟨.Name x px, iter, [ct], 0⟩] scope pos) spos) env) Q E s := by
  rw [exec_Assign_Name_used _ _ _ _ hsw]
  refine wpAny_bind (wpAny_standAt (wpAny_bind ?_))
  show wpAny _ A (do let _ ← comprehension (.ListComp elt [⟨.Name x px, iter, [ct], 0⟩] scope pos) scope env _ (newList []) false (eval iter env) (some (assign (.Name y py) env))) _ _ s
  refine wpAny_bind (wpAny_mono (wpAny_comprehension_free (use := some (assign (.Name y py) env)) (Q := fun _ s' => Q .next s') rfl hs hclos hkind hnames
    (wpAny_mono h (fun xv s₁ h₁ => ?_) fun _ _ e => e)) (fun _ s' hq => wpAny_pure (wpAny_pure hq)) fun _ _ e => e)
  obtain ⟨z, t, news, rfl, hh, F, N, hsz, R⟩ := h₁
  have tail : ∀ (s₂ : Shared) (D C : Addr) (h' : Heap) (tk : Nat) (m' : Str → Option Value) (ys : List Value) (news' : List (Addr × Obj)), Fr h₀ env.locals h' m → News h₀ env.locals h' ((D, lst ys) :: news') → Off1 D news' → h'.Ns C m' → h₀.get? C = none → h₀.get? D = none → C ≠ env.locals → D ≠ env.locals → C ≠ D → (∀ p ∈ news', p.1 ≠ C) →
      FinA h₀ env.locals m s₂ y Q ys news' → wpAny (model prog w) A (assign (.Name y py) env (.ref D)) (fun _ s' => ∃ m', s'.heap.Ns C m' ∧ ∀ h'', Heap.SameBut C s'.heap h'' → Q .next { s' with heap := h'' }) E { s₂ with heap := h', toks := tk } := by
    intro s₂ D C h' tk m' ys news' F' N' o1 hn hC₀ _ hCL _ hCD offC fin
    refine wpAny_assign_Name (wpAny_storeName_local hy F'.ns (fun h₂ hn₂ hs₂ => ?_) hp)
    have hL₀ : h₀.get? env.locals = none := Heap.get?_none_of_le F'.above
    have F₂ : Fr h₀ env.locals h₂ (fun z => if z = y then some (.ref D) else m z) := F'.set hn₂ hs₂
    have N₂ : News h₀ env.locals h₂ ((D, lst ys) :: news') := N'.set hs₂
    exact ⟨m', hn.sameBut hs₂ hCL, fun h'' hs'' => fin D h'' _ (F₂.change hs'' hCL hC₀) (fin_of N₂ hs'' hCD offC) o1⟩
  cases ha : z.cps.all (· < 128)
  · refine wpAny_pyIter_wide ha ?_
    refine LCt.block_T (S := fun _ => True) (Walks.strWide hh _ z t) hsz (fun i h st => let ⟨o, e, _⟩ := st; ⟨o, e⟩) ?_ hcell hkind hx ⟨_, Heap.get?_push_size _ rfl, rfl, rfl⟩ ?_ (F.push _) (N.grown fun _ _ e => Heap.get?_push_of_some _ e) (Nat.ne_of_lt F.ns.lt) (next_is_new F) (fun p hp => Nat.ne_of_lt (Heap.lt_size (N p hp).1)) trivial (R _) ?_
    · intro i h h' o nw st e e' _ _ _
      obtain ⟨o', q, r⟩ := st
      rw [e] at q; cases q
      exact ⟨o, e', r⟩
    · intro b hb
      rw [List.mem_singleton.mp hb]
      show s₁.heap.objs.size < (s₁.heap.push _).objs.size
      rw [Heap.size_push]; exact Nat.lt_succ_self _
    · intro D C h tk m' ys news' F' N' o1 hn hC₀ hD₀ hCL hDL hCD offC fin
      exact tail _ D C h tk m' ys news' F' N' o1 hn hC₀ hD₀ hCL hDL hCD offC fin
  · refine wpAny_pyIter_ascii ha ?_
    refine LCt.block_T (S := fun _ => True) (Walks.strAscii hh _ z t) hsz (fun i h st => let ⟨o, e, _⟩ := st; ⟨o, e⟩) ?_ hcell hkind hx ⟨_, Heap.get?_push_size _ rfl, rfl, rfl⟩ ?_ (F.push _) (N.grown fun _ _ e => Heap.get?_push_of_some _ e) (Nat.ne_of_lt F.ns.lt) (next_is_new F) (fun p hp => Nat.ne_of_lt (Heap.lt_size (N p hp).1)) trivial (R _) ?_
    · intro i h h' o nw st e e' _ _ _
      obtain ⟨o', q, r⟩ := st
      rw [e] at q; cases q
      exact ⟨o, e', r⟩
    · intro b hb
      rw [List.mem_singleton.mp hb]
      show s₁.heap.objs.size < (s₁.heap.push _).objs.size
      rw [Heap.size_push]; exact Nat.lt_succ_self _
    · intro D C h tk m' ys news' F' N' o1 hn hC₀ hD₀ hCL hDL hCD offC fin
      exact tail _ D C h tk m' ys news' F' N' o1 hn hC₀ hD₀ hCL hDL hCD offC fin

/-- items that are signs, some of them kept -/
theorem restT_keep {ct elt : Expr} {x : Str} {scope : Scope} {cl : List (Str × Addr)} {S : List (Addr × Obj) → Prop} {P : Nat → Value → Prop} {news : List (Addr × Obj)} {Fin : List Value → List (Addr × Obj) → Prop} (cs : List Nat) (p : Nat → Bool) (n : Nat) (hn : n = cs.length) (hS : S news)
    (hP : ∀ i v, i < n → P i v → ∃ c t, cs[i]? = some c ∧ v = .str ⟨#[c]⟩ t)
    (turn : ∀ c t I oI C oC D m₂ ys h tk (E' : Value → Shared → Prop), c ∈ cs → NsObj oC m₂ → m₂ x = some (.str ⟨#[c]⟩ t) → Fr h₀ L h m → News h₀ L h ((I, oI) :: (C, oC) :: (D, lst ys) :: news) → Off3 I C D news → ((@Ne Nat I C) ∧ (@Ne Nat I D) ∧ (@Ne Nat C D)) →
      wpAny (model prog w) A (isTrue ct (compEnvC scope cl C env) (eval ct (compEnvC scope cl C env))) (fun ok s' => if ok = true then
        wpAny (model prog w) A (eval elt (compEnvC scope cl C env)) (CompEnd h₀ L m { s with heap := h, toks := tk } I oI C oC D (lst ys) S (fun y news' => p c = true ∧ OneText ⟨#[c]⟩ news y news')) E' s'
        else CompEnd h₀ L m { s with heap := h, toks := tk } I oI C oC D (lst ys) S (fun _ news' => p c = false ∧ news' = news) Value.none s') E' { s with heap := h, toks := tk })
    (fin : ∀ l : List (Str × Tok), l.map (·.1) = (cs.filter p).map (fun c => (⟨#[c]⟩ : Str)) → Fin (strValues l) news) :
    LCt.CompRestT prog w A h₀ L m env ct elt x scope cl s S P Fin n 0 [] news := by
  have key : ∀ (j i : Nat) (l : List (Str × Tok)), i + j = n → l.map (·.1) = ((cs.take i).filter p).map (fun c => (⟨#[c]⟩ : Str)) → LCt.CompRestT prog w A h₀ L m env ct elt x scope cl s S P Fin j i (strValues l) news := by
    intro j
    induction j with
    | zero =>
      intro i l hi hl
      have : cs.take i = cs := List.take_of_length_le (by lia)
      rw [this] at hl
      exact LCt.CompRestT.zero (fin l hl)
    | succ j ih =>
      intro i l hi hl
      refine LCt.CompRestT.succ ?_
      intro v I oI C oC D m₂ h tk E' hv hC hx F N off ne
      obtain ⟨c, t, hc, rfl⟩ := hP i v (by lia) hv
      refine wpAny_mono (turn c t I oI C oC D m₂ _ h tk E' (List.mem_of_getElem? hc) hC hx F N off ne) (fun ok s₂ hq => ?_) fun _ _ e => e
      cases ok with
      | true =>
        simp only [if_true] at hq ⊢
        refine wpAny_mono hq (fun r s₃ hr => ?_) fun _ _ e => e
        obtain ⟨h', tk', nw, e, F', N', off', hS', hp, hnw, t', hr⟩ := hr
        rw [hnw] at N' off' hS'
        refine ⟨h', tk', news, e, F', N', off', hS', ?_⟩
        rw [hr]
        have := ih (i + 1) (l ++ [(⟨#[c]⟩, t')]) (by lia) (by
          rw [List.map_append, hl, List.take_add_one, hc, List.filter_append, List.map_append, Option.toList_some, List.filter_cons_of_pos hp]; rfl)
        have e2 : strValues (l ++ [((⟨#[c]⟩ : Str), t')]) = strValues l ++ [.str ⟨#[c]⟩ t'] := by unfold strValues; rw [List.map_append]; rfl
        rwa [e2] at this
      | false =>
        simp only [Bool.false_eq_true, if_false] at hq ⊢
        obtain ⟨h', tk', nw, e, F', N', off', hS', hp, hnw⟩ := hq
        rw [hnw] at N' off' hS'
        refine ⟨h', tk', news, e, F', N', off', hS', ?_⟩
        exact ih (i + 1) l (by lia) (by
          rw [hl, List.take_add_one, hc, List.filter_append, Option.toList_some, List.filter_cons_of_neg (by rw [hp]; exact Bool.false_ne_true)]; simp)
  exact key n 0 [] (by lia) rfl
theorem keys_at {t : List (Nat × List Nat)} {kvs : List (Str × Value)} (h : TabKvs t kvs) {prog : Program} {w : World} : ∀ i v, i < kvs.length → (∃ k y, kvs[i]? = some (k, y) ∧ (PySem.strKind prog w).is k v = true) → ∃ c t', (t.map (·.1))[i]? = some c ∧ v = .str ⟨#[c]⟩ t' := by
  rintro i v hi ⟨k, y, e, hk⟩
  have hkeys := strKv_keys h
  have e2 : (kvs.map (·.1))[i]? = some k := by rw [List.getElem?_map, e]; rfl
  rw [hkeys, List.map_map, List.getElem?_map] at e2
  cases hq : t[i]? with
  | none => rw [hq] at e2; cases e2
  | some p =>
    rw [hq] at e2
    obtain ⟨u, hu⟩ := Value.isStrOf_shape hk
    refine ⟨p.1, u, by rw [List.getElem?_map, hq]; rfl, ?_⟩
    rw [hu]
    have := Option.some.inj e2
    exact congrArg (fun z => Value.str z u) this.symm
theorem keys_len {t : List (Nat × List Nat)} {kvs : List (Str × Value)} (h : TabKvs t kvs) : kvs.length = (t.map (·.1)).length := by
  have := congrArg List.length (strKv_keys h)
  simpa using this
theorem sign_at {y : Str} : ∀ i v, SignAt y i v → ∃ c t, (sg y)[i]? = some c ∧ v = .str ⟨#[c]⟩ t := by
  rintro i v ⟨c, t, hc, rfl⟩
  exact ⟨c, t, by show y.cps.toList[i]? = some c; rw [Array.getElem?_toList]; exact hc, rfl⟩

/-- as for_list, the whole ledger and the frame's map named -/
theorem for_list_all {target : Expr} {env : Env} {body : List Stmt} {Q : Flow → Shared → Prop} {ax : Addr} {its : Array Value} {m : Str → Option Value} {news : List (Addr × Obj)} (J : List (Addr × Obj) → (Str → Option Value) → Nat → (Str → Option Value) → List (Addr × Obj) → Prop) (hh : A.handled = none)
    (F : Fr h₀ env.locals s.heap m) (N : News h₀ env.locals s.heap news) (hS : SrcAt h₀ ax its news) (hJ : J news m 0 m news)
    (turn : ∀ i v m₁ news₁ I oI g h tk, its[i]? = some v → J news m i m₁ news₁ → SrcAt h₀ ax its news₁ → (∀ p ∈ news₁, p.1 ≠ I) → (∀ p ∈ news, p.1 < I) → Fr h₀ env.locals h m₁ → News h₀ env.locals h ((I, oI) :: news₁) →
      wpAny (model prog w) A (assign target env v) (fun _ s₂ => wpAny (model prog w) A (execs body env) (ForEnd h₀ env.locals I oI (SrcAt h₀ ax its) (J news m (i + 1)) { s with heap := g } Q) E s₂) E { s with heap := h, toks := tk })
    (done : ∀ h tk m' news', Fr h₀ env.locals h m' → News h₀ env.locals h news' → J news m its.size m' news' → Q .next { s with heap := h, toks := tk }) :
    wpAny (model prog w) A (pyIter (.ref ax)) (ForSrc prog w A h₀ env target body Q E) E s := for_list (J news m) hh F N hS hJ turn done
end
theorem kpick2 (l : List Value) {a b : Int} (h0 : 0 ≤ a) (h1 : 0 ≤ b) : kms_pick l (some a) (some b) = (l.drop a.toNat).take (b.toNat - a.toNat) := by
  unfold kms_pick kms_lo kms_hi
  simp only [Int.not_lt.mpr h0, Int.not_lt.mpr h1, if_false]
  rcases Nat.le_total a.toNat l.length with h | h
  · rw [Nat.min_eq_left h]
    rcases Nat.le_total b.toNat l.length with h2 | h2
    · rw [Nat.min_eq_left h2]
    · rw [Nat.min_eq_right h2, List.take_of_length_le (Nat.le_of_eq List.length_drop), List.take_of_length_le (by rw [List.length_drop]; exact Nat.sub_le_sub_right h2 _)]
  · rw [List.drop_of_length_le (Nat.le_min.mpr ⟨h, Nat.le_refl _⟩), List.drop_of_length_le h, List.take_nil, List.take_nil]
theorem kpick_hi (l : List Value) {b : Int} (h1 : 0 ≤ b) : kms_pick l none (some b) = l.take b.toNat := by
  unfold kms_pick kms_lo kms_hi
  simp only [Int.not_lt.mpr h1, if_false, List.drop_zero, Nat.sub_zero]
  rcases Nat.le_total b.toNat l.length with h2 | h2
  · rw [Nat.min_eq_left h2]
  · rw [Nat.min_eq_right h2, List.take_of_length_le (Nat.le_refl _), List.take_of_length_le h2]
theorem kpick_lo (l : List Value) {a : Int} (h1 : 0 ≤ a) : kms_pick l (some a) none = l.drop a.toNat := by
  unfold kms_pick kms_lo kms_hi
  simp only [Int.not_lt.mpr h1, if_false]
  rcases Nat.le_total a.toNat l.length with h2 | h2
  · rw [Nat.min_eq_left h2, List.take_of_length_le (Nat.le_of_eq List.length_drop)]
  · rw [Nat.min_eq_right h2, List.drop_of_length_le (Nat.le_refl _), List.drop_of_length_le h2, List.take_nil]
theorem add_made {prog : Program} {w : World} {A : Around} {E : Value → Shared → Prop} {s : Shared} {h₀ : Heap} {L a b : Addr} {m : Str → Option Value} {ka kb : Nat} {vs ws : List Value} {news : List (Addr × Obj)} {Q : Value → Shared → Prop} (F : Fr h₀ L s.heap m) (N : News h₀ L s.heap news)
    (ha : (a, ({ cls := .type "list", data := .seq vs.toArray ka } : Obj)) ∈ news) (hb : (b, ({ cls := .type "list", data := .seq ws.toArray kb } : Obj)) ∈ news) (hz : vs.length + ws.length ≤ 1000)
    (h : ∀ D h', Fr h₀ L h' m → News h₀ L h' ((D, ({ cls := .type "list", data := .seq (vs ++ ws).toArray 0 } : Obj)) :: news) → (∀ p ∈ news, p.1 < D) → Q (.ref D) { s with heap := h' }) :
    wpAny (model prog w) A (binaryOp .Add (.ref a) (.ref b)) Q E s :=
  kmk_add_lit F N (News.isList N ha) (News.isList N hb) rfl h (by rw [sizeLine_eq]; show vs.length + ws.length ≤ _; omega)
end Mine
end
section
local macro_rules | `(tactic| walk_at "in") => `(tactic| first | (focus ((try apply And.left); (iterate 14 (try (first | with_reducible assumption | apply And.right))); done)) | focus ((iterate 15 (try (first | with_reducible assumption | apply And.right))); done))
local macro_rules | `(tactic| k_ne) => `(tactic| (refine neN ?_; (try dsimp only); first | exact Nat.ne_of_lt (by walk_at "in") | exact Nat.ne_of_gt (by walk_at "in") | (walk_at "in") | (refine Ne.symm ?_; walk_at "in") | omega))
local macro_rules | `(tactic| k_lt $h:ident) => `(tactic| (replace $h := allLt_of $h; dsimp +zetaDelta only [AllLt] at $h:ident))
local macro_rules | `(tactic| k_all) => `(tactic| first | with_reducible assumption | exact off_lt (by assumption) (Nat.le_refl _) | exact off_all0 (by walk_at "in") | exact off_allA (by walk_at "in") | exact off_lt (by assumption) (by omega) | exact off_all (by assumption) (by omega) | exact off_all (And.right (by assumption)) (by omega))
local macro_rules | `(tactic| k_mem) => `(tactic| focus ((iterate 15 (try (first | exact List.Mem.head _ | with_reducible assumption | refine List.mem_cons_of_mem _ ?_))); done))
local macro_rules | `(tactic| k_room) => `(tactic| ktr_room)
local macro_rules | `(tactic| walk_at "subscriptTail Name Slice ref ref") => `(tactic| (k_here; (with_reducible show wpAny _ _ (subscriptTail _ (PySem.Expr.Slice _ _ none _) (Value.ref _) (Value.ref _)) _ _ _); k_dflt (refine' kms_slice_lit ?F ?N ?l ?p ?q ?e ?_ ?s ?t ?z; (case F => k_asm); (case N => k_asm); (case l => kmk_list); (case p => kmk_part); (case q => kmk_part); (case e => first | exact kpick2 _ (by omega) (by omega) | exact kpick_hi _ (by omega) | exact kpick_lo _ (by omega)); (case s => with_unfolding_all rfl); (case t => kmk_pure); (case z => (simp only [List.size_toArray, sizeLine_eq]; omega))); intro D' h' F' N' l1; (try k_lt l1); (try k_sweep)))
local macro_rules | `(tactic| walk_at "binaryOp Add ref ref") => `(tactic| (k_here; (with_reducible show wpAny _ _ (binaryOp _ (Value.ref _) (Value.ref _)) _ _ _); k_dflt (refine' add_made ?F ?N ?a ?b ?z ?_; (case F => k_asm); (case N => k_asm); (case a => k_mem); (case b => k_mem); (case z => first | exact Nat.le_of_ble_eq_true rfl | (simp only [List.length_take, List.length_drop]; omega))); intro D' h' F' N' l1; (have l2 := l1); (try k_lt l1); (try k_sweep)))
local macro_rules | `(tactic| walk_at "eval ListComp") => `(tactic| (k_here; k_dflt (refine LCt.ListComp_T (F₀ := by k_asm) (by with_unfolding_all rfl) (by decide) (by rfl) (by decide) (by rfl) ?_)))
local macro_rules | `(tactic| walk_at "CompSrcT") => `(tactic| (k_here; refine Mark.out ?_))
section
local macro_rules | `(tactic| walk_at "storeName") => `(tactic| (k_here; k_dflt (refine' storeZ ?F ?N ?_ ?a ?b; (case F => k_asm); (case N => k_asm); (case a => rfl); (case b => rfl); k_whole; intro h' m' F' N'; (try k_sweep))))
local macro_rules | `(tactic| walk_at "newList") => `(tactic| (k_here; k_dflt (refine' newListZ ?k1 ?k2 ?_ ?k3; (case k1 => k_asm); (case k2 => k_asm); (case k3 => first | exact Nat.le_of_ble_eq_true rfl | size_fits); k_whole); intro l' h' nw F' N' l1; (try k_lt l1); (try k_sweep)))
section
example : True := by w_top off; trivial
open PySem PySem.W PyProof.Rows PyProof.Rows.LCg
namespace Mine
/-- one deed -/
noncomputable def deedS (d : Bool × Int) (x : Str) : Str := if d.1 then spellS d.2.toNat x else dressS d.2.toNat x
noncomputable def foldS (x : Str) (ds : List (Bool × Int)) : Str := ds.foldl (fun x d => deedS d x) x
noncomputable def stagesS (x : Str) (ds : List (Bool × Int)) : List Str := (List.range (ds.length + 1)).map fun j => foldS x (ds.take j)
noncomputable abbrev tupO (b : Bool) (n : Int) (tk : Tok) : Obj := { cls := .type "tuple", data := .seq #[.bool b, .int n tk] }
/-- the ledger bears the deeds -/
noncomputable def Deeds (news : List (Addr × Obj)) : List Value → List (Bool × Int) → Prop
  | [], [] => True
  | v :: vs, d :: ds => (∃ t tk, v = .ref t ∧ (t, tupO d.1 d.2 tk) ∈ news) ∧ Deeds news vs ds
  | _, _ => False
theorem Deeds.length {news : List (Addr × Obj)} : ∀ {vs : List Value} {ds : List (Bool × Int)}, Deeds news vs ds → vs.length = ds.length
  | [], [], _ => rfl
  | _ :: _, _ :: _, h => by simp [Deeds.length h.2]
theorem Deeds.at {news : List (Addr × Obj)} : ∀ {vs : List Value} {ds : List (Bool × Int)} {i : Nat} {v : Value}, Deeds news vs ds → vs[i]? = some v → ∃ d t tk, ds[i]? = some d ∧ v = .ref t ∧ (t, tupO d.1 d.2 tk) ∈ news
  | _ :: _, d :: _, 0, v, h, e => by
    obtain ⟨⟨t, tk, e2, hm⟩, _⟩ := h
    exact ⟨d, t, tk, rfl, (Option.some.inj e).symm.trans e2, hm⟩
  | _ :: _, _ :: _, i + 1, v, h, e => Deeds.at (i := i) h.2 e
theorem push_text (l : List (Str × Tok)) (x : Str) (t : Tok) : (strValues l).toArray.push (.str x t) = (strValues (l ++ [(x, t)])).toArray := by simp [strValues]
noncomputable def DeedOk (d : Bool × Int) : Prop := 0 ≤ d.2 ∧ d.2 < (if d.1 then 5 else 2)
theorem dress_len (k : Nat) (l : List Nat) : (dress k l).length ≤ 2 * l.length + 2 := by
  unfold dress
  split
  · have := Mine.flat_len (slash_len qs1) l
    rw [List.length_cons, List.length_append]; simp only [List.length_cons, List.length_nil]; omega
  · have := Mine.flat_len (slash_len qs0) l
    omega
theorem deed_len (d : Bool × Int) (h : DeedOk d) (x : Str) : (sg (deedS d x)).length + 1 ≤ 8 * ((sg x).length + 1) := by
  unfold deedS
  unfold DeedOk at h
  cases hd : d.1 with
  | true =>
    rw [hd] at h
    simp only [if_true] at h ⊢
    have := spell_len d.2.toNat (by omega) (sg x)
    unfold spellS; rw [sg_ofL]; omega
  | false =>
    simp only [Bool.false_eq_true, if_false]
    have := dress_len d.2.toNat (sg x)
    unfold dressS; rw [sg_ofL]; omega
theorem fold_len : ∀ (ds : List (Bool × Int)) (x : Str), (∀ d ∈ ds, DeedOk d) → (sg (foldS x ds)).length + 1 ≤ 8 ^ ds.length * ((sg x).length + 1)
  | [], x, _ => by simp [foldS]
  | d :: r, x, h => by
    have h1 := deed_len d (h d (List.mem_cons_self ..)) x
    have h2 := fold_len r (deedS d x) fun e he => h e (List.mem_cons_of_mem _ he)
    show (sg (foldS (deedS d x) r)).length + 1 ≤ _
    rw [List.length_cons, Nat.pow_succ, Nat.mul_assoc]
    exact Nat.le_trans h2 (Nat.mul_le_mul_left _ h1)
theorem fold_small {ds : List (Bool × Int)} {x : Str} (h : ∀ d ∈ ds, DeedOk d) (hl : ds.length ≤ 4) (hx : (sg x).length ≤ 10) : (sg (foldS x ds)).length ≤ 100000 := by
  have h1 := fold_len ds x h
  have h2 : 8 ^ ds.length ≤ 8 ^ 4 := Nat.pow_le_pow_right (by decide) hl
  have h3 : 8 ^ ds.length * ((sg x).length + 1) ≤ 8 ^ 4 * 11 := Nat.mul_le_mul h2 (by omega)
  omega
theorem foldS_snoc (x : Str) (ds : List (Bool × Int)) (d : Bool × Int) : foldS x (ds ++ [d]) = deedS d (foldS x ds) := by unfold foldS; rw [List.foldl_append]; rfl
local macro_rules | `(tactic| walk_at "pyIter ref") => `(tactic| (k_here; (with_reducible show wpAny _ _ _ (ForSrc _ _ _ _ _ _ _ _ _) _ _); refine Mark.out ?_))
local macro_rules | `(tactic| walk_at "exec For Tuple Name cons nil") => `(tactic| (k_here; k_dflt (refine' for_walk ?t0 ?_ ?t2 ?t3; (case t0 => k_asm); (case t2 => (intro _; rfl)); (case t3 => passes_own))))
local macro_rules | `(tactic| walk_at "call builtin:list.append") => `(tactic| (k_here; (with_reducible show wpAny _ _ (call (Value.builtin _) [Value.ref _, _]) _ _ _); k_dflt (refine' append_K ?k1 ?k2 ?k3 ?_ ?z; (case k1 => k_asm); (case k2 => k_asm); (case k3 => k_upd); (case z => (simp only [strValues, List.size_toArray, List.length_map, List.length_append, List.length_cons, List.length_nil]; (try rw [sizeLine_eq]); omega)); k_whole); intro h' F' N'; (try k_sweep)))
local macro_rules | `(tactic| walk_at "subscriptTail") => `(tactic| (k_here; k_dflt ((refine' last_text ?q1 ?q2 ?q3 ?_ ?q4); (case q1 => k_asm); (case q2 => k_mem); (case q3 => decide); (case q4 => with_unfolding_all rfl))))
local macro_rules | `(tactic| walk_at "call ref") => `(tactic| (k_here; k_search (does_dress _ _ _ _ _ _ ?za ?zb ?zc); (case za => assumption); (case zb => assumption); (case zc => assumption); walk_at "used"))
/-- what a writer of one sign's words is told to do -/
structure WrC (w : World) (f : Addr) : Prop where
  fn : ∃ oc od fd sl, (hd.heap_1 w.params).lookup f = some ⟨oc, od, .func fd, sl⟩
  does : ∀ (news : List (Addr × Obj)) (c : Int) (x : Str) (tc tx : Tok), 0 ≤ c → c < 5 → (sg x).length ≤ 100000 → Does w f 2 news [.int c tc, .str x tx] (fun r tl => tl = news ∧ ∃ t, r = .str (spellS c.toNat x) t)
theorem wrUse {w : World} {f : Addr} (h : WrC w f) (news : List (Addr × Obj)) (c : Int) (x : Str) (tc tx : Tok) (h0 : 0 ≤ c) (h5 : c < 5) (hx : (sg x).length ≤ 100000) : Does w f 2 news [.int c tc, .str x tx] (fun r tl => tl = news ∧ ∃ t, r = .str (spellS c.toNat x) t) := h.does news c x tc tx h0 h5 hx
theorem wrFn {w : World} {f : Addr} (h : WrC w f) {g h' : Heap} {L : Addr} {m : Str → Option Value} (X : (hd.heap_1 w.params).In g) (F : Fr g L h' m) : FnAt f h' := by
  obtain ⟨oc, od, fd, sl, e⟩ := h.fn
  exact ⟨oc, od, fd, sl, F.keep _ _ (X _ _ e)⟩
local macro_rules | `(tactic| walk_at "FnAt") => `(tactic| (k_dflt (exact wrFn (by with_reducible assumption) (by k_asm) (by k_asm))))
local macro_rules | `(tactic| walk_at "callWith ref") => `(tactic| (k_here; k_dflt (refine' callWith_F ?k1 ?_; (case k1 => walk_at "FnAt"); k_whole)))
local macro_rules | `(tactic| walk_at "call ref") => `(tactic| (k_here; k_search (wrUse ?zw _ _ _ _ _ ?za ?zb ?zc); (case zw => with_reducible assumption); (case za => assumption); (case zb => assumption); (case zc => assumption); walk_at "used"))
inductive StgJ (news : List (Addr × Obj)) (x : Str) (ds : List (Bool × Int)) (st : Addr) (m₀ : Str → Option Value) (i : Nat) (m₁ : Str → Option Value) (news₁ : List (Addr × Obj)) : Prop
  | mk (l : List (Str × Tok)) (x' : Str) (t : Tok) (k' : Nat) (h1 : news₁ = (st, ({ cls := .type "list", data := .seq (strValues (l ++ [(x', t)])).toArray k' } : Obj)) :: news) (h2 : l.length = i) (h3 : x' = foldS x (ds.take i)) (h4 : l.map (·.1) = (List.range i).map (fun j => foldS x (ds.take j))) (h5 : But [Str.ofString "written", Str.ofString "which"] m₀ m₁) : StgJ news x ds st m₀ i m₁ news₁
set_option maxRecDepth 100000 in
set_option maxHeartbeats 8000000 in
theorem does_stages (w : World) (f : Addr) (hw : WrC w f) (news : List (Addr × Obj)) (x : Str) (a : Addr) (tx : Tok) (vs : List Value) (k : Nat) (ds : List (Bool × Int)) (hm : (a, ({ cls := .type "list", data := .seq vs.toArray k } : Obj)) ∈ news) (hD : Deeds news vs ds) (hok : ∀ d ∈ ds, DeedOk d) (hl : ds.length ≤ 4) (hx : (sg x).length ≤ 10) : Does w 171 4 news [.str x tx, .ref a, .ref f]
    (fun r tl => ∃ a' l k', r = .ref a' ∧ tl = (a', ({ cls := .type "list", data := .seq (strValues l).toArray k' } : Obj)) :: news ∧ (∀ p ∈ news, p.1 < a') ∧ l.map (·.1) = stagesS x ds) := by
  intro mean mg mb dp un gd cn cs a₀ ccd cl outer A₀ base h₀ L m s Q E B F X N T hk hd hu ret
  refine wpAny_call ?_
  k_dflt cell_enter
  rename Fr _ _ _ _ => F0
  refine frZ F0 ?_
  clear F0
  intro mZ FZ
  rename News _ _ _ _ => N0
  refine newsZ N0 ?_
  clear N0
  intro nwZ NZ
  k_steps
  refine Mark.intro ?_
  rename Fr _ _ _ _ => F1
  rename News _ _ _ _ => N1
  refine for_list_on (StgJ news x ds) (by rfl) F1 N1 (Or.inr ⟨_, List.mem_cons_of_mem _ hm, rfl, _, rfl⟩) ⟨[], x, tx, 0, rfl, rfl, rfl, rfl, But.refl⟩ ?turn ?done
  case turn =>
    rintro i v m₁ news₁ I oI g h tk hv ⟨l, x', t, k', rfl, hl1, hx', hl2, hb⟩ hS off hlt F2 N2
    obtain ⟨d, tt, tk2, hd1, rfl, hmt⟩ := hD.at (by simpa using hv)
    have F3 := hb.fr F2
    clear F2
    have hT := News.isTup N2 (List.mem_cons_of_mem _ (List.mem_cons_of_mem _ hmt))
    refine unpackN_ F3 N2 hT rfl rfl rfl ?_
    intro h5 F5 N5
    clear F3 N2 hT
    have hstI := hlt _ (List.mem_cons_self ..)
    dsimp only at hstI
    have hstI2 := ltN hstI
    have hi4 : i < ds.length := (List.getElem?_eq_some_iff.mp hd1).1
    have hdok := hok d (List.mem_of_getElem? hd1)
    have hsm : (sg x').length ≤ 100000 := by
      rw [hx']; exact fold_small (fun e he => hok e (List.mem_of_mem_take he)) (by rw [List.length_take]; omega) hx
    obtain ⟨b, n⟩ := d
    unfold DeedOk at hdok
    cases b
    all_goals
      simp only [if_true, Bool.false_eq_true, if_false] at hdok
      have hd2 := hdok.1
      have hd3 := hdok.2
      clear hdok
      dsimp only at hd2 hd3 F5 ⊢
      k_steps
    all_goals
      refine ForEnd.next (by assumption) (by assumption) _ (fun p hp => hp) ?zoff (Or.inr ⟨_, List.mem_cons_of_mem _ hm, rfl, _, rfl⟩) ⟨l ++ [(x', t)], _, _, k' + 1, congrArg (fun y => (_, ({ cls := .type "list", data := .seq y (k' + 1) } : Obj)) :: news) (push_text _ _ _), by simp [hl1], ?zx, ?zl, ?zb⟩
      case zoff => exact List.forall_mem_cons.mpr ⟨Nat.ne_of_lt hstI, fun p hp => off p (List.mem_cons_of_mem _ hp)⟩
      case zx => rw [List.take_add_one, hd1, Option.toList_some, foldS_snoc, ← hx']; rfl
      case zl => rw [List.map_append, hl2, List.range_succ, List.map_append, hx']; rfl
      case zb =>
        (repeat (first | exact But.refl | exact But.base | refine But.set ?_ (by rfl)))
  case done =>
    rintro h tk m' news' F2 N2 ⟨l, x', t, k', rfl, hl1, hx', hl2, hb⟩
    have F3 := hb.fr F2
    clear F2
    k_steps
    refine ret _ _ _ _ ⟨_, l ++ [(x', t)], k', rfl, rfl, by first | assumption | exact allLt_mem (by assumption), ?_⟩ (by k_asm) (by k_asm)
    have e : l.length = ds.length := by have := hD.length; simp at hl1; omega
    have e2 : vs.toArray.size = ds.length := by rw [← hl1, e]
    rw [e2, List.take_of_length_le (Nat.le_refl _)] at hx'
    rw [e2] at hl2
    unfold stagesS
    rw [List.map_append, hl2, List.range_succ, List.map_append, hx']
    simp
theorem does_stages_spell (w : World) (news : List (Addr × Obj)) (x : Str) (a : Addr) (tx : Tok) (vs : List Value) (k : Nat) (ds : List (Bool × Int)) (hm : (a, ({ cls := .type "list", data := .seq vs.toArray k } : Obj)) ∈ news) (hD : Deeds news vs ds) (hok : ∀ d ∈ ds, DeedOk d) (hl : ds.length ≤ 4) (hx : (sg x).length ≤ 10) : Does w 171 4 news [.str x tx, .ref a, .ref 152]
    (fun r tl => ∃ a' l k', r = .ref a' ∧ tl = (a', ({ cls := .type "list", data := .seq (strValues l).toArray k' } : Obj)) :: news ∧ (∀ p ∈ news, p.1 < a') ∧ l.map (·.1) = stagesS x ds) :=
  does_stages w 152 ⟨⟨_, _, _, _, rfl⟩, fun news c x tc tx h0 h5 hx => does_spell w news c x tc tx h0 h5 hx⟩ news x a tx vs k ds hm hD hok hl hx
theorem does_stages_write (w : World) (news : List (Addr × Obj)) (x : Str) (a : Addr) (tx : Tok) (vs : List Value) (k : Nat) (ds : List (Bool × Int)) (hm : (a, ({ cls := .type "list", data := .seq vs.toArray k } : Obj)) ∈ news) (hD : Deeds news vs ds) (hok : ∀ d ∈ ds, DeedOk d) (hl : ds.length ≤ 4) (hx : (sg x).length ≤ 10) : Does w 171 4 news [.str x tx, .ref a, .ref 159]
    (fun r tl => ∃ a' l k', r = .ref a' ∧ tl = (a', ({ cls := .type "list", data := .seq (strValues l).toArray k' } : Obj)) :: news ∧ (∀ p ∈ news, p.1 < a') ∧ l.map (·.1) = stagesS x ds) :=
  does_stages w 159 ⟨⟨_, _, _, _, rfl⟩, fun news c x tc tx h0 h5 hx => does_write w news c x tc tx h0 h5 hx⟩ news x a tx vs k ds hm hD hok hl hx
end Mine
end
section
example : True := by w_top off; trivial
open PySem PySem.W PyProof.Rows PyProof.Rows.LCg
namespace Mine
local macro_rules | `(tactic| walk_at "pyIter ref") => `(tactic| (k_here; (with_reducible show wpAny _ _ _ (ForSrc _ _ _ _ _ _ _ _ _) _ _); refine Mark.out ?_))
local macro_rules | `(tactic| walk_at "exec For Tuple Subscript cons nil") => `(tactic| (k_here; k_dflt (refine' for_walk ?t0 ?_ ?t2 ?t3; (case t0 => k_asm); (case t2 => (intro _; rfl)); (case t3 => passes_own))))
theorem Deeds.drop {news : List (Addr × Obj)} : ∀ {vs : List Value} {ds : List (Bool × Int)} (n : Nat), Deeds news vs ds → Deeds news (vs.drop n) (ds.drop n)
  | _, _, 0, h => h
  | [], [], _ + 1, _ => trivial
  | _ :: _, _ :: _, n + 1, h => Deeds.drop n h.2
theorem Deeds.take {news : List (Addr × Obj)} : ∀ {vs : List Value} {ds : List (Bool × Int)} (n : Nat), Deeds news vs ds → Deeds news (vs.take n) (ds.take n)
  | _, _, 0, _ => by simp [Deeds]
  | [], [], _ + 1, _ => trivial
  | _ :: _, _ :: _, n + 1, h => ⟨h.1, Deeds.take n h.2⟩
/-- the signs that the writings among the deeds spell otherwise -/
noncomputable def lostOf (d : Bool × Int) : List Nat := if d.1 then ((tab d.2.toNat).map (·.1)).filter (· != 38) else []
noncomputable def lostL (ds : List (Bool × Int)) : List Nat := ds.flatMap lostOf
theorem tab_len : ∀ h : Nat, (tab h).length ≤ 7
  | 0 | 1 | 2 | 3 => by decide
  | _ + 4 => by show 3 ≤ 7; decide
theorem lostOf_len (d : Bool × Int) : (lostOf d).length ≤ 7 := by
  unfold lostOf
  split
  · have h1 := tab_len d.2.toNat
    have h2 := List.length_filter_le (· != 38) ((tab d.2.toNat).map (·.1))
    rw [List.length_map] at h2; omega
  · simp
theorem lostL_len (ds : List (Bool × Int)) : (lostL ds).length ≤ 7 * ds.length := by
  induction ds with
  | nil => simp [lostL]
  | cons d r ih =>
    have := lostOf_len d
    unfold lostL at ih ⊢
    rw [List.flatMap_cons, List.length_append, List.length_cons]; omega
theorem lostL_snoc (ds : List (Bool × Int)) (d : Bool × Int) : lostL (ds ++ [d]) = lostL ds ++ lostOf d := by
  unfold lostL; rw [List.flatMap_append]; simp
noncomputable def spelledL (x : Str) (ls : List Nat) : List Nat := (sg x).filter fun c => ls.contains c
noncomputable def priceI (a b : Str) (ds : List (Bool × Int)) : Int := 2 * ((b.length : Int) - a.length + (spelledL a (lostL ds)).length)
noncomputable abbrev one (c : Nat) : Str := ⟨#[c]⟩
theorem strsAre : ∀ l : List (Str × Tok), StrsAre (strValues l) (l.map (·.1))
  | [] => .nil
  | p :: r => .cons p.1 p.2 (strsAre r)
theorem any_one (ls : List Nat) (c : Nat) : (ls.map one).any (· == (⟨#[c]⟩ : Str)) = ls.contains c := by
  induction ls with
  | nil => rfl
  | cons a r ih =>
    rw [List.map_cons, List.any_cons, ih, List.contains_cons]
    congr 1
    by_cases e : a = c
    · simp [e]
    · have h1 : (one a == (⟨#[c]⟩ : Str)) = false := by
        apply Bool.eq_false_iff.mpr; intro hh; have q := eq_of_beq hh; injection q with q; simp at q; exact e q
      have h2 : (c == a) = false := by simpa using fun q => e q.symm
      rw [h1, h2]
local macro_rules | `(tactic| walk_at "compareOp In str ref") => `(tactic| (k_here; k_dflt (refine in_list_strs (News.isList (by k_asm) (by k_mem)) (strsAre _) ?_)))
local macro_rules | `(tactic| walk_at "eval ListComp") => `(tactic| (k_here; k_dflt (refine comp_srcT (by k_asm) (by with_unfolding_all rfl) (by decide) (by rfl) (by decide) (by rfl) ?_)))
local macro_rules | `(tactic| walk_at "pyIter str") => `(tactic| (k_here; (with_reducible show wpAny _ _ _ (SrcT _ _ _ _ _ _ _ _ _ _ _ _ _) _ _); refine Mark.out ?_))
local macro_rules | `(tactic| walk_at "pyIter ref") => `(tactic| (k_here; (with_reducible show wpAny _ _ _ (SrcT _ _ _ _ _ _ _ _ _ _ _ _ _) _ _); refine Mark.out ?_))
local macro_rules | `(tactic| walk_at "exec Assign cons ListComp") => `(tactic| (k_here; k_dflt (refine assign_strT (by k_asm) (by with_unfolding_all rfl) (by with_unfolding_all rfl) (by decide) (by rfl) (by decide) (by rfl) (by rfl) (by rfl) ?_)))
theorem item_text {prog : Program} {w : World} {A : Around} {E : Value → Shared → Prop} {s : Shared} {h₀ : Heap} {value slice : Expr} {L st : Addr} {k : Nat} {i : Int} {u : Tok} {x : Str} {t : Tok} {l : List (Str × Tok)} {news : List (Addr × Obj)} {Q : Value → Shared → Prop} (N : News h₀ L s.heap news)
    (hm : (st, ({ cls := .type "list", data := .seq (strValues l).toArray k } : Obj)) ∈ news) (hi : l[i.toNat]? = some (x, t)) (h0 : 0 ≤ i) (h1 : i < 2 ^ 63) (h : Q (.str x t) s)
    (hs : subscripted slice false (.ref st) (.int i u) = operate [.ref st, .int i u] (getItem (.ref st) (.int i u)) := by with_unfolding_all rfl) :
    wpAny (model prog w) A (subscriptTail value slice (.ref st) (.int i u)) Q E s :=
  item_litK (News.isList N hm) h0 h1 (by unfold strValues; rw [List.getElem?_map, hi]; rfl) h hs
theorem len_texts {prog : Program} {w : World} {A : Around} {E : Value → Shared → Prop} {s : Shared} {h₀ : Heap} {L st : Addr} {k : Nat} {l : List (Str × Tok)} {news : List (Addr × Obj)} {Q : Value → Shared → Prop} (N : News h₀ L s.heap news)
    (hm : (st, ({ cls := .type "list", data := .seq (strValues l).toArray k } : Obj)) ∈ news) (hl : l.length ≤ 1000000) (h : ∀ t k, Q (.int (l.length : Int) t) { s with toks := k }) :
    wpAny (model prog w) A (call (.builtin "len") [.ref st]) Q E s := by
  have e : (strValues l).toArray.size = l.length := by simp [strValues]
  refine Calls.call_len_list (News.isList N hm) (by rw [e]; omega) ?_
  rw [e]
  exact h _ _
local macro_rules | `(tactic| walk_at "call builtin:len") => `(tactic| (k_here; (with_reducible show wpAny _ _ (call (Value.builtin "len") [Value.ref _]) _ _ _); k_dflt ((refine' len_texts ?q1 ?q2 ?q3 ?_); (case q1 => k_asm); (case q2 => k_mem); (case q3 => omega)); intro _ _))
local macro_rules | `(tactic| walk_at "subscriptTail") => `(tactic| (k_here; k_dflt ((refine' item_text ?q1 ?q2 ?q3 ?q5 ?q6 ?_ ?q4); (case q1 => k_asm); (case q2 => k_mem); (case q3 => assumption); (case q5 => omega); (case q6 => omega); (case q4 => with_unfolding_all rfl))))
inductive PrJK (ds : List (Bool × Int)) (be en : Int) (m₀ : Str → Option Value) (i : Nat) (m₁ : Str → Option Value) (news₁ : List (Addr × Obj)) (a : Addr × Obj) (b : Addr × Obj) (rest : List (Addr × Obj)) : Prop
  | mk (l : List (Str × Tok)) (k' : Nat) (h1 : news₁ = a :: (b.1, ({ cls := .type "list", data := .seq (strValues l).toArray k' } : Obj)) :: rest) (h2 : l.map (·.1) = (lostL (((ds.drop be.toNat).take (en.toNat - be.toNat)).take i)).map one) (h3 : But [Str.ofString "written", Str.ofString "which"] m₀ m₁) : PrJK ds be en m₀ i m₁ news₁ a b rest
noncomputable abbrev PrJ (ds : List (Bool × Int)) (be en : Int) (nw : List (Addr × Obj)) (m₀ : Str → Option Value) (i : Nat) (m₁ : Str → Option Value) (news₁ : List (Addr × Obj)) : Prop := match nw with
  | a :: b :: rest => PrJK ds be en m₀ i m₁ news₁ a b rest
  | _ => False
set_option maxRecDepth 100000 in
set_option maxHeartbeats 8000000 in
theorem does_price (w : World) (news : List (Addr × Obj)) (a b : Addr) (be en : Int) (tb te : Tok) (ld : List (Str × Tok)) (kd k : Nat) (vs : List Value) (ds : List (Bool × Int)) (hdue : (a, ({ cls := .type "list", data := .seq (strValues ld).toArray kd } : Obj)) ∈ news) (hm : (b, ({ cls := .type "list", data := .seq vs.toArray k } : Obj)) ∈ news) (hD : Deeds news vs ds) (hok : ∀ d ∈ ds, DeedOk d) (hl : ds.length ≤ 4) (hvl : vs.length ≤ 4)
    (hld : ld.length = 5) (hsm : ∀ p ∈ ld, (sg p.1).length ≤ 100000) (h0 : 0 ≤ be) (h1 : be ≤ en) (h2 : en ≤ 4) (xb xe : Str) (txb txe : Tok) (hxb : ld[be.toNat]? = some (xb, txb)) (hxe : ld[en.toNat]? = some (xe, txe)) : Does w 188 4 news [.ref a, .ref b, .int be tb, .int en te]
    (fun r tl => tl = news ∧ ∃ t, r = .int (priceI xb xe ((ds.drop be.toNat).take (en.toNat - be.toNat))) t) := by
  intro mean mg mb dp un gd cn cs a₀ ccd cl outer A₀ base h₀ L m s Q E B F X N T hk hd hu ret
  refine wpAny_call ?_
  k_dflt (refine' code_defC ?k1 ?k2 ?k3 ?k4 ?k5 ?kA ?kF ?kK ?k6 ?k7 ?k8 ?k9 ?kB ?kD ?_ ?c2 ?c3 ?c4; (case kA => exact rfl); (case kF => exact rfl); (case kK => assumption); (case k1 => k_asm); (case k2 => k_asm); (case k3 => k_asm); (case k4 => k_asm); (case k5 => k_asm); (case k6 => k_is); (case k7 => k_is); (case k8 => ktr_room); (case k9 => exact BindsTo.of_eq rfl); (case kB => exact rfl); (case kD => decide +kernel); (case c2 => exact rfl); (case c3 => exact rfl); (case c4 => exact rfl); k_whole; intro g' L' h' tk' cells' FG' F' N' Y' B' X' T' l1; (try k_lt l1); k_cells Y'; (try simp only [List.cons_append, List.nil_append] at N'); (try dsimp only); (try k_lift B'); (try k_fold))
  rename Fr _ _ _ _ => F0
  refine frZ F0 ?_
  clear F0
  intro mZ FZ
  rename News _ _ _ _ => N0
  refine newsZ N0 ?_
  clear N0
  intro nwZ NZ
  k_steps
  refine Mark.intro ?_
  rename Fr _ _ _ _ => F1
  rename News _ _ _ _ => N1
  refine for_list_all (PrJ ds be en) (by rfl) F1 N1 (Or.inr ⟨_, List.mem_cons_self .., rfl, _, rfl⟩) ⟨[], 0, rfl, rfl, But.refl⟩ ?turn ?done
  case turn =>
    rintro i v m₁ news₁ I oI g h tk hv ⟨l, k', rfl, hl2, hb⟩ hS offI hlt F2 N2
    obtain ⟨d, tt, tk2, hd1, rfl, hmt⟩ := ((hD.drop be.toNat).take (en.toNat - be.toNat)).at (by simpa using hv)
    have F3 := hb.fr F2
    clear F2
    have hT := News.isTup N2 (by k_mem)
    refine unpackN_ F3 N2 hT rfl rfl rfl ?_
    intro h5 F5 N5
    clear F3 N2 hT
    have hdok := hok d (List.mem_of_mem_drop (List.mem_of_mem_take (List.mem_of_getElem? hd1)))
    obtain ⟨b', n⟩ := d
    unfold DeedOk at hdok
    cases b'
    all_goals
      simp only [if_true, Bool.false_eq_true, if_false] at hdok
      have hd2 := hdok.1
      have hd3 := hdok.2
      clear hdok
      dsimp only at hd2 hd3 F5 ⊢
      k_steps
    · refine ForEnd.next (by assumption) (by assumption) _ (fun p hp => hp) offI hS ⟨l, k', rfl, ?_, ?_⟩
      · rw [List.take_add_one, hd1, Option.toList_some, lostL_snoc, hl2]; simp [lostOf]
      · (repeat (first | exact But.refl | exact But.base | refine But.set ?_ (by rfl)))
    · refine Mark.intro ?_
      have hn5 : n.toNat < 5 := by omega
      refine src_dictT (by rfl) (by k_asm) (by k_asm) (by k_mem) (by assumption) (by assumption) ?zsz (fun h => restT_keep ((tab n.toNat).map (·.1)) (fun c => c != 38) _ (keys_len (by assumption)) (by k_mem) (keys_at (by assumption)) ?zturn ?zfin)
      case zsz => rw [keys_len (by assumption), sizeLine_eq, List.length_map]; have : ∀ h < 5, (tab h).length ≤ 100 := by decide +kernel
                  exact Nat.le_trans (this _ hn5) (by decide)
      case zturn =>
        intro c' t I oI C oC D m₂ ys h tk E' hc hC hx F N off ne
        k_steps
        · refine CompEnd.intro (by assumption) (by assumption) _ (fun p hp => hp) off (by k_mem) ⟨?_, rfl, _, rfl⟩
          rename (!_) = true => hq
          refine bne_iff_ne.mpr fun e => ?_
          rw [e] at hq
          revert hq; decide +kernel
        · refine CompEnd.intro (by assumption) (by assumption) _ (fun p hp => hp) off (by k_mem) ⟨?_, rfl⟩
          rename (!_) = false => hq
          rw [bne_eq_false_iff_eq]
          have e := eq_of_beq (by simpa using hq : ((⟨#[c']⟩ : Str) == Str.ofString "&") = true)
          have e2 : Str.ofString "&" = ⟨#[38]⟩ := by decide +kernel
          rw [e2] at e
          simpa using e
      case zfin =>
        intro l3 hl3 D h tk F N off
        dsimp only
        k_steps
        have hle1 : l.length ≤ 28 := by
          have h1 := congrArg List.length hl2
          rw [List.length_map, List.length_map] at h1
          have h2 := lostL_len (((ds.drop be.toNat).take (en.toNat - be.toNat)).take i)
          have h3 : (((ds.drop be.toNat).take (en.toNat - be.toNat)).take i).length ≤ 4 := by
            rw [List.length_take, List.length_take, List.length_drop]; exact Nat.le_trans (Nat.min_le_right _ _) (Nat.le_trans (Nat.min_le_right _ _) (Nat.le_trans (Nat.sub_le _ _) hl))
          omega
        have hle2 : l3.length ≤ 7 := by
          have h1 := congrArg List.length hl3
          rw [List.length_map, List.length_map] at h1
          have h2 := List.length_filter_le (· != 38) ((tab n.toNat).map (·.1))
          have h3 := tab_len n.toNat
          rw [List.length_map] at h2; omega
        have hle3 : l3.length ≠ 0 := by
          have h1 := congrArg List.length hl3
          rw [List.length_map, List.length_map] at h1
          have : ∀ h < 5, (((tab h).map (·.1)).filter (· != 38)).length ≠ 0 := by decide +kernel
          rw [h1]; exact this _ hn5
        dsimp only [Off1] at off
        have a1 := ltN (hlt _ (List.mem_cons_self ..))
        have a2 := ltN (hlt _ (List.mem_cons_of_mem _ (List.mem_cons_self ..)))
        have a3 := ltN (hlt _ (List.mem_cons_of_mem _ (List.mem_cons_of_mem _ (List.mem_cons_self ..))))
        dsimp only at a1 a2 a3
        have s1 : (strValues l).length = l.length := by simp [strValues]
        have s3 : (strValues l3).length = l3.length := by simp [strValues]
        refine kl_extend (its := (strValues l).toArray) (its2 := (strValues l3).toArray) (l := strValues (l ++ l3)) (by k_asm) (by k_asm) (by k_mem) (by simp [strValues]) (by simpa [strValues] using hle3) (by k_upd) (extend_door (by rw [List.size_toArray, List.size_toArray, s1, s3, sizeLine_eq]; omega)) (by simp only [s1, sizeLine_eq]; omega) (by rw [List.size_toArray, List.size_toArray, s1, s3, sizeLine_eq]; omega) ?_
        intro h' F' N'
        dsimp only at N'
        k_steps
        refine ForEnd.next (by assumption) (by assumption) _ (fun p hp => List.mem_cons_of_mem _ (List.mem_cons_of_mem _ hp)) ?zo (Or.inr ⟨_, List.mem_cons_self .., rfl, _, rfl⟩) ⟨l ++ l3, k' + 1, rfl, ?zl, ?zb⟩
        case zo => exact List.forall_mem_cons.mpr ⟨Nat.ne_of_lt a1, List.forall_mem_cons.mpr ⟨Nat.ne_of_lt a2, fun p hp => offI p (List.mem_cons_of_mem _ (List.mem_cons_of_mem _ hp))⟩⟩
        case zl =>
          rw [List.take_add_one, hd1, Option.toList_some, lostL_snoc, List.map_append, hl2, hl3, List.map_append]
          rfl
        case zb =>
          (repeat (first | exact But.refl | exact But.base | refine But.set ?_ (by rfl)))
  case done =>
    rintro h tk m' news' F2 N2 ⟨l, k', rfl, hl2, hb⟩
    have F3 := hb.fr F2
    clear F2
    k_steps
    have hl2 : l.map (·.1) = (lostL ((ds.drop be.toNat).take (en.toNat - be.toNat))).map one := by
      rw [hl2, List.take_of_length_le]
      have := hD.length
      simp only [List.size_toArray, List.length_take, List.length_drop, this]; exact Nat.le_refl _
    refine ⟨xb, txb, _, rfl, rfl, by assumption, by assumption, ?zs, fun h => restT_keep (sg xb) (fun c => (lostL ((ds.drop be.toNat).take (en.toNat - be.toNat))).contains c) _ (by rw [Array.length_toList]) trivial (fun i v _ hv => sign_at i v hv) ?zturn ?zfin⟩
    case zs => rw [length_sg, sizeLine_eq]; have := hsm _ (List.mem_of_getElem? hxb); dsimp only at this; omega
    case zturn =>
      intro c' t I oI C oC D m₂ ys h tk E' hc hC hx F N off ne
      k_steps
      · refine CompEnd.intro (by assumption) (by assumption) _ (fun p hp => hp) off trivial ⟨?_, rfl, _, rfl⟩
        rename List.any _ _ = true => hq
        rw [hl2, any_one] at hq
        simpa using hq
      · refine CompEnd.intro (by assumption) (by assumption) _ (fun p hp => hp) off trivial ⟨?_, rfl⟩
        rename List.any _ _ = false => hq
        rw [hl2, any_one] at hq
        simpa using hq
    case zfin =>
      intro l3 hl3 D h tk F N off
      have hxb1 : xb.length ≤ 100000 := by rw [length_sg]; exact hsm _ (List.mem_of_getElem? hxb)
      have hxe1 : xe.length ≤ 100000 := by rw [length_sg]; exact hsm _ (List.mem_of_getElem? hxe)
      have hle3 : l3.length ≤ 100000 := by
        have h1 := congrArg List.length hl3
        rw [List.length_map, List.length_map] at h1
        have h2 := List.length_filter_le (fun c => (lostL ((ds.drop be.toNat).take (en.toNat - be.toNat))).contains c) (sg xb)
        rw [length_sg] at hxb1; omega
      dsimp only
      k_steps
      refine ret _ news _ _ ⟨rfl, _, eqI ?_⟩ (by k_asm) (by first | k_asm | (refine' cb_drop ?cbN ?cbS; (case cbN => assumption); (case cbS => (intro p hp; (repeat (first | exact hp | apply List.Mem.tail))))))
      unfold priceI spelledL
      have h1 := congrArg List.length hl3
      rw [List.length_map, List.length_map] at h1
      rw [h1]
end Mine
end
section
example : True := by w_top off; trivial
open PySem PySem.W PyProof.Rows PyProof.Rows.LCg
namespace Mine
theorem ints_snoc {n : Int} {t : Tok} : ∀ {vs : List Value} {ns : List Int}, IntsAre vs ns → IntsAre (vs ++ [.int n t]) (ns ++ [n])
  | _, _, .nil => .cons n t .nil
  | _, _, .cons k u r => .cons k u (ints_snoc r)
/-- the numbers of a range, some of them kept -/
theorem restT_ints {prog : Program} {w : World} {A : Around} {s : Shared} {h₀ : Heap} {L : Addr} {m : Str → Option Value} {env : Env} {ct elt : Expr} {x : Str} {scope : Scope} {cl : List (Str × Addr)} {S : List (Addr × Obj) → Prop} {news : List (Addr × Obj)} {Fin : List Value → List (Addr × Obj) → Prop} (p : Nat → Bool) (n : Nat) (hS : S news)
    (turn : ∀ i t I oI C oC D m₂ ys h tk (E' : Value → Shared → Prop), i < n → NsObj oC m₂ → m₂ x = some (.int (i : Int) t) → Fr h₀ L h m → News h₀ L h ((I, oI) :: (C, oC) :: (D, lst ys) :: news) → Off3 I C D news → ((@Ne Nat I C) ∧ (@Ne Nat I D) ∧ (@Ne Nat C D)) →
      wpAny (model prog w) A (isTrue ct (compEnvC scope cl C env) (eval ct (compEnvC scope cl C env))) (fun ok s' => if ok = true then
        wpAny (model prog w) A (eval elt (compEnvC scope cl C env)) (CompEnd h₀ L m { s with heap := h, toks := tk } I oI C oC D (lst ys) S (fun y news' => p i = true ∧ news' = news ∧ ∃ t : Tok, y = .int (i : Int) t)) E' s'
        else CompEnd h₀ L m { s with heap := h, toks := tk } I oI C oC D (lst ys) S (fun _ news' => p i = false ∧ news' = news) Value.none s') E' { s with heap := h, toks := tk })
    (fin : ∀ ys, IntsAre ys (((List.range n).filter p).map (fun i : Nat => (i : Int))) → Fin ys news) :
    LCt.CompRestT prog w A h₀ L m env ct elt x scope cl s S (fun i v => ∃ t, v = .int (0 + (i : Int)) t) Fin n 0 [] news := by
  have key : ∀ (j i : Nat) (ys : List Value), i + j = n → IntsAre ys (((List.range i).filter p).map (fun i : Nat => (i : Int))) → LCt.CompRestT prog w A h₀ L m env ct elt x scope cl s S (fun i v => ∃ t, v = .int (0 + (i : Int)) t) Fin j i ys news := by
    intro j
    induction j with
    | zero =>
      intro i ys hi hl
      have : i = n := by omega
      subst this
      exact LCt.CompRestT.zero (fin ys hl)
    | succ j ih =>
      intro i ys hi hl
      refine LCt.CompRestT.succ ?_
      intro v I oI C oC D m₂ h tk E' hv hC hx F N off ne
      obtain ⟨t, rfl⟩ := hv
      rw [Int.zero_add] at hx
      refine wpAny_mono (turn i t I oI C oC D m₂ _ h tk E' (by omega) hC hx F N off ne) (fun ok s₂ hq => ?_) fun _ _ e => e
      cases ok with
      | true =>
        simp only [if_true] at hq ⊢
        refine wpAny_mono hq (fun r s₃ hr => ?_) fun _ _ e => e
        obtain ⟨h', tk', nw, e, F', N', off', hS', hp, hnw, t', hr⟩ := hr
        rw [hnw] at N' off' hS'
        refine ⟨h', tk', news, e, F', N', off', hS', ?_⟩
        rw [hr]
        refine ih (i + 1) _ (by omega) ?_
        rw [List.range_succ, List.filter_append, List.map_append, List.filter_cons_of_pos hp]
        exact ints_snoc hl
      | false =>
        simp only [Bool.false_eq_true, if_false] at hq ⊢
        obtain ⟨h', tk', nw, e, F', N', off', hS', hp, hnw⟩ := hq
        rw [hnw] at N' off' hS'
        refine ⟨h', tk', news, e, F', N', off', hS', ?_⟩
        refine ih (i + 1) ys (by omega) ?_
        rw [List.range_succ, List.filter_append, List.filter_cons_of_neg (by rw [hp]; exact Bool.false_ne_true)]
        simpa using hl
  exact key n 0 [] (by omega) .nil
noncomputable def undress : List (Bool × Int) → List (Bool × Int)
  | [] => []
  | d :: r => if d.1 = false ∧ (∀ e ∈ r, e.1 = true) then r else d :: undress r
theorem undress_at : ∀ {ds : List (Bool × Int)} {j : Nat}, (ds[j]?.map (·.1)) = some false → (∀ i, (ds[i]?.map (·.1)) = some false → i ≤ j) → ds.take j ++ ds.drop (j + 1) = undress ds
  | d :: r, 0, h, hm => by
    have h1 : d.1 = false := by simpa using h
    have h2 : ∀ e ∈ r, e.1 = true := by
      intro e he
      cases hb : e.1 with
      | true => rfl
      | false =>
        obtain ⟨i, hi, q⟩ := List.getElem_of_mem he
        have := hm (i + 1) (by simp [List.getElem?_eq_getElem hi, q, hb])
        omega
    unfold undress
    rw [if_pos ⟨h1, h2⟩]; rfl
  | d :: r, j + 1, h, hm => by
    have h2 : ¬ (d.1 = false ∧ (∀ e ∈ r, e.1 = true)) := by
      rintro ⟨_, h2⟩
      have h' : (r[j]?.map (·.1)) = some false := by simpa using h
      cases q : r[j]? with
      | none => rw [q] at h'; cases h'
      | some e =>
        rw [q] at h'
        have := h2 e (List.mem_of_getElem? q)
        simp [this] at h'
    unfold undress
    rw [if_neg h2, ← undress_at (ds := r) (j := j) (by simpa using h) (fun i hi => by have := hm (i + 1) (by simpa using hi); omega)]
    rfl
theorem Deeds.append {news : List (Addr × Obj)} : ∀ {vs ws : List Value} {ds es : List (Bool × Int)}, Deeds news vs ds → Deeds news ws es → Deeds news (vs ++ ws) (ds ++ es)
  | [], _, [], _, _, h => h
  | _ :: _, _, _ :: _, _, h, h' => ⟨h.1, Deeds.append h.2 h'⟩
theorem undress_deeds {news : List (Addr × Obj)} {vs : List Value} {ds : List (Bool × Int)} {j : Nat} (hD : Deeds news vs ds) (h : (ds[j]?.map (·.1)) = some false) (hm : ∀ i, (ds[i]?.map (·.1)) = some false → i ≤ j) : Deeds news (vs.take j ++ vs.drop (j + 1)) (undress ds) := by
  rw [← undress_at h hm]
  exact Deeds.append (hD.take j) (hD.drop (j + 1))
theorem und_fin {s : Shared} {tn : List (Addr × Obj)} {h₀ h' : Heap} {L d : Addr} {m : Str → Option Value} {news news' : List (Addr × Obj)} {ws : List Value} {k' : Nat} {ds : List (Bool × Int)} {Q : Value → Shared → Prop} {tk' : Nat}
    (ret : ∀ (r : Value) (tl : List (Addr × Obj)) (h' : Heap) (tk' : Nat), (fun r tl => ∃ a' k' vs', r = Value.ref a' ∧ tl = (a', ({ cls := .type "list", data := .seq vs'.toArray k' } : Obj)) :: news ∧ (∀ p ∈ news, p.1 < a') ∧ Deeds tn vs' (undress ds)) r tl → Fr h₀ L h' m → News h₀ L h' tl → Q r { s with heap := h', toks := tk' })
    (F : Fr h₀ L h' m) (N : News h₀ L h' news') (hm : (d, ({ cls := .type "list", data := .seq ws.toArray k' } : Obj)) ∈ news') (hs : ∀ p ∈ news, p ∈ news') {mid : List (Addr × Obj)} (hl : ∀ p ∈ mid, p.1 < d) (hs2 : ∀ p ∈ news, p ∈ mid) (hd : Deeds tn ws (undress ds)) :
    Q (.ref d) { s with heap := h', toks := tk' } :=
  ret _ _ _ _ ⟨d, k', ws, rfl, rfl, fun p hp => hl p (hs2 p hp), hd⟩ F (cb_drop N (List.forall_mem_cons.mpr ⟨hm, hs⟩))
theorem len_made {prog : Program} {w : World} {A : Around} {E : Value → Shared → Prop} {s : Shared} {h₀ : Heap} {L st : Addr} {k : Nat} {l : List Value} {news : List (Addr × Obj)} {Q : Value → Shared → Prop} (N : News h₀ L s.heap news)
    (hm : (st, ({ cls := .type "list", data := .seq l.toArray k } : Obj)) ∈ news) (hl : l.length ≤ 1000000) (h : ∀ t k, Q (.int (l.length : Int) t) { s with toks := k }) :
    wpAny (model prog w) A (call (.builtin "len") [.ref st]) Q E s := by
  have e : l.toArray.size = l.length := by simp
  refine Calls.call_len_list (News.isList N hm) (by rw [e]; omega) ?_
  rw [e]
  exact h _ _
local macro_rules | `(tactic| walk_at "call builtin:len") => `(tactic| (k_here; (with_reducible show wpAny _ _ (call (Value.builtin "len") [Value.ref _]) _ _ _); k_dflt ((refine' len_made ?q1 ?q2 ?q3 ?_); (case q1 => k_asm); (case q2 => k_mem); (case q3 => omega)); intro _ _))
theorem item_any {prog : Program} {w : World} {A : Around} {E : Value → Shared → Prop} {s : Shared} {h₀ : Heap} {value slice : Expr} {L st : Addr} {k : Nat} {i : Int} {u : Tok} {v : Value} {l : List Value} {news : List (Addr × Obj)} {Q : Value → Shared → Prop} (N : News h₀ L s.heap news)
    (hm : (st, ({ cls := .type "list", data := .seq l.toArray k } : Obj)) ∈ news) (hi : l[i.toNat]? = some v) (h0 : 0 ≤ i) (h1 : i < 2 ^ 63) (h : Q v s)
    (hs : subscripted slice false (.ref st) (.int i u) = operate [.ref st, .int i u] (getItem (.ref st) (.int i u)) := by with_unfolding_all rfl) :
    wpAny (model prog w) A (subscriptTail value slice (.ref st) (.int i u)) Q E s :=
  item_litK (News.isList N hm) h0 h1 hi h hs
theorem item_tup0 {prog : Program} {w : World} {A : Around} {E : Value → Shared → Prop} {s : Shared} {h₀ : Heap} {value slice : Expr} {L st : Addr} {u tk : Tok} {b : Bool} {i n : Int} {news : List (Addr × Obj)} {Q : Value → Shared → Prop} (N : News h₀ L s.heap news)
    (hi : i = 0) (hm : (st, tupO b n tk) ∈ news) (h : Q (.bool b) s)
    (hs : subscripted slice false (.ref st) (.int i u) = operate [.ref st, .int i u] (getItem (.ref st) (.int i u)) := by with_unfolding_all rfl) :
    wpAny (model prog w) A (subscriptTail value slice (.ref st) (.int i u)) Q E s := by
  subst hi
  exact item_tupleT (News.isTup N hm) (by decide) (by decide) (j := 0) rfl rfl h hs
local macro_rules | `(tactic| walk_at "subscriptTail") => `(tactic| (k_here; k_dflt ((refine' item_any ?q1 ?q2 ?q3 ?q5 ?q6 ?_ ?q4); (case q1 => k_asm); (case q2 => k_mem); (case q3 => assumption); (case q5 => omega); (case q6 => omega); (case q4 => with_unfolding_all rfl))))
local macro_rules | `(tactic| walk_at "subscriptTail") => `(tactic| (k_here; k_dflt ((refine' item_tup0 ?q1 ?q3 ?q2 ?_ ?q4); (case q3 => with_reducible rfl); (case q1 => k_asm); (case q2 => k_mem); (case q4 => with_unfolding_all rfl))))
set_option maxRecDepth 100000 in
set_option maxHeartbeats 8000000 in
theorem does_undressed (w : World) (news : List (Addr × Obj)) (b : Addr) (k : Nat) (vs : List Value) (ds : List (Bool × Int)) (hm : (b, ({ cls := .type "list", data := .seq vs.toArray k } : Obj)) ∈ news) (tn : List (Addr × Obj)) (hD : Deeds tn vs ds) (htn : ∀ p ∈ tn, p ∈ news) (hl : ds.length ≤ 4) (hvl : vs.length ≤ 4) (hex : ∃ d ∈ ds, d.1 = false) :
   Does w 176 4 news [.ref b]
    (fun r tl => ∃ a' k' vs', r = .ref a' ∧ tl = (a', ({ cls := .type "list", data := .seq vs'.toArray k' } : Obj)) :: news ∧ (∀ p ∈ news, p.1 < a') ∧ Deeds tn vs' (undress ds)) := by
  intro mean mg mb dp un gd cn cs a₀ ccd cl outer A₀ base h₀ L m s Q E B F X N T hk hd hu ret
  refine wpAny_call ?_
  k_dflt (refine' code_defC ?k1 ?k2 ?k3 ?k4 ?k5 ?kA ?kF ?kK ?k6 ?k7 ?k8 ?k9 ?kB ?kD ?_ ?c2 ?c3 ?c4; (case kA => exact rfl); (case kF => exact rfl); (case kK => assumption); (case k1 => k_asm); (case k2 => k_asm); (case k3 => k_asm); (case k4 => k_asm); (case k5 => k_asm); (case k6 => k_is); (case k7 => k_is); (case k8 => ktr_room); (case k9 => exact BindsTo.of_eq rfl); (case kB => exact rfl); (case kD => decide +kernel); (case c2 => exact rfl); (case c3 => exact rfl); (case c4 => exact rfl); k_whole; intro g' L' h' tk' cells' FG' F' N' Y' B' X' T' l1; (try k_lt l1); k_cells Y'; (try simp only [List.cons_append, List.nil_append] at N'); (try dsimp only); (try k_lift B'); (try k_fold))
  k_steps
  refine Mark.intro ?_
  refine LCt.CompSrcT.range (n := vs.length) (by rfl) (by k_asm) (by k_asm) (by assumption) ?small ?size (by rw [sizeLine_eq]; omega) (fun g => restT_ints (fun i => match ds[i]? with | some d => !d.1 | none => false) vs.length trivial ?turn ?fin)
  case small => exact (by decide +kernel : ∀ n < 5, Builtin.Range.small 0 ((n : Nat) : Int) 1 = true) _ (Nat.lt_succ_of_le hvl)
  case size => exact (by decide +kernel : ∀ n < 5, Builtin.Range.rangeSize 0 ((n : Nat) : Int) 1 = ((n : Nat) : Int)) _ (Nat.lt_succ_of_le hvl)
  case turn =>
    intro i t I oI C oC D m₂ ys h tk E' hi hC hx F N off ne
    obtain ⟨d, tt, tk2, hd1, e, hmt⟩ := hD.at (i := i) (v := vs[i]) (by simp [hi])
    have hmt := htn _ hmt
    have hvi : vs[((i : Nat) : Int).toNat]? = some (.ref tt) := by rw [Int.toNat_natCast, ← e]; simp [hi]
    k_steps
    all_goals rename d.1 = _ => hq
    · refine CompEnd.intro (by assumption) (by assumption) _ (fun p hp => hp) off trivial ⟨?_, rfl⟩
      simp only [hd1, hq]; rfl
    · refine CompEnd.intro (by assumption) (by assumption) _ (fun p hp => hp) off trivial ⟨?_, rfl, _, rfl⟩
      simp only [hd1, hq]; rfl
  case fin =>
    intro ys hys D h tk F N off
    dsimp only
    k_steps
    refine max_list_N (by rfl) (by k_asm) (by k_asm) (News.isList (by k_asm) (by k_mem)) hys ?zne ?_
    case zne =>
      obtain ⟨d, hd, hdf⟩ := hex
      obtain ⟨i, hi, e⟩ := List.getElem_of_mem hd
      have hlen := hD.length
      rw [List.length_map]
      refine List.length_pos_of_mem (a := i) (List.mem_filter.mpr ⟨List.mem_range.mpr (by omega), ?_⟩)
      simp only [List.getElem?_eq_getElem hi, e, hdf]; rfl
    intro h' M t' tk' F' N' hM1 hM2
    obtain ⟨j, hj1, rfl⟩ := List.mem_map.mp hM1
    obtain ⟨hj2, hj3⟩ := List.mem_filter.mp hj1
    have hj4 := List.mem_range.mp hj2
    have hj5 : j < vs.length := hj4
    k_steps
    have hlen := hD.length
    have e : ((j : Int) + 1).toNat = j + 1 := by omega
    rename News _ _ _ _ => NN
    rw [e, Int.toNat_natCast] at NN
    refine und_fin (ws := vs.take j ++ vs.drop (j + 1)) ret (by k_asm) NN (List.mem_cons_self ..) (by intro p hp; repeat (first | exact hp | apply List.Mem.tail)) (by assumption) (by intro p hp; repeat (first | exact hp | apply List.Mem.tail)) (undress_deeds hD ?zj ?zM)
    case zj =>
      have h2 := List.getElem?_eq_getElem (l := ds) (i := j) (by omega)
      rw [h2] at hj3 ⊢
      simpa using hj3
    case zM =>
      intro i hi
      cases q : ds[i]? with
      | none => rw [q] at hi; cases hi
      | some d =>
        rw [q] at hi
        have hil := (List.getElem?_eq_some_iff.mp q).1
        have := hM2 (i : Int) (List.mem_map.mpr ⟨i, List.mem_filter.mpr ⟨List.mem_range.mpr (by omega), by rw [q]; simpa using hi⟩, rfl⟩)
        omega
end Mine
end
section
example : True := by w_top off; trivial
open PySem PySem.W PyProof.Rows PyProof.Rows.LCg
set_option maxRecDepth 100000
namespace Mine
/-- iter(f, ''), under way and at its end -/
noncomputable abbrev ciO (q : Addr) (te : Tok) : Obj := { cls := .type "callable_iterator", data := .fields #[.ref q, .str (Str.ofString "") te, .bool false] }
noncomputable abbrev ciE : Obj := { cls := .type "callable_iterator", data := .fields #[.none, .none, .bool true] }
theorem slot_ci_next : Slot "callable_iterator" "__next__" "callable_iterator.__next__" :=
  .of (owner := "callable_iterator") (n := "__next__") (by rw [typeLookup_type, builtinLookup_eq_fast]; kernel_rfl) (by decide +kernel) (by decide +kernel) (by decide +kernel)
    (by first | exact .inl (by decide +kernel) | exact .inr (by decide +kernel)) (by rw [isSubtype_type]; kernel_rfl)
theorem entry_ci_next : entryFor table "callable_iterator.__next__" = some Builtin.«callable_iterator.__next__» := entryFor_of_tree (by kernel_rfl)
theorem args_ci_next (a : Value) : argsOk "callable_iterator.__next__" ⟨[a], []⟩ := by unfold argsOk; kernel_rfl
section
variable {prog : Program} {w : World} {A : Around} {E : Value → Shared → Prop} {s : Shared}
theorem callBorrowed_ {f : Value} {pos : List Value} {Q : Value → Shared → Prop} (h : wpAny (model prog w) A (call f pos) Q E s) : wpAny (model prog w) A (callBorrowed f pos) Q E s := by
  have e : callBorrowed f pos = (call f pos).keep [borrowed] := by
    unfold callBorrowed
    show Sem.call _ _ _ _ _ = Sem.call _ _ _ _ _
    congr 1
    funext r
    cases r with
    | error e => rfl
    | ok v => cases v <;> rfl
  rw [e]
  exact Calls.wpAny_keep h
noncomputable def IsFn (h : Heap) (f : Addr) : Prop := ∃ o fd, h.get? f = some o ∧ o.data = .func fd
theorem borrows_meth {q f : Addr} {self : Value} {Q : Bool → Shared → Prop} (hq : s.heap.get? q = some (methodObj (.ref f) self)) (hf : IsFn s.heap f) (h : Q true s) : wpAny (model prog w) A (borrowsExactly (.ref q)) Q E s := by
  obtain ⟨o, fd, ho, hd⟩ := hf
  unfold borrowsExactly
  refine wpAny_bind (wpAny_load hq ?_)
  show wpAny _ _ (load f >>= _) _ _ _
  refine wpAny_bind (wpAny_load ho ?_)
  rw [hd]
  exact wpAny_pure h

theorem stop_raise {α : Type} {Q : α → Shared → Prop} (hh : A.handled = none) (h : ∀ (e : Value) (h' : Heap), (∀ g d tk os, (⟨h', g, d, tk, os⟩ : Shared).TypeIs e "StopIteration") → (∀ b o, s.heap.get? b = some o → h'.get? b = some o) → E e { s with heap := h' }) :
    wpAny (model prog w) A (Builtin.SmallTypes.stopIteration : Sem α) Q E s := by
  unfold Builtin.SmallTypes.stopIteration
  refine wpAny_bind ?_
  simp only [newExc, newTuple]
  refine wpAny_bind (wpAny_newObj_type ?_ (by size_fits))
  refine wpAny_bind (m := firstArgMember _ _) (wpAny_of_eq (a := Value.none) (by first | rfl | (simp only [firstArgMember]; rfl)) ?_)
  refine wpAny_newObj_type ?_ (by size_fits)
  simp only [raiseNew]
  refine wpAny_bind (wpAny_handled ?_)
  rw [hh]
  refine wpAny_bind (wpAny_pure (wpAny_throw ?_))
  exact h _ _ (fun _ _ _ _ => ⟨_, Heap.get?_push_size _ rfl, rfl⟩) fun b o e => Heap.get?_push_of_some _ (Heap.get?_push_of_some _ e)

/-- next(it) of a callable iterator: what the callable gives, or the end -/
theorem next_call {it q f : Addr} {self : Value} {te : Tok} {Q : Option Value → Shared → Prop} (hh : A.handled = none) (hit : s.heap.get? it = some (ciO q te)) (hq : s.heap.get? q = some (methodObj (.ref f) self)) (hf : IsFn s.heap f)
    (h : wpAny (model prog w) A.in1 (call (.ref q) []) (fun r s₁ => ∃ y t, r = .str y t ∧ s₁.heap.get? it = some (ciO q te) ∧ s₁.heap.get? q = some (methodObj (.ref f) self) ∧ IsFn s₁.heap f ∧
      (if y = Str.ofString "" then ∀ h', Heap.ExtBut it s₁.heap h' → h'.get? it = some ciE → Q none { s₁ with heap := h' } else Q (some r) s₁)) (fun _ _ => False) s) :
    wpAny (model prog w) A (pyNext (.ref it)) Q E s := by
  unfold pyNext
  have hT : s.TypeIs (.ref it) "callable_iterator" := ⟨_, hit, rfl⟩
  refine wpAny_bind (wpAny_attempt (wpAny_callSpecial?_slot (name := Str.ofString "__next__") hT slot_ci_next (wpAny_call_entry slot_ci_next hT entry_ci_next ?_ (args_ci_next _))))
  show wpAny _ _ (field (.ref it) 2 >>= _) _ _ s
  refine wpAny_bind (wpAny_field hit rfl (x := .bool false) rfl ?_)
  show wpAny _ _ (if (Value.bool false == Value.bool true) = true then _ else _) _ _ s
  rw [if_neg (by decide)]
  show wpAny _ _ (field (.ref it) 0 >>= _) _ _ s
  refine wpAny_bind (wpAny_field hit rfl (x := .ref q) rfl ?_)
  refine wpAny_bind (wpAny_attempt ?_)
  unfold callOutOfASlot
  refine wpAny_bind (borrows_meth hq hf ?_)
  simp only [if_true]
  refine callBorrowed_ (wpAny_mono h (fun r s₁ hr => ?_) fun _ _ x => x.elim)
  obtain ⟨y, t, rfl, hit₁, hq₁, hf₁, hy⟩ := hr
  show wpAny _ _ (field (.ref it) 2 >>= _) _ _ s₁
  refine wpAny_bind (wpAny_field hit₁ rfl (x := .bool false) rfl ?_)
  show wpAny _ _ (if (Value.bool false == Value.bool true) = true then _ else _) _ _ s₁
  rw [if_neg (by decide)]
  show wpAny _ _ (field (.ref it) 1 >>= _) _ _ s₁
  refine wpAny_bind (wpAny_field hit₁ rfl (x := .str (Str.ofString "") te) rfl ?_)
  refine wpAny_bind (wpAny_holding (eqBool_str ?_))
  by_cases e : y = Str.ofString ""
  · rw [if_pos e] at hy
    have e2 : (Str.ofString "" == y) = true := by rw [e]; simp
    rw [e2]
    simp only [Bool.not_true, Bool.false_eq_true, if_false]
    refine wpAny_bind (wpAny_rule ?_)
    show wpAny _ _ ((field (.ref it) 0 >>= _) >>= _) _ _ s₁
    refine wpAny_bind (wpAny_bind (wpAny_field hit₁ rfl (x := .ref q) rfl ?_))
    show wpAny _ _ (slotLetsGo _ (.ref q) _ >>= _) _ _ s₁
    refine wpAny_bind ?_
    unfold slotLetsGo
    refine wpAny_bind (borrows_meth hq₁ hf₁ ?_)
    simp only [if_true]
    refine wpAny_pure ?_
    have up : ∀ (h₁ : Heap) (vs : Array Value) (i : Nat) (x : Value), h₁.get? it = some { cls := .type "callable_iterator", data := .fields vs } → (h₁.update it (Obj.mapFields (·.setIfInBounds i x))).get? it = some { cls := .type "callable_iterator", data := .fields (vs.setIfInBounds i x) } := fun h₁ vs i x e => Heap.get?_update_self _ e rfl
    refine wpAny_bind (wpAny_setField hit₁ rfl (by simp) ?_)
    have h1 := up _ _ 0 .none hit₁
    refine wpAny_bind (wpAny_setField (s := { s₁ with heap := _ }) h1 rfl (by simp) ?_)
    have h2 := up _ _ 1 .none h1
    refine wpAny_setField (s := { s₁ with heap := _ }) h2 rfl (by simp) ?_
    have h3 := up _ _ 2 (.bool true) h2
    refine stop_raise (by exact hh) fun e' h' hT' hk => ?_
    refine wpAny_bind (wpAny_isInstance (T := "StopIteration") (b := true) (hT' _ _ _ _) isSubtype_stop ?_)
    refine wpAny_pure (hy h' ?_ (hk _ _ h3))
    intro b o hb eb
    refine hk b o ?_
    exact (Heap.get?_update_ne _ _ _ _ hb).trans ((Heap.get?_update_ne _ _ _ _ hb).trans ((Heap.get?_update_ne _ _ _ _ hb).trans eb))
  · rw [if_neg e] at hy
    have e2 : (Str.ofString "" == y) = false := by
      apply Bool.eq_false_iff.mpr; intro q; exact e (eq_of_beq q).symm
    rw [e2]
    simp only [Bool.not_false, if_true]
    exact wpAny_pure ⟨_, rfl, wpAny_pure hy⟩
theorem next_ended {it : Addr} {Q : Option Value → Shared → Prop} (hh : A.handled = none) (hit : s.heap.get? it = some ciE) (h : ∀ h', (∀ b o, s.heap.get? b = some o → h'.get? b = some o) → Q none { s with heap := h' }) :
    wpAny (model prog w) A (pyNext (.ref it)) Q E s := by
  unfold pyNext
  have hT : s.TypeIs (.ref it) "callable_iterator" := ⟨_, hit, rfl⟩
  refine wpAny_bind (wpAny_attempt (wpAny_callSpecial?_slot (name := Str.ofString "__next__") hT slot_ci_next (wpAny_call_entry slot_ci_next hT entry_ci_next ?_ (args_ci_next _))))
  show wpAny _ _ (field (.ref it) 2 >>= _) _ _ s
  refine wpAny_bind (wpAny_field hit rfl (x := .bool true) rfl ?_)
  show wpAny _ _ (if (Value.bool true == Value.bool true) = true then _ else _) _ _ s
  rw [if_pos (show (Value.bool true == Value.bool true) = true by decide)]
  refine wpAny_bind (wpAny_rule ?_)
  refine wpAny_bind (stop_raise (by exact hh) fun e' h' hT' hk => ?_)
  refine wpAny_bind (wpAny_isInstance (T := "StopIteration") (b := true) (hT' _ _ _ _) isSubtype_stop ?_)
  exact wpAny_pure (h h' hk)
end
end Mine
end
section
example : True := by w_top off; trivial
open PySem PySem.W PyProof.Rows PyProof.Rows.LCg
set_option maxRecDepth 100000
namespace Mine
theorem slot_ci_iter : Slot "callable_iterator" "__iter__" "callable_iterator.__iter__" :=
  .of (owner := "callable_iterator") (n := "__iter__") (by rw [typeLookup_type, builtinLookup_eq_fast]; kernel_rfl) (by decide +kernel) (by decide +kernel) (by decide +kernel)
    (by first | exact .inl (by decide +kernel) | exact .inr (by decide +kernel)) (by rw [isSubtype_type]; kernel_rfl)
theorem entry_ci_iter : entryFor table "callable_iterator.__iter__" = some Builtin.«dict_keyiterator.__iter__» :=
  entryFor_alias (id' := "dict_keyiterator.__iter__") (by kernel_rfl) (by first | rfl | decide +kernel | (unfold String.splitOn; simp +decide [String.splitOnAux])) (by decide +kernel) (by kernel_rfl)
theorem args_ci_iter (a : Value) : argsOk "callable_iterator.__iter__" ⟨[a], []⟩ := by unfold argsOk; kernel_rfl
theorem entry_iter2 : entryFor table "iter" = some Builtin.«iter» := entryFor_of_fast (by kernel_rfl)
theorem kind_iter2 : builtinKind "iter" = none := by decide +kernel
theorem plain_iter2 : plainId "iter" = true := by decide +kernel
theorem args_iter2 (a b : Value) : argsOk "iter" ⟨[a, b], []⟩ := by unfold argsOk; kernel_rfl
theorem slot_meth_call : Slot "method" "__call__" "method.__call__" :=
  .of (owner := "method") (n := "__call__") (by rw [typeLookup_type, builtinLookup_eq_fast]; kernel_rfl) (by decide +kernel) (by decide +kernel) (by decide +kernel)
    (by first | exact .inl (by decide +kernel) | exact .inr (by decide +kernel)) (by rw [isSubtype_type]; kernel_rfl)
section
variable {prog : Program} {w : World} {A : Around} {E : Value → Shared → Prop} {s : Shared}
theorem pyIter_ci {it q : Addr} {te : Tok} {Q : Value → Shared → Prop} (hit : s.heap.get? it = some (ciO q te)) (h : Q (.ref it) s) : wpAny (model prog w) A (pyIter (.ref it)) Q E s := by
  have hT : s.TypeIs (.ref it) "callable_iterator" := ⟨_, hit, rfl⟩
  refine wpAny_pyIter_slot hT slot_ci_iter (wpAny_call_entry slot_ci_iter hT entry_ci_iter ?_ (args_ci_iter _))
  show wpAny _ _ (ret (.ref it)) _ _ s
  exact wpAny_pure ⟨_, rfl, "callable_iterator", _, hT, slot_ci_next.lookup, h⟩
theorem call_iter2 {q : Addr} {f self : Value} {t : Tok} {Q : Value → Shared → Prop} (hq : s.heap.get? q = some (methodObj f self))
    (h : Q (.ref s.heap.objs.size) { s with heap := s.heap.push (ciO q t) }) : wpAny (model prog w) A (call (.builtin "iter") [.ref q, .str (Str.ofString "") t]) Q E s := by
  refine Calls.call_function_entry kind_iter2 plain_iter2 entry_iter2 (args_iter2 _ _) ?_
  unfold Builtin.«iter»
  refine wpAny_bind (m := someArgs "iter" 1 2 _) (wpAny_pure ?_)
  refine wpAny_bind (wpAny_specialOf (T := "method") ⟨_, hq, rfl⟩ slot_meth_call.lookup ?_)
  simp only [Option.isNone_some, Bool.false_eq_true, if_false]
  refine wpAny_bind (wpAny_rule ?_)
  simp only [newFields]
  exact wpAny_bind (wpAny_newObj_type (wpAny_pure ⟨_, rfl, h⟩))

theorem call_iter2_N {h₀ : Heap} {L : Addr} {m : Str → Option Value} {news : List (Addr × Obj)} {q : Addr} {f self : Value} {t : Tok} {Q : Value → Shared → Prop} (F : Fr h₀ L s.heap m) (N : News h₀ L s.heap news) (hq : (q, methodObj f self) ∈ news)
    (h : ∀ it h', Fr h₀ L h' m → News h₀ L h' ((it, ciO q t) :: news) → (∀ p ∈ news, p.1 < it) → Q (.ref it) { s with heap := h' }) : wpAny (model prog w) A (call (.builtin "iter") [.ref q, .str (Str.ofString "") t]) Q E s := by
  refine call_iter2 (N _ hq).1 (h _ _ (F.push _) ?_ fun p hp => Heap.lt_size (N p hp).1)
  intro p hp
  rcases List.mem_cons.mp hp with e | hp
  · rw [e]; exact ⟨Heap.get?_push_size _ rfl, Nat.ne_of_gt F.ns.lt, next_is_new F⟩
  · exact N.grown (fun _ _ e => Heap.get?_push_of_some _ e) p hp
noncomputable def Again (n : Nat) (I : Nat → Shared → Prop) (s : Shared) : Prop := ∃ m, m < n ∧ I m s
/-- what stands behind a turn's body -/
noncomputable def ItF (Q : Flow → Shared → Prop) (n : Nat) (I : Nat → Shared → Prop) : Flow → Shared → Prop := fun f s₃ => match f with
  | .next | .cont => Again n I s₃
  | .brk => Q .next s₃
  | .ret v => Q (.ret v) s₃
/-- what stands behind a turn's next -/
noncomputable def ItN (prog : Program) (w : World) (A : Around) (E : Value → Shared → Prop) (env : Env) (x : Str) (px : Pos) (body : List Stmt) (Q : Flow → Shared → Prop) (n : Nat) (I : Nat → Shared → Prop) : Option Value → Shared → Prop := fun r s₁ => match r with
  | none => Q .next s₁
  | some v => wpAny (model prog w) A (assign (.Name x px) env v) (fun _ s₂ => wpAny (model prog w) A (execs body env) (ItF Q n I) E s₂) E s₁
theorem for_it {env : Env} {x : Str} {px : Pos} {iter : Expr} {body : List Stmt} {pos : Pos} {Q : Flow → Shared → Prop} (it : Addr) (I : Nat → Shared → Prop) (n : Nat)
    (h : wpAny (model prog w) A (eval iter env) (fun xv s₁ => wpAny (model prog w) A (pyIter xv) (fun v s₂ => v = .ref it ∧ I n s₂) E s₁) E s)
    (turn : ∀ n s, I n s → wpAny (model prog w) A (pyNext (.ref it)) (ItN prog w A E env x px body Q n I) E s)
    (hs : ∀ x, foldedSetIterable iter env x = pure x := by intro _; rfl)
    (hE : PassesOwn (model prog w) A env E := by passes_own) :
    wpAny (model prog w) A (exec (.For (.Name x px) iter body [] pos) env) Q E s := by
  refine wpAny_For (wpAny_mono h (fun xv s₁ h₁ => wpAny_mono h₁ (fun v s₂ h₂ => ?_) fun _ _ e => e) fun _ _ e => e) hs
  obtain ⟨rfl, hI⟩ := h₂
  refine codeAny_forLoop_any I (fun n s' hI => ?_) n hI
  refine wpAny_passesOwn hE (wpAny_mono (turn n s' hI) (fun r s₁ h₁ => ?_) fun _ _ e => e)
  cases r with
  | none => exact wpAny_execs_nil h₁
  | some v =>
    refine letGo_name ?_
    refine wpAny_passesOwn hE (wpAny_mono h₁ (fun _ s₂ h₂ => wpAny_passesOwn hE (wpAny_mono h₂ (fun f s₃ h₃ => ?_) fun _ _ e => e)) fun _ _ e => e)
    cases f <;> exact h₃
end
end Mine
end
section
example : True := by w_top off; trivial
namespace Mine
/-- the lexer's blanks -/
noncomputable def ws (c : Nat) : Bool := c == 10 || c == 9 || c == 13 || c == 32
/-- signs to a stop, from a rest of the text: the token, and how many reads -/
noncomputable def lexU (stop : Nat → Bool) : List Nat → List Nat → List Nat × Nat
  | [], t => (t, 1)
  | c :: r, t =>
    if stop c = true then (t, 1)
    else if c = 92 then (match r with
      | [] => (t, 3)
      | d :: r' => let p := lexU stop r' (t ++ [d]); (p.1, p.2 + 2))
    else let p := lexU stop r (t ++ [c]); (p.1, p.2 + 1)
noncomputable def lex0 : List Nat → List Nat × Nat
  | [] => ([], 1)
  | c :: r =>
    if ws c = true then let p := lex0 r; (p.1, p.2 + 1)
    else if c = 34 then let p := lexU (fun c => c == 34) r []; (p.1, p.2 + 1)
    else if c = 92 then (match r with
      | [] => ([], 3)
      | d :: r' => let p := lexU ws r' [d]; (p.1, p.2 + 2))
    else let p := lexU ws r [c]; (p.1, p.2 + 1)
/-- newlines among the next k signs -/
noncomputable def cntN (r : List Nat) (k : Nat) : Nat := (r.take k).count 10
theorem cntN_nil (k : Nat) : cntN [] k = 0 := by simp [cntN]
theorem cntN_cons (c : Nat) (r : List Nat) (k : Nat) : cntN (c :: r) (k + 1) = (if c = 10 then 1 else 0) + cntN r k := by
  unfold cntN
  rw [List.take_succ_cons, List.count_cons]
  by_cases h : c = 10 <;> simp [h, Nat.add_comm]
theorem lexU_stop {stop : Nat → Bool} {c : Nat} {r t : List Nat} (h : stop c = true) : lexU stop (c :: r) t = (t, 1) := by
  cases r <;> simp [lexU, h]
theorem lexU_plain {stop : Nat → Bool} {c : Nat} {r t : List Nat} (h : stop c = false) (hc : c ≠ 92) : lexU stop (c :: r) t = ((lexU stop r (t ++ [c])).1, (lexU stop r (t ++ [c])).2 + 1) := by
  cases r <;> simp [lexU, h, hc]
theorem lexU_end {stop : Nat → Bool} {t : List Nat} (h : stop 92 = false) : lexU stop [92] t = (t, 3) := by simp [lexU, h]
theorem lexU_slash {stop : Nat → Bool} {d : Nat} {r t : List Nat} (h : stop 92 = false) : lexU stop (92 :: d :: r) t = ((lexU stop r (t ++ [d])).1, (lexU stop r (t ++ [d])).2 + 2) := by simp [lexU, h]
theorem drop_some {T : List Nat} {p c : Nat} (h : T[p]? = some c) : T.drop p = c :: T.drop (p + 1) := by
  obtain ⟨hp, e⟩ := List.getElem?_eq_some_iff.mp h
  rw [List.drop_eq_getElem_cons hp, e]
theorem drop_none {T : List Nat} {p : Nat} (h : T[p]? = none) : T.drop p = [] := List.drop_eq_nil_of_le (List.getElem?_eq_none_iff.mp h)
theorem drop_none' {T : List Nat} {p : Nat} (h : T[p]? = none) : T.drop (p + 1) = [] := List.drop_eq_nil_of_le (Nat.le_trans (List.getElem?_eq_none_iff.mp h) (Nat.le_succ _))
noncomputable def nlN (T : List Nat) (p : Nat) : Int := if T[p]? = some 10 then 1 else 0
noncomputable def rdL (T : List Nat) (p : Nat) : List Nat := match T[p]? with | some c => [c] | none => []
structure Lx (stop : Nat → Bool) (T TOK : List Nat) (P : Nat) (NN : Int) (tok : List Nat) (p : Nat) (n : Int) : Prop where
  a : (lexU stop (T.drop p) tok).1 = TOK
  b : p + (lexU stop (T.drop p) tok).2 = P
  c : n + (cntN (T.drop p) (lexU stop (T.drop p) tok).2 : Nat) = NN
  d : 0 ≤ n
theorem Lx.none_ {stop : Nat → Bool} {T TOK : List Nat} {P : Nat} {NN : Int} {tok : List Nat} {p : Nat} {n : Int} (x : Lx stop T TOK P NN tok p n) (h : T[p]? = none) : TOK = tok ∧ P = p + 1 ∧ NN = n := by
  obtain ⟨a, b, c, d⟩ := x
  rw [drop_none h] at a b c
  simp only [lexU, cntN_nil] at a b c
  exact ⟨a.symm, b.symm, by lia⟩
theorem Lx.stop_ {stop : Nat → Bool} {T TOK : List Nat} {P : Nat} {NN : Int} {tok : List Nat} {p c : Nat} {n : Int} (x : Lx stop T TOK P NN tok p n) (h : T[p]? = some c) (hs : stop c = true) : TOK = tok ∧ P = p + 1 ∧ NN = n + if c = 10 then 1 else 0 := by
  obtain ⟨a, b, e, d⟩ := x
  rw [drop_some h] at a b e
  rw [lexU_stop hs] at a b e
  have z : cntN (T.drop (p + 1)) 0 = 0 := by simp [cntN]
  simp only [cntN_cons, z] at e
  refine ⟨a.symm, b.symm, ?_⟩
  split at e <;> simp_all
theorem Lx.plain {stop : Nat → Bool} {T TOK : List Nat} {P : Nat} {NN : Int} {tok : List Nat} {p c : Nat} {n : Int} (x : Lx stop T TOK P NN tok p n) (h : T[p]? = some c) (hs : stop c = false) (hc : c ≠ 92) : Lx stop T TOK P NN (tok ++ [c]) (p + 1) (n + if c = 10 then 1 else 0) := by
  obtain ⟨a, b, e, d⟩ := x
  rw [drop_some h] at a b e
  rw [lexU_plain hs hc] at a b e
  dsimp only at a b e
  rw [cntN_cons] at e
  refine ⟨a, by lia, ?_, by split <;> lia⟩
  by_cases q : c = 10
  · rw [if_pos q] at e ⊢; lia
  · rw [if_neg q] at e ⊢; lia
theorem Lx.slash {stop : Nat → Bool} {T TOK : List Nat} {P : Nat} {NN : Int} {tok : List Nat} {p c : Nat} {n : Int} (x : Lx stop T TOK P NN tok p n) (h : T[p]? = some c) (hs : stop c = false) (hc : c = 92) :
    Lx stop T TOK P NN (tok ++ rdL T (p + 1)) (p + 2) (n + (if c = 10 then 1 else 0) + nlN T (p + 1)) := by
  subst hc
  obtain ⟨a, b, e, d⟩ := x
  cases q : T[p + 1]? with
  | none =>
    have e0 := drop_none q
    have e1 := drop_none' q
    rw [drop_some h, e0] at a b e
    rw [lexU_end hs] at a b e
    simp only [cntN_cons, cntN_nil] at e
    have r1 : rdL T (p + 1) = [] := by unfold rdL; rw [q]
    have r2 : nlN T (p + 1) = 0 := by unfold nlN; rw [q]; rfl
    rw [r1, r2, List.append_nil, show p + 2 = p + 1 + 1 from rfl]
    refine ⟨?_, ?_, ?_, ?_⟩
    · rw [e1]; exact a
    · rw [e1]; simp only [lexU]; lia
    · rw [e1]; simp only [lexU, cntN_nil]; rw [if_neg (show ¬ (92 : Nat) = 10 by decide)] at e ⊢; lia
    · rw [if_neg (show ¬ (92 : Nat) = 10 by decide)]; lia
  | some f =>
    rw [drop_some h, drop_some q] at a b e
    rw [lexU_slash hs] at a b e
    dsimp only at a b e
    rw [cntN_cons, cntN_cons] at e
    have r1 : rdL T (p + 1) = [f] := by unfold rdL; rw [q]
    have r2 : nlN T (p + 1) = if f = 10 then 1 else 0 := by unfold nlN; rw [q]; simp
    rw [r1, r2]
    rw [show p + 2 = p + 1 + 1 from rfl]
    refine ⟨a, by lia, ?_, ?_⟩
    · rw [if_neg (show ¬ (92 : Nat) = 10 by decide)] at e ⊢
      by_cases q : f = 10
      · rw [if_pos q] at e ⊢; lia
      · rw [if_neg q] at e ⊢; lia
    · rw [if_neg (show ¬ (92 : Nat) = 10 by decide)]; split <;> lia
theorem drop_len {T : List Nat} {p c : Nat} (h : T[p]? = some c) (j : Nat) : (T.drop (p + 1 + j)).length < (T.drop p).length := by
  rw [drop_some h, List.length_cons, List.length_drop, List.length_drop]; omega
structure L0 (T TOK : List Nat) (P : Nat) (NN : Int) (p : Nat) (n : Int) : Prop where
  a : (lex0 (T.drop p)).1 = TOK
  b : p + (lex0 (T.drop p)).2 = P
  c : n + (cntN (T.drop p) (lex0 (T.drop p)).2 : Nat) = NN
  d : 0 ≤ n
theorem lex0_blank {c : Nat} {r : List Nat} (h : ws c = true) : lex0 (c :: r) = ((lex0 r).1, (lex0 r).2 + 1) := by
  cases r <;> simp [lex0, h]
theorem lex0_quote {r : List Nat} : lex0 (34 :: r) = ((lexU (fun c => c == 34) r []).1, (lexU (fun c => c == 34) r []).2 + 1) := by
  have h : ws 34 = false := by decide
  cases r <;> simp [lex0, h]
theorem lex0_plain {c : Nat} {r : List Nat} (h : ws c = false) (h1 : c ≠ 34) (h2 : c ≠ 92) : lex0 (c :: r) = ((lexU ws r [c]).1, (lexU ws r [c]).2 + 1) := by
  cases r <;> simp [lex0, h, h1, h2]
theorem lex0_slash {d : Nat} {r : List Nat} : lex0 (92 :: d :: r) = ((lexU ws r [d]).1, (lexU ws r [d]).2 + 2) := by
  have h : ws 92 = false := by decide
  simp [lex0, h]
theorem lex0_end : lex0 [92] = ([], 3) := by decide
theorem L0.none_ {T TOK : List Nat} {P : Nat} {NN : Int} {p : Nat} {n : Int} (x : L0 T TOK P NN p n) (h : T[p]? = none) : TOK = [] ∧ P = p + 1 ∧ NN = n := by
  obtain ⟨a, b, c, d⟩ := x
  rw [drop_none h] at a b c
  simp only [lex0, cntN_nil] at a b c
  exact ⟨a.symm, b.symm, by lia⟩
theorem L0.blank {T TOK : List Nat} {P : Nat} {NN : Int} {p c : Nat} {n : Int} (x : L0 T TOK P NN p n) (h : T[p]? = some c) (hs : ws c = true) : L0 T TOK P NN (p + 1) (n + if c = 10 then 1 else 0) := by
  obtain ⟨a, b, e, d⟩ := x
  rw [drop_some h, lex0_blank hs] at a b e
  dsimp only at a b e
  rw [cntN_cons] at e
  refine ⟨a, by lia, ?_, by split <;> lia⟩
  by_cases q : c = 10
  · rw [if_pos q] at e ⊢; lia
  · rw [if_neg q] at e ⊢; lia
theorem L0.quote {T TOK : List Nat} {P : Nat} {NN : Int} {p c : Nat} {n : Int} (x : L0 T TOK P NN p n) (h : T[p]? = some c) (hs : c = 34) : Lx (fun c => c == 34) T TOK P NN [] (p + 1) (n + if c = 10 then 1 else 0) := by
  subst hs
  obtain ⟨a, b, e, d⟩ := x
  rw [drop_some h, lex0_quote] at a b e
  dsimp only at a b e
  rw [cntN_cons, if_neg (show ¬ (34 : Nat) = 10 by decide)] at e
  rw [if_neg (show ¬ (34 : Nat) = 10 by decide)]
  exact ⟨a, by lia, by lia, by lia⟩
theorem L0.plain {T TOK : List Nat} {P : Nat} {NN : Int} {p c : Nat} {n : Int} (x : L0 T TOK P NN p n) (h : T[p]? = some c) (hs : ws c = false) (h1 : c ≠ 34) (h2 : c ≠ 92) : Lx ws T TOK P NN [c] (p + 1) (n + if c = 10 then 1 else 0) := by
  obtain ⟨a, b, e, d⟩ := x
  rw [drop_some h, lex0_plain hs h1 h2] at a b e
  dsimp only at a b e
  rw [cntN_cons] at e
  refine ⟨a, by lia, ?_, by split <;> lia⟩
  by_cases q : c = 10
  · rw [if_pos q] at e ⊢; lia
  · rw [if_neg q] at e ⊢; lia
theorem L0.slash {T TOK : List Nat} {P : Nat} {NN : Int} {p c : Nat} {n : Int} (x : L0 T TOK P NN p n) (h : T[p]? = some c) (hc : c = 92) : Lx ws T TOK P NN (rdL T (p + 1)) (p + 2) (n + (if c = 10 then 1 else 0) + nlN T (p + 1)) := by
  subst hc
  obtain ⟨a, b, e, d⟩ := x
  rw [show p + 2 = p + 1 + 1 from rfl, if_neg (show ¬ (92 : Nat) = 10 by decide)]
  cases q : T[p + 1]? with
  | none =>
    have e0 := drop_none q
    have e1 := drop_none' q
    rw [drop_some h, e0, lex0_end] at a b e
    simp only [cntN_cons, cntN_nil] at e
    rw [if_neg (show ¬ (92 : Nat) = 10 by decide)] at e
    have r1 : rdL T (p + 1) = [] := by unfold rdL; rw [q]
    have r2 : nlN T (p + 1) = 0 := by unfold nlN; rw [q]; rfl
    rw [r1, r2]
    refine ⟨?_, ?_, ?_, ?_⟩
    · rw [e1]; exact a
    · rw [e1]; simp only [lexU]; lia
    · rw [e1]; simp only [lexU, cntN_nil]; lia
    · lia
  | some f =>
    rw [drop_some h, drop_some q, lex0_slash] at a b e
    dsimp only at a b e
    rw [cntN_cons, cntN_cons, if_neg (show ¬ (92 : Nat) = 10 by decide)] at e
    have r1 : rdL T (p + 1) = [f] := by unfold rdL; rw [q]
    have r2 : nlN T (p + 1) = if f = 10 then 1 else 0 := by unfold nlN; rw [q]; simp
    rw [r1, r2]
    refine ⟨a, by lia, ?_, ?_⟩
    · by_cases q : f = 10
      · rw [if_pos q] at e ⊢; lia
      · rw [if_neg q] at e ⊢; lia
    · split <;> lia
theorem lexU_reads (stop : Nat → Bool) : ∀ (k : Nat) (r t : List Nat), r.length ≤ k → (lexU stop r t).2 ≤ r.length + 2
  | _, [], t, _ => by simp [lexU]
  | 0, c :: r, t, h => by simp at h
  | k + 1, c :: r, t, h => by
    cases hs : stop c with
    | true => rw [lexU_stop hs]; simp
    | false =>
      by_cases hc : c = 92
      · subst hc
        cases r with
        | nil => rw [lexU_end hs]; simp
        | cons d r =>
          rw [lexU_slash hs]
          have := lexU_reads stop k r (t ++ [d]) (by simp at h; omega)
          simp; omega
      · rw [lexU_plain hs hc]
        have := lexU_reads stop k r (t ++ [c]) (by simp at h; omega)
        simp; omega
theorem lex0_reads : ∀ (r : List Nat), (lex0 r).2 ≤ r.length + 2
  | [] => by simp [lex0]
  | c :: r => by
    cases hs : ws c with
    | true => rw [lex0_blank hs]; have := lex0_reads r; simp; omega
    | false =>
      by_cases h1 : c = 34
      · subst h1; rw [lex0_quote]; have := lexU_reads (fun c => c == 34) _ r [] (Nat.le_refl _); simp; omega
      · by_cases h2 : c = 92
        · subst h2
          cases r with
          | nil => rw [lex0_end]; simp
          | cons d r => rw [lex0_slash]; have := lexU_reads ws _ r [d] (Nat.le_refl _); simp; omega
        · rw [lex0_plain hs h1 h2]; have := lexU_reads ws _ r [c] (Nat.le_refl _); simp; omega
theorem cntN_le (r : List Nat) (k : Nat) : cntN r k ≤ r.length := by
  unfold cntN
  have := List.count_le_length (a := 10) (l := r.take k)
  have := List.length_take_le' k r
  lia
end Mine
end
section
example : True := by w_top off; trivial
open PySem PySem.W PyProof.Rows PyProof.Rows.LCg
namespace Mine
/-- as Does, told of the code that runs -/
noncomputable abbrev DoesC (w : World) (f : Addr) (need : Nat) (news : List (Addr × Obj)) (vs : List Value) (Post : Value → List (Addr × Obj) → Prop) : Prop :=
  ∀ (mean : ExcName → Option Value) (mg mb : Str → Option Value) (dp un : Nat) (gd : Option (List Code)) (cn : Str) (cs : Scope) (a : Addr) (ccd : Value) (cl : List (Str × Addr)) (outer : List Env) (A₀ : Around) (base h₀ : Heap) (L : Addr) (m : Str → Option Value) (s : Shared) (Q E : Value → Shared → Prop),
    Below A₀ base outer h₀ → Fr h₀ L s.heap m → (hd.heap_1 w.params).In h₀ → News h₀ L s.heap news → Top topProg looseT mean mg mb h₀ → cs.kind = .function →
    dp + need < recursionLimit → un + 8 * need < cLine →
    (∀ (r : Value) (tl : List (Addr × Obj)) (h' : Heap) (tk' : Nat), Post r tl → Fr h₀ L h' m → News h₀ L h' tl → Q r { s with heap := h', toks := tk' }) →
    codeAny (model PySem.Challenge.rw_sc0073_01.row.prog w) (ktrTop dp un gd cn cs L a ccd cl outer) (.call (.ref f) ⟨vs, []⟩) (fun r s' => match r with | .ok (.ret v) => Q v s' | .ok _ => False | .error e => E e s') s
theorem DoesC.does {w : World} {f : Addr} {n : Nat} {news : List (Addr × Obj)} {vs : List Value} {P : Value → List (Addr × Obj) → Prop} (h : DoesC w f n news vs P) : Does w f n news vs P := by
  intro mean mg mb dp un gd cn cs a ccd cl outer A₀ base h₀ L m s Q E B F X N T hk hd hu ret
  exact wpAny_call (h mean mg mb dp un gd cn cs a ccd cl outer A₀ base h₀ L m s Q E B F X N T hk hd hu ret)
noncomputable abbrev ent (w : World) (x : Str) (t : Tok) (v : Value) : DictEntry := { hash := PyData.keyHash w.params x, key := .str x t, val := v }
noncomputable abbrev lexEs (w : World) (ks : Tok × Tok × Tok × Tok) (tw : Tok) (st pb : Addr) (n : Int) (tn : Tok) : List DictEntry :=
  [ent w (Str.ofString "lineno") ks.1 (.int n tn), ent w (Str.ofString "instream") ks.2.1 (.ref st), ent w (Str.ofString "whitespace") ks.2.2.1 (.str (Str.ofString "\n\t\r ") tw), ent w (Str.ofString "pushback") ks.2.2.2 (.ref pb)]
noncomputable abbrev strEs (w : World) (ks : Tok × Tok × Tok × Tok × Tok) (tw tn : Tok) (pb f : Addr) : List DictEntry :=
  [ent w (Str.ofString "lineno") ks.1 (.int 1 tn), ent w (Str.ofString "instream") ks.2.1 .none, ent w (Str.ofString "whitespace") ks.2.2.1 (.str (Str.ofString "\n\t\r ") tw), ent w (Str.ofString "pushback") ks.2.2.2.1 (.ref pb), ent w (Str.ofString "read") ks.2.2.2.2 (.ref f)]
noncomputable abbrev plO (p : Nat) (tk : Tok) (k : Nat) : Obj := { cls := .type "list", data := .seq #[.int (p : Int) tk] k }
/-- what is read at a place: one sign, or nothing behind the end -/
noncomputable def rd (T : List Nat) (p : Nat) : Str := match T[p]? with | some c => ⟨#[c]⟩ | none => ⟨#[]⟩
noncomputable def nl (T : List Nat) (p : Nat) : Int := if T[p]? = some 10 then 1 else 0
noncomputable def ReadSpec (w : World) (f : Addr) (fo : Obj) (pl : Addr) (L1 : List (Addr × Obj)) (T : List Nat) : Prop :=
  ∀ (p : Nat) (tk : Tok) (k : Nat) (t : Tok) (news : List (Addr × Obj)), p ≤ 100000 → (∀ q ∈ news, q.1 ≠ pl) →
    Does w f 2 ((f, fo) :: (pl, plO p tk k) :: (L1 ++ news)) [.int 1 t] (fun r tl => ∃ tk' k' t', tl = (f, fo) :: (pl, plO (p + 1) tk' k') :: (L1 ++ news) ∧ r = .str (rd T p) t')
local macro_rules | `(tactic| walk_at "callWith ref") => `(tactic| (k_here; k_dflt (refine' callWith_F ?k1 ?_; (case k1 => exact FnAt.of (by k_asm) (by k_mem)); k_whole)))
theorem mem4 {α : Type} {a b c d e f : α} {l r : List α} : ∀ p ∈ e :: f :: (l ++ (a :: b :: c :: d :: r)), p ∈ a :: b :: c :: d :: e :: f :: (l ++ r) := by
  iterate 2 (refine List.forall_mem_cons.mpr ⟨by k_mem, ?_⟩)
  refine List.forall_mem_append.mpr ⟨fun p hp => ?_, ?_⟩
  · iterate 6 (apply List.mem_cons_of_mem)
    exact List.mem_append_left _ hp
  · iterate 4 (refine List.forall_mem_cons.mpr ⟨by k_mem, ?_⟩)
    intro p hp
    iterate 6 (apply List.mem_cons_of_mem)
    exact List.mem_append_right _ hp
theorem mem4' {α : Type} {a b c d e f : α} {l r : List α} : ∀ p ∈ a :: b :: c :: d :: e :: f :: (l ++ r), p ∈ e :: f :: (l ++ (a :: b :: c :: d :: r)) := by
  iterate 4 (refine List.forall_mem_cons.mpr ⟨by iterate 2 (apply List.mem_cons_of_mem)
                                                 apply List.mem_append_right
                                                 k_mem, ?_⟩)
  iterate 2 (refine List.forall_mem_cons.mpr ⟨by k_mem, ?_⟩)
  refine List.forall_mem_append.mpr ⟨fun p hp => ?_, fun p hp => ?_⟩
  · iterate 2 (apply List.mem_cons_of_mem)
    exact List.mem_append_left _ hp
  · iterate 2 (apply List.mem_cons_of_mem)
    apply List.mem_append_right
    iterate 4 (apply List.mem_cons_of_mem)
    exact hp
theorem all5 {st dst f pl dx : Addr} {o1 o2 o3 o4 : Obj} {l : List (Addr × Obj)} (a : st ≠ dx) (b : dst ≠ dx) (c : f ≠ dx) (d : pl ≠ dx) (e : ∀ q ∈ l, q.1 ≠ dx) : ∀ q ∈ (st, o1) :: (dst, o2) :: (f, o3) :: (pl, o4) :: l, q.1 ≠ dx := by
  intro q hq
  simp only [List.mem_cons] at hq
  rcases hq with h | h | h | h | h
  · rw [h]; exact a
  · rw [h]; exact b
  · rw [h]; exact c
  · rw [h]; exact d
  · exact e q h
theorem nl_one {T : List Nat} {p : Nat} (h : (rd T p == Str.ofString "\n") = true) : nl T p = 1 := by
  have e := eq_of_beq h
  have e2 : (Str.ofString "\n") = ⟨#[10]⟩ := by decide +kernel
  rw [e2] at e
  unfold rd at e
  unfold nl
  split at e <;> simp_all
theorem nl_zero {T : List Nat} {p : Nat} (h : (rd T p == Str.ofString "\n") = false) : nl T p = 0 := by
  unfold nl
  split
  · exfalso
    have e : rd T p = Str.ofString "\n" := by
      have e2 : (Str.ofString "\n") = ⟨#[10]⟩ := by decide +kernel
      rw [e2]; unfold rd; simp_all
    rw [e] at h; simp at h
  · rfl
local macro_rules | `(tactic| k_upd) => `(tactic| exact Upd.tail (by assumption) (Upd.head (all5 (by assumption) (by assumption) (by assumption) (by assumption) (by assumption))))
set_option maxRecDepth 100000 in
set_option maxHeartbeats 8000000 in
theorem does_read_char (w : World) (news L1 : List (Addr × Obj)) (x dx st dst pb pb2 f pl : Addr) (ks : Tok × Tok × Tok × Tok) (ks2 : Tok × Tok × Tok × Tok × Tok) (tw tw2 tn tn2 tk : Tok) (n : Int) (p k : Nat) (oc : Value) (od : Option Addr) (fd : FuncData) (osl : Array (Option Value)) (Tx : List Nat)
   (hR : ReadSpec w f ⟨oc, od, .func fd, osl⟩ pl L1 Tx) (hp : p ≤ 100000) (hn : 0 ≤ n ∧ n ≤ 1000000) (npl : ∀ q ∈ (x, instObj 73 dx) :: (dx, dictOf (lexEs w ks tw st pb n tn) 4) :: (st, instObj 73 dst) :: (dst, dictOf (strEs w ks2 tw2 tn2 pb2 f) 5) :: news, q.1 ≠ pl) (ndx : x ≠ dx ∧ st ≠ dx ∧ dst ≠ dx ∧ f ≠ dx ∧ pl ≠ dx) (ndx2 : ∀ q ∈ L1 ++ news, q.1 ≠ dx) :
   DoesC w 56 4 ((x, instObj 73 dx) :: (dx, dictOf (lexEs w ks tw st pb n tn) 4) :: (st, instObj 73 dst) :: (dst, dictOf (strEs w ks2 tw2 tn2 pb2 f) 5) :: (f, ⟨oc, od, .func fd, osl⟩) :: (pl, plO p tk k) :: (L1 ++ news)) [.ref x]
    (fun r tl => ∃ tn' tk' k' t', tl = (x, instObj 73 dx) :: (dx, dictOf (lexEs w ks tw st pb (n + nl Tx p) tn') 4) :: (st, instObj 73 dst) :: (dst, dictOf (strEs w ks2 tw2 tn2 pb2 f) 5) :: (f, ⟨oc, od, .func fd, osl⟩) :: (pl, plO (p + 1) tk' k') :: (L1 ++ news) ∧ r = .str (rd Tx p) t') := by
  intro mean mg mb dp un gd cn cs a₀ ccd cl outer A₀ base h₀ L m s Q E B F X N T hk hd hu ret
  k_dflt cell_enter
  k_steps
  k_dflt (refine' Does.use (hR p _ _ _ ((x, instObj 73 dx) :: (dx, dictOf (lexEs w ks tw st pb n tn) 4) :: (st, instObj 73 dst) :: (dst, dictOf (strEs w ks2 tw2 tn2 pb2 f) 5) :: news) hp npl) ?z1 ?z2 ?z3 ?z4 ?z5 ?z6 ?z7 ?z8 ?_; (case z1 => k_asm); (case z2 => k_asm); (case z3 => k_asm); (case z5 => k_asm); (case z6 => first | exact rfl | assumption); (case z7 => ktr_room); (case z8 => ktr_units); (case z4 => (refine' cb_drop ?zzN mem4; k_asm)))
  intro r9 tl9 h9 tk9 P9 F9 N9
  obtain ⟨tk', k', t', rfl, rfl⟩ := P9
  obtain ⟨d1, d2, d3, d4, d5⟩ := ndx
  have N8 := cb_drop N9 mem4'
  clear N9
  try dsimp only
  try k_fold
  k_steps
  · have e1 := nl_one (T := Tx) (p := p) (by assumption)
    k_steps
    refine' ret _ _ _ _ ⟨?ztn, tk', k', t', rfl, rfl⟩ (by k_asm) ?_; rotate_left
    rw [e1]
    assumption
  · have e1 := nl_zero (T := Tx) (p := p) (by assumption)
    refine' ret _ _ _ _ ⟨?ztn2, tk', k', t', rfl, rfl⟩ (by k_asm) ?_; rotate_left
    rw [e1, Int.add_zero]
    assumption
end Mine
end
section
example : True := by w_top off; trivial
open PySem PySem.W PyProof.Rows PyProof.Rows.LCg
namespace Mine
noncomputable abbrev LG (w : World) (x dx st dst pb pb2 f : Addr) (fo : Obj) (pl : Addr) (ks : Tok × Tok × Tok × Tok) (ks2 : Tok × Tok × Tok × Tok × Tok) (tw tw2 tn2 : Tok) (n : Int) (tn : Tok) (p : Nat) (tk : Tok) (k : Nat) (rest : List (Addr × Obj)) : List (Addr × Obj) :=
  (x, instObj 73 dx) :: (dx, dictOf (lexEs w ks tw st pb n tn) 4) :: (st, instObj 73 dst) :: (dst, dictOf (strEs w ks2 tw2 tn2 pb2 f) 5) :: (f, fo) :: (pl, plO p tk k) :: rest
/-- the lexer's addresses lie apart -/
structure ApartL (x dx st dst f pl : Addr) (L1 news : List (Addr × Obj)) : Prop where
  px : x ≠ pl
  pdx : dx ≠ pl
  pst : st ≠ pl
  pdst : dst ≠ pl
  pn : ∀ q ∈ news, q.1 ≠ pl
  ax : x ≠ dx
  ast : st ≠ dx
  adst : dst ≠ dx
  af : f ≠ dx
  apl : pl ≠ dx
  an : ∀ q ∈ L1 ++ news, q.1 ≠ dx

noncomputable abbrev mL (it x : Addr) (c : Option Value) (tok : Value) : Str → Option Value := fun z => if z = Str.ofString "ch" then c else if z = Str.ofString "token" then some tok else if z = Str.ofString "fiter" then some (.ref it) else if z = Str.ofString "self" then some (.ref x) else none
theorem mem_del {α : Type} {i : α} {ps l r : List α} : ∀ y ∈ ps ++ (l ++ r), y ∈ ps ++ (l ++ (i :: r)) := by
  intro y hy
  simp only [List.mem_append, List.mem_cons] at hy ⊢
  rcases hy with h | h | h <;> simp [h]
theorem mem_ne {α : Type} {i : α} {ps l r : List α} : ∀ y ∈ ps ++ (l ++ (i :: r)), y ≠ i → y ∈ ps ++ (l ++ r) := by
  intro y hy e
  simp only [List.mem_append, List.mem_cons] at hy ⊢
  rcases hy with h | h | h | h
  · simp [h]
  · simp [h]
  · exact absurd h e
  · simp [h]
theorem mem_back {α : Type} {i q : α} {ps l r : List α} : ∀ y ∈ ps ++ (l ++ (i :: q :: r)), y ∈ i :: q :: (ps ++ (l ++ r)) := by
  intro y hy
  simp only [List.mem_append, List.mem_cons] at hy ⊢
  rcases hy with h | h | h | h | h <;> simp [h]
noncomputable def StL (w : World) (L1 news : List (Addr × Obj)) (x dx st dst pb pb2 f : Addr) (fo : Obj) (pl : Addr) (ks : Tok × Tok × Tok × Tok) (ks2 : Tok × Tok × Tok × Tok × Tok) (tw tw2 tn2 : Tok) (it q : Addr) (oit : Obj) (g : Heap) (L' : Addr) (s₀ : Shared) (tok : List Nat) (p : Nat) (n : Int) (s' : Shared) : Prop :=
  ∃ (h : Heap) (tk tn tkp k : Nat) (c : Option Value) (tt : Tok), s' = { s₀ with heap := h, toks := tk } ∧ Fr g L' h (mL it x c (.str (ofL tok) tt)) ∧
    News g L' h (LG w x dx st dst pb pb2 f fo pl ks ks2 tw tw2 tn2 n tn p tkp k (L1 ++ ((it, oit) :: (q, methodObj (.ref 56) (.ref x)) :: news)))
structure OffI (it x dx st dst f pl : Addr) (L1 news : List (Addr × Obj)) : Prop where
  a : x ≠ it
  b : dx ≠ it
  c : st ≠ it
  d : dst ≠ it
  e : f ≠ it
  f' : pl ≠ it
  g : ∀ p ∈ L1 ++ news, p.1 ≠ it
theorem fn56 (w : World) {g h : Heap} {L : Addr} {m : Str → Option Value} (X : (hd.heap_1 w.params).In g) (F : Fr g L h m) : IsFn h 56 := by
  have e : ∃ o fd, (hd.heap_1 w.params).lookup 56 = some o ∧ o.data = .func fd := ⟨_, _, rfl, rfl⟩
  obtain ⟨o, fd, e1, e2⟩ := e
  exact ⟨o, fd, F.keep _ _ (X _ _ e1), e2⟩
theorem mem_it {x dx st dst f pl : Addr × Obj} {a b : Addr × Obj} {L1 news : List (Addr × Obj)} : a ∈ x :: dx :: st :: dst :: f :: pl :: (L1 ++ (a :: b :: news)) := by simp
theorem mem_q {x dx st dst f pl : Addr × Obj} {a b : Addr × Obj} {L1 news : List (Addr × Obj)} : b ∈ x :: dx :: st :: dst :: f :: pl :: (L1 ++ (a :: b :: news)) := by simp
theorem rd_some {T : List Nat} {p c : Nat} (h : T[p]? = some c) : rd T p = ⟨#[c]⟩ := by unfold rd; rw [h]
theorem rd_none {T : List Nat} {p : Nat} (h : T[p]? = none) : rd T p = Str.ofString "" := by unfold rd; rw [h]; decide +kernel
theorem one_ne (c : Nat) : (⟨#[c]⟩ : Str) ≠ Str.ofString "" := by
  intro h
  have e : (Str.ofString "") = ⟨#[]⟩ := by decide +kernel
  rw [e] at h; simp at h
section
variable {w : World} {news L1 : List (Addr × Obj)} {x dx st dst pb pb2 f pl it q : Addr} {ks : Tok × Tok × Tok × Tok} {ks2 : Tok × Tok × Tok × Tok × Tok} {tw tw2 tn2 te : Tok} {oc : Value} {od : Option Addr} {fd : FuncData} {osl : Array (Option Value)} {Tx : List Nat}
variable {mean : ExcName → Option Value} {mg mb : Str → Option Value} {dp un : Nat} {gd : Option (List Code)} {cn : Str} {cs : Scope} {a : Addr} {ccd : Value} {cl : List (Str × Addr)} {outer : List Env} {A₀ : Around} {base g : Heap} {L L' : Addr} {s₀ s : Shared} {E : Value → Shared → Prop}
theorem StL.end_ {h₁ h' : Heap} {tk tn tkp k p : Nat} {n : Int} {c : Option Value} {tok : List Nat} {tt : Tok} {oit : Obj} (off : OffI it x dx st dst f pl L1 ((q, methodObj (.ref 56) (.ref x)) :: news)) (F : Fr g L' h₁ (mL it x c (.str (ofL tok) tt)))
    (N : News g L' h₁ (LG w x dx st dst pb pb2 f ⟨oc, od, .func fd, osl⟩ pl ks ks2 tw tw2 tn2 n tn p tkp k (L1 ++ ((it, oit) :: (q, methodObj (.ref 56) (.ref x)) :: news)))) (hx : Heap.ExtBut it h₁ h') (he : h'.get? it = some ciE) :
    StL w L1 news x dx st dst pb pb2 f ⟨oc, od, .func fd, osl⟩ pl ks ks2 tw tw2 tn2 it q ciE g L' s₀ tok p n { s₀ with heap := h', toks := tk } := by
  have hN := N _ mem_it
  have hk : ∀ b o, b ∉ [it] → h₁.get? b = some o → h'.get? b = some o := fun b o hb e => hx b o (by simpa using hb) e
  refine ⟨h', tk, tn, tkp, k, c, tt, rfl, fr_but F hk (Ne.symm hN.2.1) hN.2.2, ?_⟩
  have N1 : News g L' h₁ (LG w x dx st dst pb pb2 f ⟨oc, od, .func fd, osl⟩ pl ks ks2 tw tw2 tn2 n tn p tkp k (L1 ++ ((q, methodObj (.ref 56) (.ref x)) :: news))) := fun y hy => N y (mem_del (ps := [_, _, _, _, _, _]) y hy)
  have N2 := news_but N1 hk (List.forall_mem_cons.mpr ⟨off.a, List.forall_mem_cons.mpr ⟨off.b, List.forall_mem_cons.mpr ⟨off.c, List.forall_mem_cons.mpr ⟨off.d, List.forall_mem_cons.mpr ⟨off.e, List.forall_mem_cons.mpr ⟨off.f', off.g⟩⟩⟩⟩⟩⟩)
  intro y hy
  by_cases e : y = (it, ciE)
  · rw [e]; exact ⟨he, hN.2⟩
  · exact N2 y (mem_ne (ps := [_, _, _, _, _, _]) y hy e)
theorem next_char {tok : List Nat} {p : Nat} {n : Int} {Q : Option Value → Shared → Prop} (hR : ReadSpec w f ⟨oc, od, .func fd, osl⟩ pl L1 Tx) (B : Below A₀ base outer g) (X : (hd.heap_1 w.params).In g) (T : Top topProg looseT mean mg mb g) (hk : cs.kind = .function)
    (hd0 : dp + 4 < recursionLimit) (hu : un + 1 + 8 * 4 < cLine) (ap : ApartL x dx st dst f pl L1 ((it, ciO q te) :: (q, methodObj (.ref 56) (.ref x)) :: news)) (off : OffI it x dx st dst f pl L1 ((q, methodObj (.ref 56) (.ref x)) :: news)) (hp : p ≤ 100000) (hn : 0 ≤ n ∧ n ≤ 1000000)
    (hS : StL w L1 news x dx st dst pb pb2 f ⟨oc, od, .func fd, osl⟩ pl ks ks2 tw tw2 tn2 it q (ciO q te) g L' s₀ tok p n s)
    (hend : ∀ s', Tx[p]? = none → StL w L1 news x dx st dst pb pb2 f ⟨oc, od, .func fd, osl⟩ pl ks ks2 tw tw2 tn2 it q ciE g L' s₀ tok (p + 1) n s' → Q none s')
    (hone : ∀ c t s', Tx[p]? = some c → StL w L1 news x dx st dst pb pb2 f ⟨oc, od, .func fd, osl⟩ pl ks ks2 tw tw2 tn2 it q (ciO q te) g L' s₀ tok (p + 1) (n + if c = 10 then 1 else 0) s' → Q (some (.str ⟨#[c]⟩ t)) s') :
    wpAny (model PySem.Challenge.rw_sc0073_01.row.prog w) (ktrTop dp un gd cn cs L' a ccd cl outer) (pyNext (.ref it)) Q E s := by
  obtain ⟨h, tk, tn, tkp, k, c, tt, rfl, F, N⟩ := hS
  refine next_call rfl (N _ mem_it).1 (N _ mem_q).1 (fn56 w X F) ?_
  refine wpAny_call (method_call (N _ mem_q).1 ?_)
  have npl : ∀ y ∈ (x, instObj 73 dx) :: (dx, dictOf (lexEs w ks tw st pb n tn) 4) :: (st, instObj 73 dst) :: (dst, dictOf (strEs w ks2 tw2 tn2 pb2 f) 5) :: ((it, ciO q te) :: (q, methodObj (.ref 56) (.ref x)) :: news), y.1 ≠ pl := by
    intro y hy
    simp only [List.mem_cons] at hy
    rcases hy with h | h | h | h | h
    · rw [h]; exact ap.px
    · rw [h]; exact ap.pdx
    · rw [h]; exact ap.pst
    · rw [h]; exact ap.pdst
    · exact ap.pn y (List.mem_cons.mpr (h.imp id List.mem_cons.mpr))
  refine does_read_char w _ L1 x dx st dst pb pb2 f pl ks ks2 tw tw2 tn tn2 tkp n p k oc od fd osl Tx hR hp hn npl ⟨ap.ax, ap.ast, ap.adst, ap.af, ap.apl⟩ ap.an mean mg mb dp (un + 1) gd cn cs a ccd cl outer A₀ base g L' _ _ _ _ B F X N T hk hd0 hu ?_
  rintro r tl h' tk' ⟨tn', tkp', k', t', rfl, rfl⟩ F' N'
  refine ⟨_, t', rfl, (N' _ mem_it).1, (N' _ mem_q).1, fn56 w X F', ?_⟩
  cases e : Tx[p]? with
  | none =>
    rw [if_pos (rd_none e)]
    intro h2 hx he
    refine hend _ e ?_
    have e2 : nl Tx p = 0 := by unfold nl; rw [e]; rfl
    rw [e2, Int.add_zero] at N'
    exact StL.end_ off F' N' hx he
  | some c =>
    rw [rd_some e, if_neg (one_ne c)]
    have e2 : nl Tx p = if c = 10 then 1 else 0 := by unfold nl; rw [e]; simp
    rw [e2] at N'
    exact hone c t' _ e ⟨_, _, _, _, _, _, _, rfl, F', N'⟩
end
noncomputable def ReadC (w : World) (L1 news : List (Addr × Obj)) (x dx st dst pb pb2 f : Addr) (fo : Obj) (pl : Addr) (ks : Tok × Tok × Tok × Tok) (ks2 : Tok × Tok × Tok × Tok × Tok) (tw tw2 tn2 : Tok) (Tx : List Nat) : Prop :=
  ∀ (n : Int) (tn : Tok) (p : Nat) (tk : Tok) (k : Nat), p ≤ 100000 → (0 ≤ n ∧ n ≤ 1000000) → Does w 56 4 (LG w x dx st dst pb pb2 f fo pl ks ks2 tw tw2 tn2 n tn p tk k (L1 ++ news)) [.ref x]
    (fun r tl => ∃ tn' tk' k' t', tl = LG w x dx st dst pb pb2 f fo pl ks ks2 tw tw2 tn2 (n + nlN Tx p) tn' (p + 1) tk' k' (L1 ++ news) ∧ r = .str (ofL (rdL Tx p)) t')
theorem rd_ofL (T : List Nat) (p : Nat) : rd T p = ofL (rdL T p) := by unfold rd rdL ofL; cases T[p]? <;> rfl
theorem readC_of {w : World} {news L1 : List (Addr × Obj)} {x dx st dst pb pb2 f pl : Addr} {ks : Tok × Tok × Tok × Tok} {ks2 : Tok × Tok × Tok × Tok × Tok} {tw tw2 tn2 : Tok} {oc : Value} {od : Option Addr} {fd : FuncData} {osl : Array (Option Value)} {Tx : List Nat}
    (hR : ReadSpec w f ⟨oc, od, .func fd, osl⟩ pl L1 Tx) (ap : ApartL x dx st dst f pl L1 news) : ReadC w L1 news x dx st dst pb pb2 f ⟨oc, od, .func fd, osl⟩ pl ks ks2 tw tw2 tn2 Tx := by
  intro n tn p tk k hp hn
  have npl : ∀ y ∈ (x, instObj 73 dx) :: (dx, dictOf (lexEs w ks tw st pb n tn) 4) :: (st, instObj 73 dst) :: (dst, dictOf (strEs w ks2 tw2 tn2 pb2 f) 5) :: news, y.1 ≠ pl := by
    intro y hy
    simp only [List.mem_cons] at hy
    rcases hy with h | h | h | h | h
    · rw [h]; exact ap.px
    · rw [h]; exact ap.pdx
    · rw [h]; exact ap.pst
    · rw [h]; exact ap.pdst
    · exact ap.pn y h
  refine does_mono (does_read_char w news L1 x dx st dst pb pb2 f pl ks ks2 tw tw2 tn tn2 tk n p k oc od fd osl Tx hR hp hn npl ⟨ap.ax, ap.ast, ap.adst, ap.af, ap.apl⟩ ap.an).does (Nat.le_refl _) ?_
  rintro r tl ⟨tn', tk', k', t', h1, h2⟩
  refine ⟨tn', tk', k', t', h1, ?_⟩
  rw [h2, rd_ofL]
theorem frCongr {g h : Heap} {L : Addr} {m m' : Str → Option Value} (F : Fr g L h m) (e : ∀ y, m y = m' y) : Fr g L h m' := by rw [show m' = m from funext fun y => (e y).symm]; exact F
end Mine
end
section
example : True := by w_top off; trivial
open PySem PySem.W PyProof.Rows PyProof.Rows.LCg
namespace Mine
theorem sgl (x : Str) : (sg x).length = x.length := by simp [sg, Str.length]
theorem slice_rd (x : Str) (p : Nat) : Txt.slice x (some (p : Int)) (some ((p : Int) + 1)) = rd (sg x) p := by
  by_cases h : p < x.length
  · have e := eq_of_beq (slice_closesL (x := x) (i := p) (j := (p : Int) + 1) (by lia) (by lia) (by lia))
    have hc : (sg x)[p]? = some ((sg x)[p]'(by rw [sgl]; exact h)) := List.getElem?_eq_getElem _
    rw [e, rd_some hc]
    have e1 : ((p : Int) + 1 - p).toNat = 1 := by lia
    rw [e1, Int.toNat_natCast]
    show (⟨(((sg x).drop p).take 1).toArray⟩ : Str) = _
    rw [drop_some hc]
    rfl
  · have hc : (sg x)[p]? = none := List.getElem?_eq_none_iff.mpr (by rw [sgl]; lia)
    rw [rd_none hc]
    have e0 : Builtin.Str.strSliceIndices (some (p : Int)) (some ((p : Int) + 1)) 1 x.length = [] := by
      apply List.eq_nil_of_length_eq_zero
      unfold Builtin.Str.strSliceIndices sliceRange
      simp only [show (1 : Int) > 0 by decide, if_true, List.length_map, List.length_range]
      (split <;> (try split) <;> (try split) <;> (try simp only [Int.ediv_one]) <;> lia)
    unfold Txt.slice
    rw [e0]
    split
    · rename_i q
      have : 0 = x.length := by simpa using q.symm
      apply str_ext
      have e2 : sg (Str.ofString "") = [] := by decide +kernel
      rw [e2]
      exact List.eq_nil_of_length_eq_zero (by rw [sgl]; exact this.symm)
    · show (⟨#[]⟩ : Str) = Str.ofString ""
      decide +kernel
end Mine
end
section
example : True := by w_top off; trivial
namespace Mine
/-- the law's reading of a text: three tokens, the lines -/
structure ReadOut (T t1 t2 t3 : List Nat) (n : Int) : Prop where
  ex : ∃ p1 p2 p3, p1 = 0 + (lex0 (T.drop 0)).2 ∧ p2 = p1 + (lex0 (T.drop p1)).2 ∧ p3 = (lex0 (T.drop p2)).2 ∧ t1 = (lex0 (T.drop 0)).1 ∧ t2 = (lex0 (T.drop p1)).1 ∧ t3 = (lex0 (T.drop p2)).1 ∧
    n = 1 + cntN (T.drop 0) (lex0 (T.drop 0)).2 + cntN (T.drop p1) (lex0 (T.drop p1)).2 + cntN (T.drop p2) p3
end Mine
end
section
example : True := by w_top off; trivial
namespace Mine
section
variable (sub : Nat → Nat → Int)
/-- the cost of turning a into b; both read from their ends -/
noncomputable def ed : List Nat → List Nat → Int
  | [], a => 2 * (a.length : Int)
  | y :: b, [] => 2 * ((y :: b).length : Int)
  | y :: b, x :: a => min (min (ed (y :: b) a) (ed b (x :: a)) + 2) (ed b a + sub y x)
termination_by b a => b.length + a.length
theorem ed_nil_l (a : List Nat) : ed sub [] a = 2 * (a.length : Int) := by rw [ed]
theorem ed_nil_r (b : List Nat) : ed sub b [] = 2 * (b.length : Int) := by
  cases b with
  | nil => rw [ed]
  | cons y b => rw [ed]
theorem ed_cons (y : Nat) (b : List Nat) (x : Nat) (a : List Nat) : ed sub (y :: b) (x :: a) = min (min (ed sub (y :: b) a) (ed sub b (x :: a)) + 2) (ed sub b a + sub y x) := by rw [ed]
end
variable {sub : Nat → Nat → Int} {lam : Nat → Bool}
theorem ed_symm (hs : ∀ x y, sub x y = sub y x) : ∀ (n : Nat) (b a : List Nat), b.length + a.length ≤ n → ed sub b a = ed sub a b
  | n, [], a, _ => by rw [ed_nil_l, ed_nil_r]
  | n, y :: b, [], _ => by rw [ed_nil_r, ed_nil_l]
  | 0, y :: b, x :: a, h => by simp at h
  | n + 1, y :: b, x :: a, h => by
    simp only [List.length_cons] at h
    have h1 := ed_symm hs n (y :: b) a (by simp only [List.length_cons]; omega)
    have h2 := ed_symm hs n b (x :: a) (by simp only [List.length_cons]; omega)
    have h3 := ed_symm hs n b a (by omega)
    have h4 := hs x y
    rw [ed_cons, ed_cons, h1, h2, h3, h4]
    exact congrArg (fun t => min (t + 2) _) (Int.min_comm _ _)
theorem ed_low (hsub : ∀ x y, lam x = true → lam y = false → sub y x = 2) (h0 : ∀ x y, 0 ≤ sub y x) : ∀ (n : Nat) (b a : List Nat), b.length + a.length ≤ n → (∀ y ∈ b, lam y = false) →
    2 * ((b.length : Int) - a.length) + 2 * (a.countP lam : Nat) ≤ ed sub b a
  | n, [], a, _, _ => by
    have := List.countP_le_length (p := lam) (l := a)
    rw [ed_nil_l]; simp only [List.length_nil]; lia
  | n, y :: b, [], _, _ => by rw [ed_nil_r]; simp only [List.countP_nil, List.length_nil]; lia
  | 0, y :: b, x :: a, h, _ => by simp at h
  | n + 1, y :: b, x :: a, h, hb => by
    simp only [List.length_cons] at h
    have hb' : ∀ z ∈ b, lam z = false := fun z hz => hb z (List.mem_cons_of_mem _ hz)
    have h1 := ed_low hsub h0 n (y :: b) a (by simp only [List.length_cons]; lia) hb
    have h2 := ed_low hsub h0 n b (x :: a) (by simp only [List.length_cons]; lia) hb'
    have h3 := ed_low hsub h0 n b a (by lia) hb'
    have h4 := h0 x y
    have hy := hb y (List.mem_cons_self ..)
    rw [ed_cons]
    rw [List.countP_cons] at h2 ⊢
    simp only [List.length_cons] at h1 h2 ⊢
    cases hx : lam x with
    | true =>
      have h5 := hsub x y hx hy
      simp only [hx, if_true] at h2 ⊢
      lia
    | false =>
      simp only [hx, Bool.false_eq_true, if_false] at h2 ⊢
      lia
/-- a lies in b, sign by sign, but that a sign of lam may stand for any -/
inductive Emb (lam : Nat → Bool) : List Nat → List Nat → Prop
  | nil : Emb lam [] []
  | ins {a b : List Nat} (y : Nat) : Emb lam a b → Emb lam a (y :: b)
  | on {a b : List Nat} (x y : Nat) : x = y ∨ lam x = true → Emb lam a b → Emb lam (x :: a) (y :: b)
namespace Emb
theorem len {a b : List Nat} (h : Emb lam a b) : a.length ≤ b.length := by
  induction h with
  | nil => exact Nat.le_refl _
  | ins y _ ih => simp only [List.length_cons]; lia
  | on x y _ _ ih => simp only [List.length_cons]; lia
theorem refl : ∀ a : List Nat, Emb lam a a
  | [] => .nil
  | x :: a => .on x x (.inl rfl) (refl a)
theorem empty : ∀ b : List Nat, Emb lam [] b
  | [] => .nil
  | y :: b => .ins y (empty b)
theorem tail {a b : List Nat} {x : Nat} (h : Emb lam (x :: a) b) : Emb lam a b := by
  generalize e : x :: a = c at h
  induction h with
  | nil => cases e
  | ins y _ ih => exact .ins y (ih e)
  | on x' y _ h' _ => cases e; exact .ins y h'
theorem trim {a b : List Nat} {x : Nat} (h : Emb lam (x :: a) (x :: b)) : Emb lam a b := by
  cases h with
  | ins _ h' => exact tail h'
  | on _ _ _ h' => exact h'
theorem snoc_ins {a b : List Nat} (y : Nat) (h : Emb lam a b) : Emb lam a (b ++ [y]) := by
  induction h with
  | nil => exact .ins y .nil
  | ins z _ ih => exact .ins z ih
  | on x z hz _ ih => exact .on x z hz ih
theorem snoc_on {a b : List Nat} (x y : Nat) (hx : x = y ∨ lam x = true) (h : Emb lam a b) : Emb lam (a ++ [x]) (b ++ [y]) := by
  induction h with
  | nil => exact .on x y hx .nil
  | ins z _ ih => exact .ins z ih
  | on x z hz _ ih => exact .on x z hz ih
theorem rev {a b : List Nat} (h : Emb lam a b) : Emb lam a.reverse b.reverse := by
  induction h with
  | nil => exact .nil
  | ins z _ ih => rw [List.reverse_cons]; exact snoc_ins z ih
  | on x z hz _ ih => rw [List.reverse_cons, List.reverse_cons]; exact snoc_on x z hz ih
theorem append {a b c d : List Nat} (h : Emb lam a b) (h' : Emb lam c d) : Emb lam (a ++ c) (b ++ d) := by
  induction h with
  | nil => exact h'
  | ins z _ ih => exact .ins z ih
  | on x z hz _ ih => exact .on x z hz ih
theorem mono {lam' : Nat → Bool} (hl : ∀ x, lam x = true → lam' x = true) {a b : List Nat} (h : Emb lam a b) : Emb lam' a b := by
  induction h with
  | nil => exact .nil
  | ins z _ ih => exact .ins z ih
  | on x z hz _ ih => exact .on x z (hz.imp id (hl x)) ih
theorem trans {b c : List Nat} (h : Emb lam b c) : ∀ {a : List Nat}, Emb lam a b → Emb lam a c := by
  induction h with
  | nil => intro a h; exact h
  | ins z _ ih => intro a h; exact .ins z (ih h)
  | on y z hz h' ih =>
    intro a h
    cases h with
    | ins _ h2 => exact .ins z (ih h2)
    | on x _ hx h2 =>
      refine .on x z ?_ (ih h2)
      rcases hx with rfl | hx
      · exact hz
      · exact .inr hx
theorem trimL : ∀ (p : List Nat) {a b : List Nat}, Emb lam (p ++ a) (p ++ b) → Emb lam a b
  | [], _, _, h => h
  | _ :: p, _, _, h => trimL p h.trim
theorem trimR (q : List Nat) {a b : List Nat} (h : Emb lam (a ++ q) (b ++ q)) : Emb lam a b := by
  have h := h.rev
  rw [List.reverse_append, List.reverse_append] at h
  have := (trimL q.reverse h).rev
  simpa using this
end Emb
theorem ed_up (hself : ∀ x, sub x x = 0) (h2 : ∀ x y, sub y x ≤ 2) {a b : List Nat} (h : Emb lam a b) : ed sub b a ≤ 2 * ((b.length : Int) - a.length) + 2 * (a.countP lam : Nat) := by
  induction h with
  | nil => rw [ed_nil_l]; simp
  | @ins a b y h' ih =>
    cases a with
    | nil => rw [ed_nil_r]; simp
    | cons x a =>
      rw [ed_cons]
      simp only [List.length_cons] at ih ⊢
      omega
  | @on a b x y hx h' ih =>
    rw [ed_cons, List.countP_cons]
    simp only [List.length_cons]
    have hs := h2 x y
    cases hl : lam x with
    | true => simp only [if_true]; omega
    | false =>
      rcases hx with rfl | hx
      · have := hself x; simp only [Bool.false_eq_true, if_false]; omega
      · rw [hl] at hx; cases hx
theorem ed_is (hsub : ∀ x y, lam x = true → lam y = false → sub y x = 2) (h0 : ∀ x y, 0 ≤ sub y x) (hself : ∀ x, sub x x = 0) (h2 : ∀ x y, sub y x ≤ 2) {a b : List Nat} (h : Emb lam a b) (hb : ∀ y ∈ b, lam y = false) :
    ed sub b.reverse a.reverse = 2 * ((b.length : Int) - a.length) + 2 * (a.countP lam : Nat) := by
  have h1 := ed_up hself h2 h.rev
  have h3 := ed_low hsub h0 _ b.reverse a.reverse (Nat.le_refl _) (fun y hy => hb y (List.mem_reverse.mp hy))
  rw [List.length_reverse, List.length_reverse, List.countP_reverse] at h1 h3
  lia

/-- the table of the distances, row by row: b's first signs (from the end) against a's first j -/
noncomputable def EE (sub : Nat → Nat → Int) (a B : List Nat) (j : Nat) : Int := ed sub B (a.take j).reverse
theorem EE_zero (a B : List Nat) : EE sub a B 0 = 2 * (B.length : Int) := by unfold EE; rw [List.take_zero, List.reverse_nil, ed_nil_r]
theorem EE_nil (a : List Nat) (j : Nat) (h : j ≤ a.length) : EE sub a [] j = 2 * (j : Int) := by
  unfold EE; rw [ed_nil_l, List.length_reverse, List.length_take, Nat.min_eq_left h]
theorem EE_end (a B : List Nat) : EE sub a B a.length = ed sub B a.reverse := by unfold EE; rw [List.take_length]
theorem EE_step {a B : List Nat} {i x y : Nat} (hx : a[i]? = some x) : EE sub a (y :: B) (i + 1) = min (min (EE sub a (y :: B) i) (EE sub a B (i + 1)) + 2) (EE sub a B i + sub y x) := by
  unfold EE
  rw [List.take_add_one, hx, Option.toList_some, List.reverse_append]
  exact ed_cons sub y B x _
/-- the left edge as the program has it -/
theorem min_two (x y : Int) : min x y + 2 = min (y + 2) (x + 2) := by
  rw [Int.min_comm x y]
  rcases Int.le_total y x with q | q
  · rw [Int.min_eq_left q, Int.min_eq_left (Int.add_le_add_right q 2)]
  · rw [Int.min_eq_right q, Int.min_eq_right (Int.add_le_add_right q 2)]
theorem min_edge {e0 e1 f s : Int} (h : s ≤ 2) (hf : f = e0 + 2) : min (min f e1 + 2) (e0 + s) = min (min e0 e1 + 2) (e0 + s) := by
  have a : e0 + s ≤ e0 + 2 := Int.add_le_add_left h e0
  have b : e0 + s ≤ f + 2 := hf ▸ Int.le_trans a (Int.le_add_of_nonneg_right (by decide))
  rw [min_two, min_two, Int.min_assoc, Int.min_assoc, Int.min_eq_right b, Int.min_eq_right a]
theorem EE_edge (h2 : ∀ x y, sub y x ≤ 2) {a B : List Nat} {x y : Nat} (hx : a[0]? = some x) : EE sub a (y :: B) 1 = min (min (EE sub a B 0) (EE sub a B 1) + 2) (EE sub a B 0 + sub y x) := by
  have h := EE_step (sub := sub) (B := B) (y := y) hx
  have h3 := h2 x y
  rw [h]
  exact min_edge (e0 := EE sub a B 0) (f := EE sub a (y :: B) 0) h3 (by rw [EE_zero, EE_zero, List.length_cons]; omega)
/-- no row's least is over the end -/
theorem EE_low (h0 : ∀ x y, 0 ≤ sub y x) {a B : List Nat} {c : Int} (h : ∀ j, j ≤ a.length → c ≤ EE sub a B j) (y : Nat) : ∀ j, j ≤ a.length → c ≤ EE sub a (y :: B) j
  | 0, hj => by have := h 0 hj; rw [EE_zero] at this ⊢; simp only [List.length_cons]; lia
  | j + 1, hj => by
    have ih := EE_low h0 h y j (by lia)
    have h1 := h (j + 1) hj
    have h2 := h j (by lia)
    have hx : a[j]? = some a[j] := List.getElem?_eq_getElem (by lia)
    have h3 := h0 a[j] y
    rw [EE_step hx]
    lia
theorem EE_low_all (h0 : ∀ x y, 0 ≤ sub y x) {a : List Nat} {c : Int} : ∀ (C B : List Nat), (∀ j, j ≤ a.length → c ≤ EE sub a B j) → c ≤ EE sub a (C ++ B) a.length
  | [], B, h => h _ (Nat.le_refl _)
  | y :: C, B, h => by
    have key : ∀ (C B : List Nat), (∀ j, j ≤ a.length → c ≤ EE sub a B j) → ∀ j, j ≤ a.length → c ≤ EE sub a (C ++ B) j := by
      intro C
      induction C with
      | nil => intro B h; exact h
      | cons y C ih => intro B h; exact EE_low h0 (ih B h) y
    exact key (y :: C) B h _ (Nat.le_refl _)
theorem EE_first (h2 : ∀ x y, sub y x ≤ 2) {a B : List Nat} {y : Nat} (ha : a ≠ []) : EE sub a (y :: B) 1 ≤ EE sub a (y :: B) 0 := by
  cases a with
  | nil => exact absurd rfl ha
  | cons x a =>
    have h := EE_step (sub := sub) (a := x :: a) (B := B) (y := y) (i := 0) (x := x) rfl
    have h3 := h2 x y
    simp only [EE_zero, List.length_cons, Nat.zero_add] at h ⊢
    omega

/-- what the program's distance is told to be -/
structure Cut (a b a' b' : List Nat) : Prop where
  ex : ∃ p q, a = p ++ a' ++ q ∧ b = p ++ b' ++ q
  hd : ∀ x y, a'.head? = some x → b'.head? = some y → x ≠ y
  ls : ∀ x y, a'.getLast? = some x → b'.getLast? = some y → x ≠ y
noncomputable def LevPost (sub : Nat → Nat → Int) (a b : List Nat) (mc v : Int) : Prop :=
  (a = b ∧ v = 0) ∨ (a ≠ b ∧ ∃ a' b', Cut a b a' b' ∧ (((a' = [] ∨ b' = []) ∧ v = 2 * ((a'.length : Int) + b'.length)) ∨ (a' ≠ [] ∧ b' ≠ [] ∧
    ((v = mc + 1 ∧ (40 < a'.length ∨ 40 < b'.length)) ∨ (v = mc + 1 ∧ (mc < 2 * ((b'.length : Int) - a'.length) ∨ mc < 2 * ((a'.length : Int) - b'.length))) ∨
      (v = mc + 1 ∧ mc < ed sub b'.reverse a'.reverse) ∨ (v = ed sub b'.reverse a'.reverse ∧ 2 * ((b'.length : Int) - a'.length) ≤ mc ∧ 2 * ((a'.length : Int) - b'.length) ≤ mc)))))
theorem Cut.symm {a b a' b' : List Nat} (c : Cut a b a' b') : Cut b a b' a' := by
  obtain ⟨⟨p, q, h1, h2⟩, h3, h4⟩ := c
  exact ⟨⟨p, q, h2, h1⟩, fun x y hx hy e => h3 y x hy hx e.symm, fun x y hx hy e => h4 y x hy hx e.symm⟩
theorem LevPost.symm (hs : ∀ x y, sub x y = sub y x) {a b : List Nat} {mc v : Int} (h : LevPost sub a b mc v) : LevPost sub b a mc v := by
  rcases h with ⟨h1, h2⟩ | ⟨h1, a', b', hc, h2⟩
  · exact .inl ⟨h1.symm, h2⟩
  · refine .inr ⟨Ne.symm h1, b', a', hc.symm, ?_⟩
    have e := ed_symm hs _ b'.reverse a'.reverse (Nat.le_refl _)
    rcases h2 with ⟨h2, h3⟩ | ⟨ha, hb, h2⟩
    · exact .inl ⟨h2.symm, by lia⟩
    · refine .inr ⟨hb, ha, ?_⟩
      rw [← e]
      rcases h2 with ⟨h2, h3⟩ | ⟨h2, h3⟩ | h2 | h2
      · exact .inl ⟨h2, h3.symm⟩
      · exact .inr (.inl ⟨h2, h3.symm⟩)
      · exact .inr (.inr (.inl h2))
      · exact .inr (.inr (.inr ⟨h2.1, h2.2.2, h2.2.1⟩))
theorem countP_zero_of {l : List Nat} (h : ∀ y ∈ l, lam y = false) : l.countP lam = 0 := List.countP_eq_zero.mpr fun y hy => by rw [h y hy]; exact Bool.false_ne_true
theorem LevPost.is (hsub : ∀ x y, lam x = true → lam y = false → sub y x = 2) (h0 : ∀ x y, 0 ≤ sub y x) (hself : ∀ x, sub x x = 0) (h2 : ∀ x y, sub y x ≤ 2) {a b : List Nat} {mc v : Int} (emb : Emb lam a b) (hb : ∀ y ∈ b, lam y = false) (h40 : b.length ≤ 40)
    (hm : 2 * ((b.length : Int) - a.length) + 2 * (a.countP lam : Nat) ≤ mc + 1) (h : LevPost sub a b mc v) : v = 2 * ((b.length : Int) - a.length) + 2 * (a.countP lam : Nat) := by
  rcases h with ⟨rfl, rfl⟩ | ⟨h1, a', b', ⟨⟨p, q, rfl, rfl⟩, _, _⟩, h3⟩
  · rw [countP_zero_of hb]; lia
  · have emb' : Emb lam a' b' := by
      rw [List.append_assoc, List.append_assoc] at emb
      exact (Emb.trimL p emb).trimR q
    have hb' : ∀ y ∈ b', lam y = false := fun y hy => hb y (by simp [hy])
    have hp : p.countP lam = 0 := countP_zero_of fun y hy => hb y (by simp [hy])
    have hq : q.countP lam = 0 := countP_zero_of fun y hy => hb y (by simp [hy])
    have e := ed_is hsub h0 hself h2 emb' hb'
    have hl := emb'.len
    simp only [List.length_append, List.countP_append, hp, hq] at hm h40 ⊢
    rcases h3 with ⟨h3, rfl⟩ | ⟨ha, hbn, h3⟩
    · rcases h3 with rfl | rfl
      · simp only [List.countP_nil, List.length_nil]; lia
      · cases a' with
        | nil => simp only [List.countP_nil, List.length_nil]; lia
        | cons x r => simp at hl
    · rcases h3 with ⟨rfl, h3⟩ | ⟨rfl, h3⟩ | ⟨rfl, h3⟩ | ⟨rfl, h3⟩
      · lia
      · lia
      · lia
      · lia
end Mine
end
section
example : True := by w_top off; trivial
namespace Mine
/-- the signs that a writing may spell otherwise, but & -/
noncomputable def special (c : Nat) : Bool := [60, 62, 34, 9, 10, 13].contains c
noncomputable def deedL (d : Bool × Int) (l : List Nat) : List Nat := if d.1 then spell d.2.toNat l else dress d.2.toNat l
noncomputable def foldL (l : List Nat) (ds : List (Bool × Int)) : List Nat := ds.foldl (fun l d => deedL d l) l
theorem deedS_sg (d : Bool × Int) (x : PySem.Str) : sg (deedS d x) = deedL d (sg x) := by
  unfold deedS deedL; split <;> rfl
theorem foldS_sg : ∀ (ds : List (Bool × Int)) (x : PySem.Str), sg (foldS x ds) = foldL (sg x) ds
  | [], _ => rfl
  | d :: r, x => by
    show sg (foldS (deedS d x) r) = foldL (deedL d (sg x)) r
    rw [foldS_sg r, deedS_sg]
theorem foldL_append (l : List Nat) (a b : List (Bool × Int)) : foldL l (a ++ b) = foldL (foldL l a) b := by unfold foldL; rw [List.foldl_append]
noncomputable def lamB (ds : List (Bool × Int)) (c : Nat) : Bool := (lostL ds).contains c
theorem img_big (h : Nat) (hh : h < 5) (c : Nat) (hc : 128 ≤ c) : img h c = [c] := by
  have hall : ∀ h < 5, ∀ p ∈ tab h, p.1 < 128 := by decide +kernel
  unfold img
  have : (tab h).lookup c = none := by
    rw [List.lookup_eq_none_iff]
    intro p hp
    have := hall h hh p hp
    simp; lia
  rw [this]; rfl
theorem lost_special (d : Bool × Int) (hd : DeedOk d) (c : Nat) (h : c ∈ lostOf d) : special c = true := by
  unfold lostOf at h
  unfold DeedOk at hd
  cases e : d.1 with
  | false => rw [e] at h; simp at h
  | true =>
    rw [e] at h hd
    simp only [if_true] at h hd
    have : ∀ h < 5, ∀ c ∈ ((tab h).map (·.1)).filter (· != 38), special c = true := by decide +kernel
    exact this _ (by lia) _ h
noncomputable def lostH (h : Nat) : List Nat := ((tab h).map (·.1)).filter (· != 38)
theorem lostOf_h (h : Int) : lostOf (true, h) = lostH h.toNat := rfl
theorem lostOf_d (k : Int) : lostOf (false, k) = [] := rfl
theorem lostH_small (h : Nat) (hh : h < 5) : ∀ c ∈ lostH h, c < 128 := by
  have : ∀ h < 5, ∀ c ∈ lostH h, c < 128 := by decide +kernel
  exact this h hh
/-- a writing's image of a sign: its head is the sign or the sign is lost; the rest is not special -/
theorem img_form (h : Nat) (hh : h < 5) (c : Nat) : ∃ d r, img h c = d :: r ∧ (d = c ∨ c ∈ lostH h) ∧ (∀ x ∈ r, special x = false) ∧ (special d = (special c && !(lostH h).contains c)) := by
  have hc : c < 128 ∨ 128 ≤ c := by lia
  rcases hc with hc | hc
  · have : ∀ h < 5, ∀ c < 128, img h c ≠ [] ∧ ((img h c).head? = some c ∨ c ∈ lostH h) ∧ (∀ x ∈ (img h c).tail, special x = false) ∧ (special ((img h c).head?.getD 0) = (special c && !(lostH h).contains c)) := by decide +kernel
    obtain ⟨h1, h2, h3, h4⟩ := this h hh c hc
    cases e : img h c with
    | nil => exact absurd e h1
    | cons d r =>
      rw [e] at h2 h3 h4
      exact ⟨d, r, rfl, h2.imp (fun x => by simpa using x) id, h3, h4⟩
  · have hs : special c = false := by
      have : ∀ x ∈ [60, 62, 34, 9, 10, 13], x < 128 := by decide
      unfold special
      apply Bool.eq_false_iff.mpr
      intro e
      have := this c (by simpa using e)
      lia
    exact ⟨c, [], img_big h hh c hc, .inl rfl, by simp, by rw [hs]; rfl⟩
theorem emb_flat {lam : Nat → Bool} {g : Nat → List Nat} (hg : ∀ c, Emb lam [c] (g c)) : ∀ l : List Nat, Emb lam l (l.flatMap g)
  | [] => .nil
  | c :: r => by rw [List.flatMap_cons]; exact (hg c).append (emb_flat hg r)
theorem emb_slash {lam : Nat → Bool} (q : List Nat) (c : Nat) : Emb lam [c] (slash q c) := by
  unfold slash; split
  · exact .ins _ (Emb.refl _)
  · exact Emb.refl _
theorem emb_deed (d : Bool × Int) (hd : DeedOk d) (l : List Nat) : Emb (fun c => (lostOf d).contains c) l (deedL d l) := by
  obtain ⟨b, n⟩ := d
  unfold DeedOk at hd
  cases b with
  | true =>
    simp only [if_true] at hd
    refine emb_flat (fun c => ?_) l
    obtain ⟨d, r, e, h1, _, _⟩ := img_form n.toNat (by lia) c
    show Emb _ [c] (img n.toNat c)
    rw [e]
    refine .on c d ?_ (Emb.empty r)
    rcases h1 with h1 | h1
    · exact .inl h1.symm
    · refine .inr ?_
      rw [lostOf_h]; simpa using h1
  | false =>
    show Emb _ l (dress n.toNat l)
    unfold dress
    split
    · refine .ins _ ?_
      have := (emb_flat (lam := fun c => (lostOf (false, n)).contains c) (g := slash qs1) (emb_slash qs1) l).append (Emb.empty [34])
      simpa using this
    · exact emb_flat (emb_slash qs0) l
theorem lamB_cons (d : Bool × Int) (r : List (Bool × Int)) (c : Nat) : lamB (d :: r) c = ((lostOf d).contains c || lamB r c) := by
  unfold lamB lostL
  rw [List.flatMap_cons]
  apply Bool.eq_iff_iff.mpr
  simp
theorem lamB_append (a b : List (Bool × Int)) (c : Nat) : lamB (a ++ b) c = (lamB a c || lamB b c) := by
  unfold lamB lostL
  rw [List.flatMap_append]
  apply Bool.eq_iff_iff.mpr
  simp
theorem emb_fold : ∀ (ds : List (Bool × Int)) (l : List Nat), (∀ d ∈ ds, DeedOk d) → Emb (lamB ds) l (foldL l ds)
  | [], l, _ => Emb.refl l
  | d :: r, l, h => by
    have h1 := emb_deed d (h d (List.mem_cons_self ..)) l
    have h2 := emb_fold r (deedL d l) fun e he => h e (List.mem_cons_of_mem _ he)
    refine (h2.mono ?_).trans (h1.mono ?_)
    · intro x hx; rw [lamB_cons, hx, Bool.or_true]
    · intro x hx; rw [lamB_cons, hx, Bool.true_or]
theorem countP_flat {p p' : Nat → Bool} {g : Nat → List Nat} (hg : ∀ c, (g c).countP p = if p' c then 1 else 0) : ∀ l : List Nat, (l.flatMap g).countP p = l.countP p'
  | [] => rfl
  | c :: r => by rw [List.flatMap_cons, List.countP_append, hg, List.countP_cons, countP_flat hg r]; lia
theorem countP_slash (p : Nat → Bool) (h92 : p 92 = false) (q : List Nat) (c : Nat) : (slash q c).countP p = if p c then 1 else 0 := by
  unfold slash
  split
  · rw [List.countP_cons, List.countP_cons, List.countP_nil, h92]; simp
  · rw [List.countP_cons, List.countP_nil]; simp
/-- how many signs of a kind a deed leaves -/
theorem count_deed (d : Bool × Int) (hd : DeedOk d) (p : Nat → Bool) (hp : ∀ c, p c = true → special c = true) (hq : d.1 = false → d.2 ≠ 0 → p 34 = false) (l : List Nat) :
    (deedL d l).countP p = l.countP (fun c => p c && !(lostOf d).contains c) := by
  obtain ⟨b, n⟩ := d
  unfold DeedOk at hd
  have hns : ∀ c, special c = false → p c = false := by
    intro c hc
    cases e : p c with
    | false => rfl
    | true => rw [hp c e] at hc; cases hc
  cases b with
  | true =>
    simp only [if_true] at hd
    refine countP_flat (fun c => ?_) l
    obtain ⟨d, r, e, h1, h2, h3⟩ := img_form n.toNat (by lia) c
    show (img n.toNat c).countP p = _
    rw [e, List.countP_cons, countP_zero_of (lam := p) (fun y hy => hns y (h2 y hy)), lostOf_h]
    cases hpc : p c with
    | true =>
      have hsc := hp c hpc
      rw [hsc, Bool.true_and] at h3
      cases hl : (lostH n.toNat).contains c with
      | true =>
        rw [hl] at h3
        simp [hns d h3]
      | false =>
        rcases h1 with rfl | h1
        · simp [hpc]
        · have : (lostH n.toNat).contains c = true := by simpa using h1
          rw [hl] at this; cases this
    | false =>
      rcases h1 with rfl | h1
      · simp [hpc]
      · have : (lostH n.toNat).contains c = true := by simpa using h1
        rw [this] at h3
        simp only [Bool.not_true, Bool.and_false] at h3
        simp [hns d h3]
  | false =>
    have h92 : p 92 = false := hns 92 (by decide)
    rw [lostOf_d]
    have e : (fun c => p c && !([] : List Nat).contains c) = p := by funext c; simp
    rw [e]
    show (dress n.toNat l).countP p = _
    unfold dress
    split
    · rename_i hk
      have h34 : p 34 = false := hq rfl (by show n ≠ 0; lia)
      rw [List.countP_cons, List.countP_append, countP_flat (countP_slash p h92 qs1) l, List.countP_cons, List.countP_nil, h34]
      simp
    · exact countP_flat (countP_slash p h92 qs0) l
/-- the deeds that the law makes -/
noncomputable def Good (ds : List (Bool × Int)) : Prop := (∀ d ∈ ds, DeedOk d) ∧ ((∀ d ∈ ds, d.1 = true → d.2 < 2) ∨ (∀ d ∈ ds, d.1 = false → d.2 = 0))
theorem Good.sub {ds es : List (Bool × Int)} (h : Good ds) (hs : ∀ d ∈ es, d ∈ ds) : Good es :=
  ⟨fun d hd => h.1 d (hs d hd), h.2.imp (fun x d hd => x d (hs d hd)) (fun x d hd => x d (hs d hd))⟩
theorem lost34 (h : Int) (h0 : 0 ≤ h) (h2 : h < 2) : (lostOf (true, h)).contains 34 = false := by
  rw [lostOf_h]
  have : ∀ h < 2, (lostH h).contains 34 = false := by decide +kernel
  exact this _ (by lia)
theorem lam34 {ds : List (Bool × Int)} (hok : ∀ d ∈ ds, DeedOk d) (h : ∀ d ∈ ds, d.1 = true → d.2 < 2) : lamB ds 34 = false := by
  induction ds with
  | nil => rfl
  | cons d r ih =>
    rw [lamB_cons, ih (fun e he => hok e (List.mem_cons_of_mem _ he)) (fun e he => h e (List.mem_cons_of_mem _ he)), Bool.or_false]
    have h1 := hok d (List.mem_cons_self ..)
    have h2 := h d (List.mem_cons_self ..)
    obtain ⟨b, n⟩ := d
    cases b with
    | false => rfl
    | true => exact lost34 n h1.1 (h2 rfl)
theorem lam_special {ds : List (Bool × Int)} (hok : ∀ d ∈ ds, DeedOk d) (c : Nat) (h : lamB ds c = true) : special c = true := by
  induction ds with
  | nil => cases h
  | cons d r ih =>
    rw [lamB_cons] at h
    rcases Bool.or_eq_true_iff.mp h with h | h
    · exact lost_special d (hok d (List.mem_cons_self ..)) c (by simpa using h)
    · exact ih (fun e he => hok e (List.mem_cons_of_mem _ he)) h
theorem count_fold : ∀ (ds : List (Bool × Int)) (_ : ∀ d ∈ ds, DeedOk d) (p : Nat → Bool) (_ : ∀ c, p c = true → special c = true) (_ : ∀ d ∈ ds, d.1 = false → d.2 ≠ 0 → p 34 = false) (l : List Nat),
    (foldL l ds).countP p = l.countP (fun c => p c && !lamB ds c)
  | [], _, p, _, _, l => by
    have e : (fun c => p c && !lamB [] c) = p := by funext c; simp [lamB, lostL]
    rw [e]; rfl
  | d :: r, hok, p, hp, hq, l => by
    show (foldL (deedL d l) r).countP p = _
    rw [count_fold r (fun e he => hok e (List.mem_cons_of_mem _ he)) p hp (fun e he => hq e (List.mem_cons_of_mem _ he)) (deedL d l)]
    rw [count_deed d (hok d (List.mem_cons_self ..)) (fun c => p c && !lamB r c) (fun c hc => hp c (by simp at hc; exact hc.1)) (fun h1 h2 => by simp [hq d (List.mem_cons_self ..) h1 h2]) l]
    congr 1
    funext c
    rw [lamB_cons]
    cases p c <;> cases lamB r c <;> cases (lostOf d).contains c <;> rfl
theorem Good.q34 {ds : List (Bool × Int)} (g : Good ds) : lamB ds 34 = false ∨ ∀ d ∈ ds, d.1 = false → d.2 = 0 := by
  rcases g.2 with h | h
  · exact .inl (lam34 g.1 h)
  · exact .inr h
/-- what is lost is not there behind -/
theorem free_fold {ds : List (Bool × Int)} (g : Good ds) (l : List Nat) : ∀ y ∈ foldL l ds, lamB ds y = false := by
  have h := count_fold ds g.1 (lamB ds) (lam_special g.1) (fun d hd h1 h2 => by
    rcases g.q34 with h | h
    · exact h
    · exact absurd (h d hd h1) h2) l
  have e : (fun c => lamB ds c && !lamB ds c) = fun _ => false := by funext c; cases lamB ds c <;> rfl
  rw [e, countP_zero_of (lam := fun _ => false) (fun _ _ => rfl)] at h
  intro y hy
  have := List.countP_eq_zero.mp h y hy
  simpa using this
theorem countP_split (p q : Nat → Bool) : ∀ l : List Nat, l.countP p + l.countP (fun c => q c && !p c) = l.countP (fun c => p c || q c)
  | [] => rfl
  | c :: r => by
    have := countP_split p q r
    rw [List.countP_cons, List.countP_cons, List.countP_cons]
    cases p c <;> cases q c <;> simp <;> lia
/-- the losses of two stretches are those of both -/
theorem lost_both {a b : List (Bool × Int)} (g : Good (a ++ b)) (l : List Nat) : l.countP (lamB a) + (foldL l a).countP (lamB b) = l.countP (lamB (a ++ b)) := by
  have ga : Good a := g.sub fun d hd => List.mem_append_left _ hd
  have gb : Good b := g.sub fun d hd => List.mem_append_right _ hd
  rw [count_fold a ga.1 (lamB b) (lam_special gb.1) (fun d hd h1 h2 => by
    rcases g.2 with h | h
    · exact lam34 gb.1 (fun e he => h e (List.mem_append_right _ he))
    · exact absurd (h d (List.mem_append_left _ hd) h1) h2)]
  rw [countP_split]
  congr 1
  funext c
  rw [lamB_append]
/-- the price of a stretch -/
noncomputable def priceL (a b : List Nat) (ds : List (Bool × Int)) : Int := 2 * ((b.length : Int) - a.length) + 2 * (a.countP (lamB ds) : Nat)
theorem price_eq (x y : PySem.Str) (ds : List (Bool × Int)) : priceI x y ds = priceL (sg x) (sg y) ds := by
  unfold priceI priceL spelledL
  rw [length_sg, length_sg, ← List.countP_eq_length_filter]
  have e : List.countP (fun c => (lostL ds).contains c) (sg x) = List.countP (lamB ds) (sg x) := rfl
  rw [e]; lia
theorem price_add {a b : List (Bool × Int)} (g : Good (a ++ b)) (l : List Nat) : priceL l (foldL l a) a + priceL (foldL l a) (foldL l (a ++ b)) b = priceL l (foldL l (a ++ b)) (a ++ b) := by
  have := lost_both g l
  unfold priceL
  lia
/-- the cost of one sign for another, as the law sees it -/
structure SubOk (sub : Nat → Nat → Int) : Prop where
  sp : ∀ x y, special x = true → x ≠ y → sub y x = 2
  nn : ∀ x y, 0 ≤ sub y x
  self : ∀ x, sub x x = 0
  two : ∀ x y, sub y x ≤ 2
  symm : ∀ x y, sub x y = sub y x
theorem SubOk.lam {sub : Nat → Nat → Int} (h : SubOk sub) {ds : List (Bool × Int)} (hok : ∀ d ∈ ds, DeedOk d) : ∀ x y, lamB ds x = true → lamB ds y = false → sub y x = 2 := by
  intro x y hx hy
  refine h.sp x y (lam_special hok x hx) ?_
  rintro rfl
  rw [hx] at hy; cases hy
/-- the distance between two stages -/
theorem lev_stage {sub : Nat → Nat → Int} (hs : SubOk sub) {ds : List (Bool × Int)} (g : Good ds) {l : List Nat} {mc v : Int} (h40 : (foldL l ds).length ≤ 40) (hm : priceL l (foldL l ds) ds ≤ mc + 1)
    (h : LevPost sub l (foldL l ds) mc v ∨ LevPost sub (foldL l ds) l mc v) : v = priceL l (foldL l ds) ds := by
  have h : LevPost sub l (foldL l ds) mc v := h.elim id (fun h => h.symm hs.symm)
  exact h.is (hs.lam g.1) hs.nn hs.self hs.two (emb_fold ds l g.1) (free_fold g l) h40 hm
theorem mid_last (p m q : List Nat) (hm : m ≠ []) (n : Nat) (hn : n = p.length + m.length + q.length) : (p ++ m ++ q)[n - q.length - 1]? = m.getLast? := by
  have h0 : m.length ≠ 0 := by simpa using hm
  rw [List.getElem?_append_left (by rw [List.length_append]; lia), List.getElem?_append_right (by lia), List.getLast?_eq_getElem?]
  congr 1; lia
theorem mid_k {k l q : Nat} (hk : k ≤ l) (hq : q + 1 ≤ l - k) : k + (q + 1) ≤ l := by rw [Nat.add_comm]; exact Nat.add_le_of_le_sub hk hq
theorem mid_a {k l q : Nat} (hk : k ≤ l) (hq : q + 1 ≤ l - k) : k + (l - q - 1 - k) = l - q - 1 := by
  show k + (l - (q + 1) - k) = l - (q + 1)
  exact Nat.add_sub_cancel' (Nat.le_sub_of_add_le (mid_k hk hq))
theorem mid_b {k l s q : Nat} (hk : k ≤ l) (hq : q + 1 ≤ l - k) (hlen : l ≤ s) : k + (s - l) + (l - q - 1 - k) = s - q - 1 := by
  rw [Nat.add_right_comm, mid_a hk hq, Nat.add_comm]
  exact Nat.sub_add_sub_cancel hlen (Nat.le_trans (Nat.le_add_left _ _) (mid_k hk hq))
/-- the least: where the last stage is the first with one piece put in -/
theorem lev_least_in {sub : Nat → Nat → Int} {ds : List (Bool × Int)} (g : Good ds) {l : List Nat} {mc v : Int} {k : Nat} (hk : k ≤ l.length) (hp : (foldL l ds).take k ++ (foldL l ds).drop (k + ((foldL l ds).length - l.length)) = l)
    (h : LevPost sub (foldL l ds) l mc v) : v = priceL l (foldL l ds) ds := by
  have hlen := (emb_fold ds l g.1).len
  have hfree := free_fold g l
  generalize foldL l ds = s at *
  have hl0 : l.countP (lamB ds) = 0 := countP_zero_of fun y hy => by
    rw [← hp] at hy
    rcases List.mem_append.mp hy with hy | hy
    · exact hfree y (List.mem_of_mem_take hy)
    · exact hfree y (List.mem_of_mem_drop hy)
  unfold priceL
  rw [hl0]
  rcases h with ⟨rfl, rfl⟩ | ⟨h1, s', l', ⟨⟨p, q, hsp, hlp⟩, hhd, hls⟩, h3⟩
  · lia
  · have hlens := congrArg List.length hsp
    have hlenl := congrArg List.length hlp
    simp only [List.length_append] at hlens hlenl
    rcases h3 with ⟨h3, rfl⟩ | ⟨hs', hl', _⟩
    · have : l'.length = 0 ∨ s'.length = 0 := by rcases h3 with rfl | rfl <;> simp
      lia
    · exfalso
      have hkl : (s.take k).length = k := by rw [List.length_take]; exact Nat.min_eq_left (Nat.le_trans hk hlen)
      have htk : l.take k = s.take k := by rw [← hp, List.take_left' hkl]
      have hdk : l.drop k = s.drop (k + (s.length - l.length)) := by
        have := List.drop_left' (l₁ := s.take k) (l₂ := s.drop (k + (s.length - l.length))) hkl
        rw [hp] at this; exact this
      have hpos : l'.length ≠ 0 := by simpa using hl'
      have hspos : s'.length ≠ 0 := by simpa using hs'
      by_cases c1 : p.length < k
      · -- the head of the middle parts is one sign
        have e1 : l[p.length]? = s[p.length]? := by
          have a1 : (l.take k)[p.length]? = l[p.length]? := List.getElem?_take_of_lt c1
          have a2 : (s.take k)[p.length]? = s[p.length]? := List.getElem?_take_of_lt c1
          rw [← a1, ← a2, htk]
        rw [hsp, hlp] at e1
        rw [List.append_assoc, List.append_assoc, List.getElem?_append_right (Nat.le_refl _), List.getElem?_append_right (Nat.le_refl _), Nat.sub_self, List.getElem?_append_left (by lia), List.getElem?_append_left (by lia)] at e1
        cases l' with
        | nil => exact hl' rfl
        | cons x r =>
          cases s' with
          | nil => exact hs' rfl
          | cons y r' =>
            simp at e1
            exact hhd y x rfl rfl e1.symm
      · -- the last of the middle parts is one sign
        have hq : q.length + 1 ≤ l.length - k := by lia
        have e1 : l[l.length - q.length - 1]? = s[s.length - q.length - 1]? := by
          have a1 : (l.drop k)[l.length - q.length - 1 - k]? = l[l.length - q.length - 1]? := by
            rw [List.getElem?_drop]; congr 1; exact mid_a hk hq
          have a2 : (s.drop (k + (s.length - l.length)))[l.length - q.length - 1 - k]? = s[s.length - q.length - 1]? := by
            rw [List.getElem?_drop]; congr 1; exact mid_b hk hq hlen
          rw [← a1, hdk, a2]
        have f1 := mid_last p l' q hl' _ hlenl
        have f2 := mid_last p s' q hs' _ hlens
        rw [← hlp] at f1
        rw [← hsp] at f2
        rw [f1, f2] at e1
        cases hx : l'.getLast? with
        | none => exact hl' (List.getLast?_eq_none_iff.mp hx)
        | some x =>
          rw [hx] at e1
          exact hls x x e1.symm hx rfl
/-- the least: where it is not -/
theorem lev_least_out {sub : Nat → Nat → Int} {s l : List Nat} {mc v : Int} (hlen : l.length ≤ s.length) (hmc : mc < 2 * ((s.length : Int) - l.length)) (hp : ∀ k, k ≤ l.length → s.take k ++ s.drop (k + (s.length - l.length)) ≠ l)
    (h : LevPost sub s l mc v) : v = mc + 1 := by
  rcases h with ⟨rfl, rfl⟩ | ⟨h1, s', l', ⟨⟨p, q, hsp, hlp⟩, _, _⟩, h3⟩
  · exact absurd (by rw [Nat.sub_self, Nat.add_zero, List.take_append_drop]) (hp 0 (Nat.zero_le _))
  · have hlens := congrArg List.length hsp
    have hlenl := congrArg List.length hlp
    simp only [List.length_append] at hlens hlenl
    have no : l' ≠ [] := by
      rintro rfl
      refine hp p.length (by simp only [List.length_nil] at hlenl; lia) ?_
      have e : p.length + (s.length - l.length) = (p ++ s').length := by simp only [List.length_append, List.length_nil] at hlenl ⊢; lia
      rw [e]
      conv => lhs; rw [hsp]
      rw [List.drop_left, List.append_assoc, List.take_left, hlp, List.append_nil]
    rcases h3 with ⟨h3, rfl⟩ | ⟨_, _, h3⟩
    · rcases h3 with h3 | h3
      · have : l'.length ≠ 0 := by simpa using no
        rw [h3] at hlens; simp only [List.length_nil] at hlens; lia
      · exact absurd h3 no
    · rcases h3 with ⟨rfl, _⟩ | ⟨rfl, _⟩ | ⟨rfl, _⟩ | ⟨_, h3, h4⟩
      · rfl
      · rfl
      · rfl
      · lia
end Mine
end
section
example : True := by w_top off; trivial
namespace Mine
noncomputable def plainC (x : Nat) : Bool := !(ws x) && x != 34 && x != 92
noncomputable def spells (hs : List Nat) (l : List Nat) : List Nat := hs.foldl (fun l h => spell h l) l
theorem spell_append (h : Nat) (a b : List Nat) : spell h (a ++ b) = spell h a ++ spell h b := by unfold spell; rw [List.flatMap_append]
theorem spells_append : ∀ (hs : List Nat) (a b : List Nat), spells hs (a ++ b) = spells hs a ++ spells hs b
  | [], _, _ => rfl
  | h :: hs, a, b => by
    show spells hs (spell h (a ++ b)) = spells hs (spell h a) ++ spells hs (spell h b)
    rw [spell_append, spells_append hs]
theorem spells_nil : ∀ hs : List Nat, spells hs [] = []
  | [] => rfl
  | _ :: hs => spells_nil hs
theorem img_plain (h : Nat) (hh : h < 5) (c : Nat) : (∃ d r, img h c = d :: r ∧ (d = c ∨ plainC d = true) ∧ (∀ x ∈ r, plainC x = true)) ∧ (plainC c = true → ∀ x ∈ img h c, plainC x = true) := by
  have hc : c < 128 ∨ 128 ≤ c := by lia
  rcases hc with hc | hc
  · have : ∀ h < 5, ∀ c < 128, img h c ≠ [] ∧ ((img h c).head? = some c ∨ plainC ((img h c).head?.getD 0) = true) ∧ (∀ x ∈ (img h c).tail, plainC x = true) ∧ (plainC c = true → ∀ x ∈ img h c, plainC x = true) := by decide +kernel
    obtain ⟨h1, h2, h3, h4⟩ := this h hh c hc
    refine ⟨?_, h4⟩
    cases e : img h c with
    | nil => exact absurd e h1
    | cons d r =>
      rw [e] at h2 h3
      exact ⟨d, r, rfl, h2.imp (fun x => by simpa using x) id, h3⟩
  · rw [img_big h hh c hc]
    exact ⟨⟨c, [], rfl, .inl rfl, by simp⟩, fun hp x hx => by rw [List.mem_singleton.mp hx]; exact hp⟩
theorem spells_plain : ∀ (hs : List Nat) (_ : ∀ h ∈ hs, h < 5) (l : List Nat) (_ : ∀ x ∈ l, plainC x = true), ∀ x ∈ spells hs l, plainC x = true
  | [], _, _, hl => hl
  | h :: hs, hh, l, hl => by
    refine spells_plain hs (fun h hx => hh h (List.mem_cons_of_mem _ hx)) (spell h l) fun x hx => ?_
    obtain ⟨c, hc, hx⟩ := List.mem_flatMap.mp hx
    exact (img_plain h (hh h (List.mem_cons_self ..)) c).2 (hl c hc) x hx
theorem spell_one (h c : Nat) : spell h [c] = img h c := by unfold spell; simp
theorem spells_form : ∀ (hs : List Nat) (_ : ∀ h ∈ hs, h < 5) (c : Nat), ∃ d r, spells hs [c] = d :: r ∧ (d = c ∨ plainC d = true) ∧ (∀ x ∈ r, plainC x = true)
  | [], _, c => ⟨c, [], rfl, .inl rfl, by simp⟩
  | h :: hs, hh, c => by
    obtain ⟨d, r, e, h1, h2⟩ := (img_plain h (hh h (List.mem_cons_self ..)) c).1
    have hh' : ∀ h ∈ hs, h < 5 := fun h hx => hh h (List.mem_cons_of_mem _ hx)
    obtain ⟨d', r', e', h1', h2'⟩ := spells_form hs hh' d
    refine ⟨d', r' ++ spells hs r, ?_, ?_, ?_⟩
    · show spells hs (spell h [c]) = _
      rw [spell_one, e, show d :: r = [d] ++ r from rfl, spells_append, e']; rfl
    · rcases h1' with rfl | h1'
      · exact h1
      · exact .inr h1'
    · intro x hx
      rcases List.mem_append.mp hx with hx | hx
      · exact h2' x hx
      · exact spells_plain hs hh' r h2 x hx
theorem spells_fix (hs : List Nat) (c : Nat) (h : ∀ h ∈ hs, img h c = [c]) : spells hs [c] = [c] := by
  induction hs with
  | nil => rfl
  | cons h0 hs ih =>
    show spells hs (spell h0 [c]) = _
    rw [spell_one, h h0 (List.mem_cons_self ..)]
    exact ih fun h' hx => h h' (List.mem_cons_of_mem _ hx)
theorem img_92 (h : Nat) (hh : h < 5) : img h 92 = [92] := by
  have : ∀ h < 5, img h 92 = [92] := by decide +kernel
  exact this h hh
theorem img_34 (h : Nat) (hh : h < 2) : img h 34 = [34] := by
  have : ∀ h < 2, img h 34 = [34] := by decide +kernel
  exact this h hh
/-- a stretch of a text that the lexer takes whole -/
noncomputable def Runs (stop : Nat → Bool) (S t' : List Nat) : Prop := ∀ r t, lexU stop (S ++ r) t = ((lexU stop r (t ++ t')).1, (lexU stop r (t ++ t')).2 + S.length)
theorem Runs.nil {stop : Nat → Bool} : Runs stop [] [] := fun r t => by simp
theorem Runs.append {stop : Nat → Bool} {S S' t t' : List Nat} (h : Runs stop S t) (h' : Runs stop S' t') : Runs stop (S ++ S') (t ++ t') := fun r u => by
  rw [List.append_assoc, h, h', List.append_assoc, List.length_append]
  refine Prod.ext rfl ?_
  show _ + _ + _ = _ + (_ + _)
  lia
theorem Runs.plain {stop : Nat → Bool} : ∀ {e : List Nat}, (∀ x ∈ e, stop x = false ∧ x ≠ 92) → Runs stop e e
  | [], _ => Runs.nil
  | c :: e, h => by
    have h1 : Runs stop [c] [c] := fun r t => by
      have := h c (List.mem_cons_self ..)
      exact lexU_plain this.1 this.2
    exact h1.append (Runs.plain fun x hx => h x (List.mem_cons_of_mem _ hx))
theorem Runs.slash {stop : Nat → Bool} (h : stop 92 = false) (d : Nat) : Runs stop [92, d] [d] := fun r t => lexU_slash h
theorem plain_ws {x : Nat} (h : plainC x = true) : ws x = false ∧ x ≠ 34 ∧ x ≠ 92 := by
  unfold plainC at h
  simp only [Bool.and_eq_true, Bool.not_eq_true', bne_iff_ne, ne_eq] at h
  exact ⟨h.1.1, h.1.2, h.2⟩
theorem mem_qs0 (c : Nat) (h : c ∉ qs0) : plainC c = true := by
  unfold qs0 at h
  simp only [List.mem_cons, List.not_mem_nil, or_false, not_or] at h
  unfold plainC ws
  simp [h]
/-- a dressed sign, written over -/
theorem run0 {hs : List Nat} (hh : ∀ h ∈ hs, h < 5) (c : Nat) : Runs ws (spells hs (slash qs0 c)) (spells hs [c]) := by
  obtain ⟨d, r, e, h1, h2⟩ := spells_form hs hh c
  unfold slash
  split
  · rw [show [92, c] = [92] ++ [c] from rfl, spells_append, spells_fix hs 92 (fun h hx => img_92 h (hh h hx)), e]
    exact (Runs.slash (by decide) d).append (Runs.plain fun x hx => ⟨(plain_ws (h2 x hx)).1, (plain_ws (h2 x hx)).2.2⟩)
  · rename_i hc
    rw [e]
    refine Runs.plain fun x hx => ?_
    have hp : plainC x = true := by
      rcases List.mem_cons.mp hx with rfl | hx
      · rcases h1 with rfl | h1
        · exact mem_qs0 _ hc
        · exact h1
      · exact h2 x hx
    exact ⟨(plain_ws hp).1, (plain_ws hp).2.2⟩
theorem run1 {hs : List Nat} (hh : ∀ h ∈ hs, h < 2) (c : Nat) : Runs (fun c => c == 34) (spells hs (slash qs1 c)) (spells hs [c]) := by
  have hh5 : ∀ h ∈ hs, h < 5 := fun h hx => by have := hh h hx; lia
  obtain ⟨d, r, e, h1, h2⟩ := spells_form hs hh5 c
  unfold slash
  split
  · rename_i hc
    have e2 : spells hs [c] = [c] := by
      unfold qs1 at hc
      simp only [List.mem_cons, List.not_mem_nil, or_false] at hc
      rcases hc with rfl | rfl
      · exact spells_fix hs _ fun h hx => img_34 h (hh h hx)
      · exact spells_fix hs _ fun h hx => img_92 h (hh5 h hx)
    rw [show [92, c] = [92] ++ [c] from rfl, spells_append, spells_fix hs 92 (fun h hx => img_92 h (hh5 h hx)), e2]
    exact Runs.slash (by decide) c
  · rename_i hc
    rw [e]
    refine Runs.plain fun x hx => ?_
    have hp : x ≠ 34 ∧ x ≠ 92 := by
      rcases List.mem_cons.mp hx with rfl | hx
      · rcases h1 with rfl | h1
        · unfold qs1 at hc
          simp only [List.mem_cons, List.not_mem_nil, or_false, not_or] at hc
          exact hc
        · exact (plain_ws h1).2
      · exact (plain_ws (h2 x hx)).2
    exact ⟨by simpa using hp.1, hp.2⟩
theorem spells_cons (hs : List Nat) (c : Nat) (l : List Nat) : spells hs (c :: l) = spells hs [c] ++ spells hs l := spells_append hs [c] l
theorem runs_flat {hs : List Nat} {stop : Nat → Bool} {q : List Nat} (hr : ∀ c, Runs stop (spells hs (slash q c)) (spells hs [c])) : ∀ u : List Nat, Runs stop (spells hs (u.flatMap (slash q))) (spells hs u)
  | [] => by rw [List.flatMap_nil, spells_nil]; exact Runs.nil
  | c :: u => by
    rw [List.flatMap_cons, spells_append, spells_cons hs c u]
    exact (hr c).append (runs_flat hr u)
theorem dress_0 {k : Nat} (hk : k ≠ 1) (u : List Nat) : dress k u = u.flatMap (slash qs0) := by unfold dress; rw [if_neg hk]
theorem dress_1 (u : List Nat) : dress 1 u = 34 :: (u.flatMap (slash qs1) ++ [34]) := by unfold dress; rw [if_pos rfl]
theorem lex_dress0 {hs : List Nat} (hh : ∀ h ∈ hs, h < 5) {k : Nat} (hk : k ≠ 1) {u : List Nat} (hu : u ≠ []) (r : List Nat) :
    lex0 (spells hs (dress k u) ++ 32 :: r) = (spells hs u, (spells hs (dress k u)).length + 1) := by
  rw [dress_0 hk]
  cases u with
  | nil => exact absurd rfl hu
  | cons c u =>
    have hrun := runs_flat (fun c => run0 hh c) u
    rw [List.flatMap_cons, spells_append, spells_cons hs c u]
    obtain ⟨d, e, he, h1, h2⟩ := spells_form hs hh c
    have hpe : Runs ws e e := Runs.plain fun x hx => ⟨(plain_ws (h2 x hx)).1, (plain_ws (h2 x hx)).2.2⟩
    have hs32 : ∀ t, lexU ws (32 :: r) t = (t, 1) := fun t => lexU_stop (by decide)
    by_cases hc : c ∈ qs0
    · have e1 : spells hs (slash qs0 c) = 92 :: d :: e := by
        unfold slash
        rw [if_pos hc, show [92, c] = [92] ++ [c] from rfl, spells_append, spells_fix hs 92 (fun h hx => img_92 h (hh h hx)), he]; rfl
      rw [e1, he]
      show lex0 (92 :: d :: ((e ++ spells hs (u.flatMap (slash qs0))) ++ 32 :: r)) = _
      rw [lex0_slash, (hpe.append hrun) (32 :: r) [d], hs32]
      refine Prod.ext rfl ?_
      simp only [List.length_cons, List.length_append]
      lia
    · have e1 : spells hs (slash qs0 c) = d :: e := by
        unfold slash
        rw [if_neg hc, he]
      have hd : plainC d = true := by
        rcases h1 with rfl | h1
        · exact mem_qs0 _ hc
        · exact h1
      have hd' := plain_ws hd
      rw [e1, he]
      show lex0 (d :: ((e ++ spells hs (u.flatMap (slash qs0))) ++ 32 :: r)) = _
      rw [lex0_plain hd'.1 hd'.2.1 hd'.2.2, (hpe.append hrun) (32 :: r) [d], hs32]
      refine Prod.ext rfl ?_
      simp only [List.length_cons, List.length_append]
      lia
theorem lex_dress1 {hs : List Nat} (hh : ∀ h ∈ hs, h < 2) (u : List Nat) (r : List Nat) :
    lex0 (spells hs (dress 1 u) ++ r) = (spells hs u, (spells hs (dress 1 u)).length) := by
  have hrun := runs_flat (fun c => run1 hh c) u
  have e34 := spells_fix hs 34 fun h hx => img_34 h (hh h hx)
  rw [dress_1, spells_cons, spells_append, e34]
  show lex0 (34 :: ((spells hs (u.flatMap (slash qs1)) ++ [34]) ++ r)) = _
  rw [lex0_quote, List.append_assoc, hrun, show [34] ++ r = 34 :: r from rfl, lexU_stop (by decide)]
  refine Prod.ext rfl ?_
  simp only [List.length_cons, List.length_append, List.length_nil]
  lia
noncomputable def endL : List Nat := [32, 101, 110, 100]
theorem cntN_zero {r : List Nat} (h : 10 ∉ r) (k : Nat) : cntN r k = 0 := by
  unfold cntN
  exact List.count_eq_zero.mpr fun hx => h (List.mem_of_mem_take hx)
theorem read_core {W t1 : List Nat} {q : Nat} (hq : q = 0 ∨ q = 1) (hl : lex0 (W ++ endL) = (t1, W.length + q)) {a b c : List Nat} {n : Int} (h : ReadOut (W ++ endL) a b c n) : a = t1 ∧ b = [101, 110, 100] ∧ c = [] ∧ n = 1 + (W.count 10 : Nat) := by
  obtain ⟨p1, p2, p3, e1, e2, e3, e4, e5, e6, e7⟩ := h
  rw [List.drop_zero, hl] at e1 e4 e7
  have d1 : (W ++ endL).drop p1 = endL.drop q := by
    rw [e1, Nat.zero_add]; exact List.drop_length_add_append _
  rw [d1] at e2 e5 e7
  have e2' : p2 = (W ++ endL).length + 1 := by
    rw [List.length_append]
    rcases hq with rfl | rfl
    · have : (lex0 (endL.drop 0)).2 = 5 := by decide
      rw [this] at e2
      have : endL.length = 4 := rfl
      simp only [Nat.zero_add, Nat.add_zero] at e1; lia
    · have : (lex0 (endL.drop 1)).2 = 4 := by decide
      rw [this] at e2
      have : endL.length = 4 := rfl
      simp only [Nat.zero_add] at e1; lia
  have d2 : (W ++ endL).drop p2 = [] := List.drop_eq_nil_of_le (by lia)
  rw [d2] at e6 e7
  refine ⟨e4, ?_, e6, ?_⟩
  · rw [e5]
    rcases hq with rfl | rfl <;> decide
  · rw [e7, cntN_nil, cntN_zero (r := endL.drop q) (by rcases hq with rfl | rfl <;> decide)]
    have : cntN (W ++ endL) (W.length + q) = W.count 10 := by
      unfold cntN
      rw [List.take_length_add_append, List.count_append]
      have : List.count 10 (endL.take q) = 0 := by rcases hq with rfl | rfl <;> decide
      lia
    simp only [this]
    lia
theorem last_dress : ∀ {ds : List (Bool × Int)}, (∃ d ∈ ds, d.1 = false) → ∃ pre k post, ds = pre ++ (false, k) :: post ∧ (∀ d ∈ post, d.1 = true) ∧ undress ds = pre ++ post
  | [], h => by obtain ⟨d, hd, _⟩ := h; cases hd
  | d :: r, h => by
    by_cases hr : ∃ e ∈ r, e.1 = false
    · obtain ⟨pre, k, post, e, h1, h2⟩ := last_dress hr
      refine ⟨d :: pre, k, post, by rw [e]; rfl, h1, ?_⟩
      unfold undress
      rw [if_neg, h2]; rfl
      rintro ⟨_, h3⟩
      obtain ⟨e, he, h4⟩ := hr
      rw [h3 e he] at h4; cases h4
    · have hall : ∀ e ∈ r, e.1 = true := fun e he => by
        cases q : e.1 with
        | true => rfl
        | false => exact absurd ⟨e, he, q⟩ hr
      obtain ⟨e, he, hf⟩ := h
      rcases List.mem_cons.mp he with rfl | he
      · refine ⟨[], e.2, r, ?_, hall, ?_⟩
        · obtain ⟨b, n⟩ := e
          dsimp only at hf
          rw [hf]; rfl
        · unfold undress
          rw [if_pos ⟨hf, hall⟩]; rfl
      · exact absurd ⟨e, he, hf⟩ hr
theorem fold_spells : ∀ (post : List (Bool × Int)) (_ : ∀ d ∈ post, d.1 = true) (l : List Nat), foldL l post = spells (post.map fun d => d.2.toNat) l
  | [], _, _ => rfl
  | d :: r, h, l => by
    show foldL (deedL d l) r = spells _ (spell d.2.toNat l)
    rw [fold_spells r fun e he => h e (List.mem_cons_of_mem _ he)]
    unfold deedL
    rw [h d (List.mem_cons_self ..)]; rfl
theorem read_is {ds : List (Bool × Int)} (g : Good ds) (hex : ∃ d ∈ ds, d.1 = false) {l : List Nat} (hl : l ≠ []) {a b c : List Nat} {n : Int} (h : ReadOut (foldL l ds ++ endL) a b c n) :
    a = foldL l (undress ds) ∧ b = [101, 110, 100] ∧ c = [] ∧ n = 1 + ((foldL l ds).count 10 : Nat) := by
  obtain ⟨pre, k, post, rfl, h1, h2⟩ := last_dress hex
  have gpre : Good pre := g.sub fun d hd => List.mem_append_left _ hd
  have hpost : ∀ d ∈ post, d ∈ pre ++ (false, k) :: post := fun d hd => List.mem_append_right _ (List.mem_cons_of_mem _ hd)
  have hkok := g.1 (false, k) (List.mem_append_right _ (List.mem_cons_self ..))
  unfold DeedOk at hkok
  simp only [Bool.false_eq_true, if_false] at hkok
  have e1 : foldL l (pre ++ (false, k) :: post) = spells (post.map fun d => d.2.toNat) (dress k.toNat (foldL l pre)) := by
    rw [foldL_append]
    show foldL (deedL (false, k) (foldL l pre)) post = _
    rw [fold_spells post h1]; rfl
  have e2 : foldL l (undress (pre ++ (false, k) :: post)) = spells (post.map fun d => d.2.toNat) (foldL l pre) := by
    rw [h2, foldL_append, fold_spells post h1]
  rw [e1] at h
  rw [e1, e2]
  have hh : ∀ h ∈ post.map (fun d => d.2.toNat), h < 5 := by
    intro h hx
    obtain ⟨d, hd, rfl⟩ := List.mem_map.mp hx
    have := g.1 d (hpost d hd)
    unfold DeedOk at this
    rw [h1 d hd] at this
    simp only [if_true] at this
    lia
  have hu : foldL l pre ≠ [] := by
    intro e
    have := (emb_fold pre l gpre.1).len
    rw [e] at this
    exact hl (List.eq_nil_of_length_eq_zero (by simpa using this))
  by_cases hk : k.toNat = 1
  · have hh2 : ∀ h ∈ post.map (fun d => d.2.toNat), h < 2 := by
      intro h hx
      obtain ⟨d, hd, rfl⟩ := List.mem_map.mp hx
      have hd0 := g.1 d (hpost d hd)
      unfold DeedOk at hd0
      rcases g.2 with h3 | h3
      · have := h3 d (hpost d hd) (h1 d hd); lia
      · have := h3 (false, k) (List.mem_append_right _ (List.mem_cons_self ..)) rfl
        dsimp only at this; lia
    rw [hk] at h ⊢
    exact read_core (.inl rfl) (lex_dress1 hh2 _ _) h
  · exact read_core (.inr rfl) (lex_dress0 hh hk hu _) h
end Mine
end
section
example : True := by w_top off; trivial
open PySem PySem.W PyProof.Rows PyProof.Rows.LCg
namespace Mine
section
variable {prog : Program} {w : World} {A : Around} {E : Value → Shared → Prop} {s : Shared} {h₀ : Heap} {env : Env} {L : Addr}
theorem while_all {test : Expr} {body : List Stmt} {pos : Pos} {Q : Flow → Shared → Prop} {m : Str → Option Value} {news : List (Addr × Obj)} (J : (Str → Option Value) → List (Addr × Obj) → Nat → (Str → Option Value) → List (Addr × Obj) → Prop) {n₀ : Nat}
    (F : Fr h₀ L s.heap m) (N : News h₀ L s.heap news) (hJ : J m news n₀ m news)
    (turn : ∀ n m₁ news₁ h₁ tk₁, Fr h₀ L h₁ m₁ → News h₀ L h₁ news₁ → J m news n m₁ news₁ →
      wpAny (model prog w) A (isTrue test env (eval test env)) (fun b s₂ =>
        if b = true then wpAny (model prog w) A (execs body env) (WhileStep2 h₀ L s (J m news) Q n) E s₂ else Q .next s₂) E { s with heap := h₁, toks := tk₁ })
    (hE : PassesOwn (model prog w) A env E := by passes_own) :
    wpAny (model prog w) A (exec (.While test body [] pos) env) Q E s := While_inv2 (J m news) F N hJ turn hE
noncomputable def WEnd (h₀ : Heap) (L : Addr) (s : Shared) (D : (Str → Option Value) → List (Addr × Obj) → Prop) (s₂ : Shared) : Prop :=
  ∃ h' tk m' news', s₂ = { s with heap := h', toks := tk } ∧ Fr h₀ L h' m' ∧ News h₀ L h' news' ∧ D m' news'
theorem WEnd.intro {D : (Str → Option Value) → List (Addr × Obj) → Prop} {h' : Heap} {tk : Nat} {m' : Str → Option Value} {news' : List (Addr × Obj)} (F : Fr h₀ L h' m') (N : News h₀ L h' news') (hD : D m' news') : WEnd h₀ L s D { s with heap := h', toks := tk } := ⟨h', tk, m', news', rfl, F, N, hD⟩
theorem wstep_intro {J : Nat → (Str → Option Value) → List (Addr × Obj) → Prop} {Q : Flow → Shared → Prop} {h' : Heap} {tk : Nat} {m' : Str → Option Value} {news' : List (Addr × Obj)} {n n' : Nat} (F : Fr h₀ L h' m') (N : News h₀ L h' news') (hn : n' < n) (hJ : J n' m' news') : WhileStep2 h₀ L s J Q n .next { s with heap := h', toks := tk } := ⟨h', tk, m', news', n', rfl, F, N, hn, hJ⟩
noncomputable def NEnd (h₀ : Heap) (L : Addr) (s : Shared) (D : (Str → Option Value) → List (Addr × Obj) → Prop) (f : Flow) (s₂ : Shared) : Prop := f = .next ∧ WEnd h₀ L s D s₂
theorem NEnd.intro {D : (Str → Option Value) → List (Addr × Obj) → Prop} {h' : Heap} {tk : Nat} {m' : Str → Option Value} {news' : List (Addr × Obj)} (F : Fr h₀ L h' m') (N : News h₀ L h' news') (hD : D m' news') : NEnd h₀ L s D .next { s with heap := h', toks := tk } := ⟨rfl, h', tk, m', news', rfl, F, N, hD⟩
theorem if_join {test : Expr} {body orelse : List Stmt} {pos : Pos} {Q : Flow → Shared → Prop} {m : Str → Option Value} {news : List (Addr × Obj)} (D : (Str → Option Value) → List (Addr × Obj) → (Str → Option Value) → List (Addr × Obj) → Prop)
    (_F : Fr h₀ L s.heap m) (_N : News h₀ L s.heap news)
    (turn : wpAny (model prog w) A (isTrue test env (eval test env)) (fun b s₂ => if b = true then wpAny (model prog w) A (execs body env) (NEnd h₀ L s (D m news)) E s₂ else wpAny (model prog w) A (execs orelse env) (NEnd h₀ L s (D m news)) E s₂) E s)
    (done : ∀ h' tk m' news', Fr h₀ L h' m' → News h₀ L h' news' → D m news m' news' → Q .next { s with heap := h', toks := tk }) :
    wpAny (model prog w) A (exec (.If test body orelse pos) env) Q E s := by
  refine wpAny_If (wpAny_mono turn (fun b s₂ hb => ?_) fun _ _ e => e)
  have fin : ∀ (f : Flow) (s₃ : Shared), NEnd h₀ L s (D m news) f s₃ → Q f s₃ := by
    rintro f s₃ ⟨rfl, h', tk, m', news', rfl, F', N', hD⟩
    exact done h' tk m' news' F' N' hD
  cases b with
  | true =>
    simp only [if_true] at hb ⊢
    exact wpAny_mono hb fin fun _ _ e => e
  | false =>
    simp only [Bool.false_eq_true, if_false] at hb ⊢
    exact wpAny_mono hb fin fun _ _ e => e
theorem while_end {test : Expr} {body : List Stmt} {pos : Pos} {Q : Flow → Shared → Prop} {m : Str → Option Value} {news : List (Addr × Obj)} (J : (Str → Option Value) → List (Addr × Obj) → Nat → (Str → Option Value) → List (Addr × Obj) → Prop) (D : (Str → Option Value) → List (Addr × Obj) → (Str → Option Value) → List (Addr × Obj) → Prop) {n₀ : Nat}
    (F : Fr h₀ L s.heap m) (N : News h₀ L s.heap news) (hJ : J m news n₀ m news)
    (turn : ∀ n m₁ news₁ h₁ tk₁, Fr h₀ L h₁ m₁ → News h₀ L h₁ news₁ → J m news n m₁ news₁ →
      wpAny (model prog w) A (isTrue test env (eval test env)) (fun b s₂ =>
        if b = true then wpAny (model prog w) A (execs body env) (WhileStep2 h₀ L s (J m news) Q n) E s₂ else WEnd h₀ L s (D m news) s₂) E { s with heap := h₁, toks := tk₁ })
    (done : ∀ h' tk m' news', Fr h₀ L h' m' → News h₀ L h' news' → D m news m' news' → Q .next { s with heap := h', toks := tk })
    (hE : PassesOwn (model prog w) A env E := by passes_own) :
    wpAny (model prog w) A (exec (.While test body [] pos) env) Q E s := by
  refine While_inv2 (J m news) F N hJ (fun n m₁ news₁ h₁ tk₁ F₁ N₁ J₁ => wpAny_mono (turn n m₁ news₁ h₁ tk₁ F₁ N₁ J₁) (fun b s₂ hb => ?_) fun _ _ e => e) hE
  cases b with
  | true => exact hb
  | false =>
    simp only [Bool.false_eq_true, if_false] at hb ⊢
    obtain ⟨h', tk, m', news', rfl, F', N', hD⟩ := hb
    exact done h' tk m' news' F' N' hD
end
theorem frW1 {g h : Heap} {L : Addr} {m m₀ : Str → Option Value} {x : Str} {v : Option Value} (F : Fr g L h m) (b : But [x] m₀ m) (e : m x = v) : Fr g L h (fun z => if z = x then v else m₀ z) := by
  have : (fun z => if z = x then v else m₀ z) = m := by
    funext z
    by_cases h : z = x
    · rw [if_pos h, h, e]
    · rw [if_neg h]; exact (b z (by simp [h])).symm
  rw [this]; exact F
theorem but_set {m : Str → Option Value} {x : Str} {v' : Option Value} {m₀ : Str → Option Value} (e : ∀ z, z ≠ x → m z = m₀ z) : But [x] m₀ (fun z => if z = x then v' else m z) := by
  intro z hz
  have hz : z ≠ x := by simpa using hz
  show (if z = x then v' else m z) = m₀ z
  rw [if_neg hz]; exact e z hz
/-- slices of a text -/
theorem range_pick (l : List Nat) (a : Nat) : ∀ c : Nat, ((List.range c).map fun k => a + k).filterMap (fun i => l[i]?) = (l.drop a).take c
  | 0 => by simp
  | c + 1 => by
    rw [List.range_succ, List.map_append, List.filterMap_append, range_pick l a c, List.take_add_one, List.getElem?_drop]
    congr 1
theorem slice_gen (x : Str) (l u : Option Int) (a c : Nat) (h : Builtin.Str.strSliceIndices l u 1 x.length = (List.range c).map fun k => a + k) (hc : a + c ≤ x.length) : Txt.slice x l u = ofL (((sg x).drop a).take c) := by
  unfold Txt.slice
  rw [h, List.length_map, List.length_range]
  split
  · rename_i e
    have e : c = x.length := by simpa using e
    have ha : a = 0 := by lia
    rw [ha, List.drop_zero, List.take_of_length_le (by rw [sgl]; lia), ofL_sg]
  · have := range_pick (sg x) a c
    rw [← this]
    apply str_ext
    show _ = List.filterMap _ _
    have e : (fun i : Nat => (sg x)[i]?) = fun i => x.cps[i]? := by funext i; exact Array.getElem?_toList
    rw [e]
theorem sliceRange_one (a b : Int) (ha : 0 ≤ a) : sliceRange a b 1 = (List.range (b - a).toNat).map fun k => a.toNat + k := by
  unfold sliceRange
  simp only [show (1 : Int) > 0 by decide, if_true, Int.ediv_one]
  have e : (if a < b then b - a + 1 - 1 else 0 : Int).toNat = (b - a).toNat := by split <;> lia
  rw [e]
  refine List.map_congr_left fun k _ => ?_
  lia
theorem sl_to (p : Int) (n : Nat) (h : 0 ≤ p) : (max 0 (min p (n : Int)) - 0).toNat = min p.toNat n := by
  obtain ⟨k, rfl⟩ := Int.eq_ofNat_of_zero_le h
  rw [Int.sub_zero, Int.max_eq_right (Int.le_min.mpr ⟨h, Int.natCast_nonneg _⟩)]
  rcases Nat.le_total k n with c | c
  · rw [Int.min_eq_left (Int.ofNat_le.mpr c), Int.toNat_natCast, Nat.min_eq_left c]
  · rw [Int.min_eq_right (Int.ofNat_le.mpr c), Int.toNat_natCast, Int.toNat_natCast, Nat.min_eq_right c]
theorem sl_neg (p : Int) (n : Nat) (h : p < 0) : (max 0 (min (p + (n : Int)) (n : Int)) - 0).toNat = n - (-p).toNat := by
  obtain ⟨k, rfl⟩ := Int.eq_negSucc_of_lt_zero h
  rw [Int.sub_zero, Int.min_eq_left (by omega)]
  rcases Int.le_total (Int.negSucc k + (n : Int)) 0 with c | c
  · rw [Int.max_eq_left c]; omega
  · rw [Int.max_eq_right c]; omega
theorem slice_from (x : Str) (p : Int) (h0 : 0 ≤ p) (h : p ≤ x.length) : Txt.slice x (some p) none = ofL ((sg x).drop p.toNat) := by
  rw [slice_gen x (some p) none p.toNat (x.length - p.toNat) ?_ (by lia)]
  · rw [List.take_of_length_le (by rw [List.length_drop, sgl]; lia)]
  · unfold Builtin.Str.strSliceIndices
    simp only [show (1 : Int) > 0 by decide, if_true, Int.not_lt.mpr h0, if_false]
    rw [Int.min_eq_left h, Int.max_eq_right h0, sliceRange_one _ _ h0]
    rw [show ((x.length : Int) - p).toNat = x.length - p.toNat by lia]
theorem slice_to (x : Str) (p : Int) (h0 : 0 ≤ p) : Txt.slice x none (some p) = ofL ((sg x).take p.toNat) := by
  rw [slice_gen x none (some p) 0 (min p.toNat x.length) ?_ (by lia)]
  · rw [List.drop_zero]
    congr 1
    rw [List.take_eq_take_iff, sgl]; lia
  · unfold Builtin.Str.strSliceIndices
    simp only [show (1 : Int) > 0 by decide, if_true, Int.not_lt.mpr h0, if_false]
    rw [sliceRange_one _ _ (by decide)]
    rw [sl_to p x.length h0]
    rfl
theorem slice_neg (x : Str) (p : Int) (h0 : p < 0) : Txt.slice x none (some p) = ofL ((sg x).take (x.length - (-p).toNat)) := by
  rw [slice_gen x none (some p) 0 (x.length - (-p).toNat) ?_ (by lia)]
  · rw [List.drop_zero]
  · unfold Builtin.Str.strSliceIndices
    simp only [show (1 : Int) > 0 by decide, if_true, h0]
    rw [sliceRange_one _ _ (by decide)]
    rw [sl_neg p x.length h0]
    rfl
theorem slice_all (x : Str) : Txt.slice x none none = x := by
  rw [slice_gen x none none 0 x.length ?_ (by lia)]
  · rw [List.drop_zero, List.take_of_length_le (by rw [sgl]; lia), ofL_sg]
  · unfold Builtin.Str.strSliceIndices
    simp only [show (1 : Int) > 0 by decide, if_true]
    rw [sliceRange_one _ _ (by decide)]
    simp
theorem item_at (x : Str) (i : Nat) (c : Nat) (h : (sg x)[i]? = some c) : Txt.item x (i : Int) = ⟨#[c]⟩ := by
  have hi : i < (sg x).length := (List.getElem?_eq_some_iff.mp h).1
  rw [sgl] at hi
  have e : seqIndex? (i : Int) x.length = some i := by
    unfold seqIndex?
    simp; lia
  unfold Txt.item Txt.charAt
  rw [e]
  have h2 : x.cps[i]? = some c := by rw [← h]; exact Array.getElem?_toList.symm
  simp [h2]
theorem item_neg (x : Str) (i : Nat) (c : Nat) (h0 : 0 < i) (hi : i ≤ x.length) (h : (sg x)[x.length - i]? = some c) : Txt.item x (-(i : Int)) = ⟨#[c]⟩ := by
  have e : seqIndex? (-(i : Int)) x.length = some (x.length - i) := by
    unfold seqIndex?
    have h1 : (-(i : Int)) < 0 := by lia
    simp [h1]; lia
  unfold Txt.item Txt.charAt
  rw [e]
  have h2 : x.cps[x.length - i]? = some c := by rw [← h]; exact Array.getElem?_toList.symm
  simp [h2]
theorem at_some {x : Str} {p : Int} (h0 : 0 ≤ p) (h : p < x.length) : ∃ c, (sg x)[p.toNat]? = some c ∧ Txt.item x p = ⟨#[c]⟩ := by
  have hl : p.toNat < (sg x).length := by rw [sgl]; lia
  refine ⟨(sg x)[p.toNat], List.getElem?_eq_getElem hl, ?_⟩
  have := item_at x p.toNat _ (List.getElem?_eq_getElem hl)
  rwa [Int.toNat_of_nonneg h0] at this
theorem one_inj {c d : Nat} (h : (⟨#[c]⟩ : Str) = ⟨#[d]⟩) : c = d := by simpa using h
theorem pre_step {x y : Str} {p : Int} (h0 : 0 ≤ p) (hx : p < x.length) (hy : p < y.length) (h : (sg x).take p.toNat = (sg y).take p.toNat) (e : (Txt.item x p == Txt.item y p) = true) : (sg x).take (p + 1).toNat = (sg y).take (p + 1).toNat := by
  obtain ⟨c, hc, ec⟩ := at_some h0 hx
  obtain ⟨d, hd, ed⟩ := at_some h0 hy
  rw [ec, ed] at e
  have e := one_inj (eq_of_beq e)
  rw [show (p + 1).toNat = p.toNat + 1 by lia, List.take_add_one, List.take_add_one, h, hc, hd, e]
theorem pre_stop {x y : Str} {p : Int} (h0 : 0 ≤ p) (hx : p < x.length) (hy : p < y.length) (e : (Txt.item x p == Txt.item y p) = false) : ∀ c d, (sg x)[p.toNat]? = some c → (sg y)[p.toNat]? = some d → c ≠ d := by
  intro c d hc hd hcd
  obtain ⟨c', hc', ec⟩ := at_some h0 hx
  obtain ⟨d', hd', ed⟩ := at_some h0 hy
  rw [hc] at hc'; rw [hd] at hd'
  cases hc'; cases hd'
  subst hcd
  rw [ec, ed] at e
  simp at e
theorem pre_out {x y : Str} {p : Int} (h : x.length ≤ p ∨ y.length ≤ p) : ∀ c d, (sg x)[p.toNat]? = some c → (sg y)[p.toNat]? = some d → c ≠ d := by
  intro c d hc hd
  have h1 := (List.getElem?_eq_some_iff.mp hc).1
  have h2 := (List.getElem?_eq_some_iff.mp hd).1
  rw [sgl] at h1 h2
  lia
/-- from the end -/
theorem at_neg {x : Str} {q : Int} (h0 : 0 ≤ q) (h : q < x.length) : ∃ c, (sg x)[x.length - (q.toNat + 1)]? = some c ∧ Txt.item x (-q - 1) = ⟨#[c]⟩ := by
  have hl : x.length - (q.toNat + 1) < (sg x).length := by rw [sgl]; lia
  refine ⟨(sg x)[x.length - (q.toNat + 1)], List.getElem?_eq_getElem hl, ?_⟩
  have := item_neg x (q.toNat + 1) _ (by lia) (by lia) (List.getElem?_eq_getElem hl)
  rwa [show (-((q.toNat + 1 : Nat) : Int)) = -q - 1 by lia] at this
theorem drop_back {l : List Nat} {k : Nat} {c : Nat} (h : l[l.length - (k + 1)]? = some c) (hk : k < l.length) : l.drop (l.length - (k + 1)) = c :: l.drop (l.length - k) := by
  rw [drop_some h, show l.length - (k + 1) + 1 = l.length - k by lia]
theorem post_step {x y : Str} {q : Int} (h0 : 0 ≤ q) (hx : q < x.length) (hy : q < y.length) (h : (sg x).drop (x.length - q.toNat) = (sg y).drop (y.length - q.toNat)) (e : (Txt.item x (-q - 1) == Txt.item y (-q - 1)) = true) :
    (sg x).drop (x.length - (q + 1).toNat) = (sg y).drop (y.length - (q + 1).toNat) := by
  obtain ⟨c, hc, ec⟩ := at_neg h0 hx
  obtain ⟨d, hd, ed⟩ := at_neg h0 hy
  rw [ec, ed] at e
  have e := one_inj (eq_of_beq e)
  rw [show (q + 1).toNat = q.toNat + 1 by lia, ← sgl x, ← sgl y] at *
  rw [drop_back hc (by lia), drop_back hd (by lia), h, e]
theorem post_stop {x y : Str} {q : Int} (h0 : 0 ≤ q) (hx : q < x.length) (hy : q < y.length) (e : (Txt.item x (-q - 1) == Txt.item y (-q - 1)) = false) : ∀ c d, ((sg x).take (x.length - q.toNat)).getLast? = some c → ((sg y).take (y.length - q.toNat)).getLast? = some d → c ≠ d := by
  obtain ⟨c', hc', ec⟩ := at_neg h0 hx
  obtain ⟨d', hd', ed⟩ := at_neg h0 hy
  intro c d hc hd hcd
  have key : ∀ (z : Str) (c c' : Nat), q < z.length → ((sg z).take (z.length - q.toNat)).getLast? = some c → (sg z)[z.length - (q.toNat + 1)]? = some c' → c = c' := by
    intro z c c' hz h1 h2
    rw [List.getLast?_eq_getElem?, List.length_take, sgl, Nat.min_eq_left (by lia), List.getElem?_take_of_lt (by lia), show z.length - q.toNat - 1 = z.length - (q.toNat + 1) by lia, h2] at h1
    exact (Option.some.inj h1).symm
  have h1 := key x c c' hx hc hc'
  have h2 := key y d d' hy hd hd'
  subst h1; subst h2; subst hcd
  rw [ec, ed] at e
  simp at e
theorem post_out {x y : Str} {q : Int} (h0 : 0 ≤ q) (h : x.length ≤ q ∨ y.length ≤ q) : ∀ c d, ((sg x).take (x.length - q.toNat)).getLast? = some c → ((sg y).take (y.length - q.toNat)).getLast? = some d → c ≠ d := by
  intro c d hc hd
  exfalso
  rcases h with h | h
  · rw [show x.length - q.toNat = 0 by lia] at hc; simp at hc
  · rw [show y.length - q.toNat = 0 by lia] at hd; simp at hd
/-- both cuts together -/
theorem cut_of {x y : Str} {p q : Int} (h0 : 0 ≤ p) (hx : p ≤ x.length) (hy : p ≤ y.length) (hpre : (sg x).take p.toNat = (sg y).take p.toNat) (hst : ∀ c d, (sg x)[p.toNat]? = some c → (sg y)[p.toNat]? = some d → c ≠ d)
    {x1 y1 : Str} (e1 : sg x1 = (sg x).drop p.toNat) (e2 : sg y1 = (sg y).drop p.toNat) (q0 : 0 ≤ q) (qx : q ≤ x1.length) (qy : q ≤ y1.length) (hpost : (sg x1).drop (x1.length - q.toNat) = (sg y1).drop (y1.length - q.toNat))
    (hst2 : ∀ c d, ((sg x1).take (x1.length - q.toNat)).getLast? = some c → ((sg y1).take (y1.length - q.toNat)).getLast? = some d → c ≠ d) :
    Cut (sg x) (sg y) ((sg x1).take (x1.length - q.toNat)) ((sg y1).take (y1.length - q.toNat)) := by
  refine ⟨⟨(sg x).take p.toNat, (sg x1).drop (x1.length - q.toNat), ?_, ?_⟩, ?_, hst2⟩
  · rw [List.append_assoc, List.take_append_drop, e1, List.take_append_drop]
  · rw [hpost, hpre, List.append_assoc, List.take_append_drop, e2, List.take_append_drop]
  · have key : ∀ (z z1 : Str) (c : Nat), sg z1 = (sg z).drop p.toNat → ((sg z1).take (z1.length - q.toNat)).head? = some c → (sg z)[p.toNat]? = some c := by
      intro z z1 c e h
      rw [List.head?_take] at h
      split at h
      · cases h
      · rw [e, List.head?_drop] at h; exact h
    intro c d hc hd
    exact hst c d (key x x1 c e1 hc) (key y y1 d e2 hd)
/-- a text without its last signs -/
noncomputable def cutS (x : Str) (q : Int) : Str := ofL ((sg x).take (x.length - q.toNat))
theorem cutS_zero {x : Str} {q : Int} (h : q = 0) : cutS x q = x := by
  subst h
  unfold cutS
  rw [show x.length - (0 : Int).toNat = x.length from rfl, List.take_of_length_le (by rw [sgl]; exact Nat.le_refl _), ofL_sg]
theorem cutS_len (x : Str) (q : Int) (h0 : 0 ≤ q) (h : q ≤ x.length) : ((cutS x q).length : Int) = x.length - q := by
  unfold cutS
  rw [length_ofL, List.length_take, sgl]; lia
theorem cutS_neg {x : Str} {q : Int} (h : -q ≠ 0) (h0 : 0 ≤ q) : Txt.slice x none (some (-q)) = cutS x q := by
  rw [slice_neg x (-q) (by lia)]
  unfold cutS
  rw [Int.neg_neg]
section
variable {prog : Program} {w : World} {A : Around} {E : Value → Shared → Prop} {s : Shared} {h₀ : Heap} {env : Env}
theorem for_range {x : Str} {px : Pos} {env : Env} {body : List Stmt} {Q : Flow → Shared → Prop} {r : Addr} {n : Nat} {nn : Int} {t u v : Tok} {m : Str → Option Value} {news : List (Addr × Obj)} (J : List (Addr × Obj) → (Str → Option Value) → Nat → (Str → Option Value) → List (Addr × Obj) → Prop) (hh : A.handled = none)
    (F : Fr h₀ env.locals s.heap m) (N : News h₀ env.locals s.heap news) (hr : IsRange s.heap r 0 nn 1 t u v) (hnn : nn = (n : Int)) (hsm : Builtin.Range.small 0 (n : Int) 1 = true) (hn : Builtin.Range.rangeSize 0 (n : Int) 1 = (n : Int)) (hJ : J news m 0 m news)
    (turn : ∀ i t m₁ news₁ I oI g h tk, i < n → J news m i m₁ news₁ → (∀ p ∈ news₁, p.1 ≠ I) → (∀ p ∈ news, p.1 < I) → Fr h₀ env.locals h m₁ → News h₀ env.locals h ((I, oI) :: news₁) →
      wpAny (model prog w) A (assign (.Name x px) env (.int ((i : Nat) : Int) t)) (fun _ s₂ => wpAny (model prog w) A (execs body env) (ForEnd h₀ env.locals I oI (fun _ => True) (J news m (i + 1)) { s with heap := g } Q) E s₂) E { s with heap := h, toks := tk })
    (done : ∀ h tk m' news', Fr h₀ env.locals h m' → News h₀ env.locals h news' → J news m n m' news' → Q .next { s with heap := h, toks := tk }) :
    wpAny (model prog w) A (pyIter (.ref r)) (ForSrc prog w A h₀ env (.Name x px) body Q E) E s := by
  subst hnn
  refine wpAny_pyIter_range hr hsm ?_
  refine ⟨_, _, n, _, _, (fun _ => True), m, news, J news m, rfl, range_walks hh 0 n, (fun i h st => ⟨_, st⟩), range_st, ?_, (fun i v s' Q' st hq => letGo_name hq),
    F.push _, N.grown (fun _ _ e => Heap.get?_push_of_some _ e), Nat.ne_of_lt F.ns.lt, next_is_new F, (fun p hp => Nat.ne_of_lt (Heap.lt_size (N p hp).1)), trivial, hJ, ?_, ?_⟩
  · show IsRangeIter _ _ _ _ _
    rw [hn]; simpa using Heap.get?_push_size _ rfl
  · intro i v m₁ news₁ oI h tk hi hP hJ₁ _ off F₁ N₁
    obtain ⟨t, rfl⟩ := hP
    rw [Int.zero_add]
    exact turn i t m₁ news₁ _ oI _ h tk hi hJ₁ off (fun p hp => Heap.lt_size (N p hp).1) F₁ N₁
  · intro h tk m' news' F' N' hJ'
    exact done h tk m' news' F' N' hJ'
end
end Mine
end
section
example : True := by w_top off; trivial
open PySem PySem.W PyProof.Rows
namespace Mine
noncomputable def lowA (c : Nat) : Nat := if 65 ≤ c ∧ c ≤ 90 then c + 32 else c
theorem low_one : ∀ c < 128, Txt.lower ⟨#[c]⟩ = ⟨#[lowA c]⟩ := by decide +kernel
noncomputable def subA (a b : Nat) : Int := if a = b then 0 else if lowA a = lowA b then 1 else 2
theorem subc_A {a b : Nat} (ha : a < 128) (hb : b < 128) : subc ⟨#[a]⟩ ⟨#[b]⟩ = subA a b := by
  unfold subc subA
  rw [low_one a ha, low_one b hb]
  have e : ∀ c d : Nat, ((⟨#[c]⟩ : Str) = ⟨#[d]⟩) = (c = d) := fun c d => by simp
  simp only [e]
theorem subA_ok : SubOk subA where
  sp := by
    intro x y hx hne
    unfold special at hx
    have hx : x = 60 ∨ x = 62 ∨ x = 34 ∨ x = 9 ∨ x = 10 ∨ x = 13 := by simpa using hx
    unfold subA lowA
    rw [if_neg (fun e => hne e.symm), if_neg]
    intro e
    split at e <;> split at e <;> lia
  nn := by intro x y; unfold subA; split <;> (try split) <;> lia
  self := by intro x; unfold subA; rw [if_pos rfl]
  two := by intro x y; unfold subA; split <;> (try split) <;> lia
  symm := by
    intro x y
    unfold subA
    by_cases h : x = y
    · rw [if_pos h, if_pos h.symm]
    · have h' : ¬ y = x := fun e => h e.symm
      rw [if_neg h, if_neg h']
      by_cases h2 : lowA x = lowA y
      · rw [if_pos h2, if_pos h2.symm]
      · have h2' : ¬ lowA y = lowA x := fun e => h2 e.symm
        rw [if_neg h2, if_neg h2']
theorem ed_bound {sub : Nat → Nat → Int} (h0 : ∀ x y, 0 ≤ sub y x) : ∀ (n : Nat) (b a : List Nat), b.length + a.length ≤ n → 0 ≤ ed sub b a ∧ ed sub b a ≤ 2 * ((b.length : Int) + a.length)
  | n, [], a, _ => by rw [ed_nil_l]; simp only [List.length_nil]; omega
  | n, y :: b, [], _ => by rw [ed_nil_r]; simp only [List.length_nil]; omega
  | 0, y :: b, x :: a, h => by simp at h
  | n + 1, y :: b, x :: a, h => by
    simp only [List.length_cons] at h
    have h1 := ed_bound h0 n (y :: b) a (by simp only [List.length_cons]; omega)
    have h2 := ed_bound h0 n b (x :: a) (by simp only [List.length_cons]; omega)
    have h3 := ed_bound h0 n b a (by omega)
    have h4 := h0 x y
    rw [ed_cons]
    simp only [List.length_cons] at h1 h2 ⊢
    omega
theorem EE_bound {sub : Nat → Nat → Int} (h0 : ∀ x y, 0 ≤ sub y x) (a B : List Nat) (j : Nat) : 0 ≤ EE sub a B j ∧ EE sub a B j ≤ 2 * ((B.length : Int) + a.length) := by
  have h := ed_bound h0 _ B (a.take j).reverse (Nat.le_refl _)
  rw [List.length_reverse, List.length_take] at h
  unfold EE
  omega
/-- the table's row, as the list bears it -/
noncomputable def RowIs (a B : List Nat) (ns : List Int) : Prop := ns.length = a.length ∧ ∀ j, j < a.length → ns.getD j 0 = EE subA a B (j + 1)
/-- a row half way -/
noncomputable def RowAt (a B : List Nat) (y i : Nat) (ns : List Int) : Prop := ns.length = a.length ∧ ∀ j, j < a.length → ns.getD j 0 = if j < i then EE subA a (y :: B) (j + 1) else EE subA a B (j + 1)
theorem RowAt.zero {a B : List Nat} {y : Nat} {ns : List Int} (h : RowIs a B ns) : RowAt a B y 0 ns := ⟨h.1, fun j hj => by rw [if_neg (Nat.not_lt_zero _)]; exact h.2 j hj⟩
theorem RowAt.all {a B : List Nat} {y : Nat} {ns : List Int} (h : RowAt a B y a.length ns) : RowIs a (y :: B) ns := ⟨h.1, fun j hj => by have := h.2 j hj; rwa [if_pos hj] at this⟩
theorem RowAt.get {a B : List Nat} {y i : Nat} {ns : List Int} (h : RowAt a B y i ns) (hi : i < a.length) : ns.getD i 0 = EE subA a B (i + 1) := by
  have := h.2 i hi
  rwa [if_neg (Nat.lt_irrefl _)] at this
theorem RowAt.set {a B : List Nat} {y i : Nat} {ns : List Int} {v : Int} (h : RowAt a B y i ns) (hi : i < a.length) (hv : v = EE subA a (y :: B) (i + 1)) : RowAt a B y (i + 1) (ns.set i v) := by
  refine ⟨by rw [List.length_set]; exact h.1, fun j hj => ?_⟩
  have hl := h.1
  by_cases e : i = j
  · subst e
    rw [if_pos (Nat.lt_succ_self _), List.getD_eq_getElem?_getD, List.getElem?_set_self (by lia)]
    exact hv
  · rw [List.getD_eq_getElem?_getD, List.getElem?_set_ne e, ← List.getD_eq_getElem?_getD, h.2 j hj]
    by_cases q : j < i
    · rw [if_pos q, if_pos (by lia)]
    · rw [if_neg q, if_neg (by lia)]
theorem row_first {a : List Nat} {ns : List Int} (hl : ns.length = a.length) (h : ∀ j, j < a.length → ns.getD j 0 = 2 + (j : Int) * 2) : RowIs a [] ns :=
  ⟨hl, fun j hj => by rw [h j hj, EE_nil a (j + 1) (by lia)]; lia⟩
/-- the value that the inner turn reckons -/
noncomputable def leftOf (a B : List Nat) (y i : Nat) : Int := if i = 0 then EE subA a B 0 else EE subA a (y :: B) i
theorem turn_val {a B : List Nat} {y i x : Nat} (hx : a[i]? = some x) : EE subA a (y :: B) (i + 1) = min (min (leftOf a B y i) (EE subA a B (i + 1)) + 2) (EE subA a B i + subA y x) := by
  unfold leftOf
  cases i with
  | zero => rw [if_pos rfl]; exact EE_edge subA_ok.two hx
  | succ i => rw [if_neg (by lia)]; exact EE_step hx
theorem leftOf_succ (a B : List Nat) (y i : Nat) : leftOf a B y (i + 1) = EE subA a (y :: B) (i + 1) := by unfold leftOf; rw [if_neg (by lia)]
theorem leftOf_bound (a B : List Nat) (y i : Nat) : 0 ≤ leftOf a B y i ∧ leftOf a B y i ≤ 2 * ((B.length : Int) + 1 + a.length) := by
  unfold leftOf
  have h1 := EE_bound subA_ok.nn a B 0
  have h2 := EE_bound subA_ok.nn a (y :: B) i
  simp only [List.length_cons] at h2
  split <;> lia
theorem drop_someP {T : List Nat} {p c : Nat} (h : T[p]? = some c) : T.drop p = c :: T.drop (p + 1) := by
  obtain ⟨hl, e⟩ := List.getElem?_eq_some_iff.mp h
  rw [List.drop_eq_getElem_cons hl, e]
/-- an early end is a right one -/
theorem early {a b : List Nat} {i y : Nat} {M mc : Int} (ha : a ≠ []) (hy : b[i]? = some y) (hM : ∀ j, j < a.length → M ≤ EE subA a (y :: (b.take i).reverse) (j + 1)) (h : mc < M) : mc < ed subA b.reverse a.reverse := by
  have hlen : a.length ≠ 0 := by simpa using ha
  have hb : b.reverse = (b.drop (i + 1)).reverse ++ (y :: (b.take i).reverse) := by
    have : b = b.take i ++ y :: b.drop (i + 1) := by rw [← drop_someP hy, List.take_append_drop]
    conv => lhs; rw [this]
    rw [List.reverse_append, List.reverse_cons, List.append_assoc]; rfl
  have hall : ∀ j, j ≤ a.length → M ≤ EE subA a (y :: (b.take i).reverse) j := by
    intro j hj
    cases j with
    | zero => exact Int.le_trans (hM 0 (by lia)) (EE_first subA_ok.two ha)
    | succ j => exact hM j (by lia)
  have := EE_low_all subA_ok.nn (b.drop (i + 1)).reverse _ hall
  rw [← hb, EE_end] at this
  lia
end Mine
end
section
example : True := by w_top off; trivial
open PySem PySem.W PyProof.Rows PyProof.Rows.LCg
namespace Mine
set_option maxRecDepth 100000 in
set_option maxHeartbeats 8000000 in
theorem eval_cut {prog : Program} {w : World} {A : Around} {E : Value → Shared → Prop} {s : Shared} {nme nm : Str} {scope : Scope} {L a : Addr} {cd : Value} {h₀ : Heap} {m : Str → Option Value} {news : List (Addr × Obj)} {x : Str} {t tq : Tok} {q : Int} {p1 p2 p3 p4 p5 p6 : Pos} {Q : Value → Shared → Prop}
    (F : Fr h₀ L s.heap m) (N : News h₀ L s.heap news) (hx : m nm = some (.str x t)) (hq : m (Str.ofString "post") = some (.int (-q) tq)) (h0 : 0 ≤ q) (hsz : x.length ≤ 1000) (hdb : (nm == Str.ofString "__debug__") = false)
    (hk : scope.kind = .function) (hl : (envOf nme scope L a cd).kindOf nm = some .local) (hl2 : (envOf nme scope L a cd).kindOf (Str.ofString "post") = some .local)
    (h : ∀ t' h' tk', Fr h₀ L h' m → News h₀ L h' news → Q (.str (cutS x q) t') { s with heap := h', toks := tk' }) :
    wpAny (model prog w) A (eval (.Subscript (.Name nm p1) (.Slice none (some (.BoolOp .Or [.Name (Str.ofString "post") p2, .Constant .none 0 p3] p4)) none p5) p6) (envOf nme scope L a cd)) Q E s := by
  k_steps
  refine ld F hx ?_ hk hl hdb
  k_steps
  refine ld F hq ?_ hk hl2
  k_steps
  · rename Fr _ _ _ _ => F2
    rename News _ _ _ _ => N2
    rw [cutS_neg (by assumption) h0] at *
    exact h _ _ _ F2 N2
  · refine slice_strN_nn F N (fun h' t' k F' N' => ?_)
    rw [slice_all, ← cutS_zero (x := x) (q := q) (by omega)]
    exact h _ _ _ F' N'
end Mine
end
section
example : True := by w_top off; trivial
open PySem PySem.W PyProof.Rows PyProof.Rows.LCg
namespace Mine
set_option maxRecDepth 100000 in
set_option maxHeartbeats 800000 in
theorem aug_post {prog : Program} {w : World} {A : Around} {E : Value → Shared → Prop} {s : Shared} {nme : Str} {scope : Scope} {L a : Addr} {cd : Value} {h₀ : Heap} {m : Str → Option Value} {news : List (Addr × Obj)} {tq : Tok} {k : Int} {p1 p2 p3 : Pos} {Q : Flow → Shared → Prop}
    (F : Fr h₀ L s.heap m) (N : News h₀ L s.heap news) (hq : m (Str.ofString "post") = some (.int k tq)) (h0 : -2000 ≤ k ∧ k ≤ 2000)
    (hk : scope.kind = .function) (hl2 : (envOf nme scope L a cd).kindOf (Str.ofString "post") = some .local)
    (h : ∀ t' h' tk', Fr h₀ L h' (fun z => if z = Str.ofString "post" then some (.int (k - 1) t') else m z) → News h₀ L h' news → Q .next { s with heap := h', toks := tk' }) :
    wpAny (model prog w) A (execs [.AugAssign (.Name (Str.ofString "post") p1) .Sub (.Constant (.int 1) 0 p2) p3] (envOf nme scope L a cd)) Q E s := by
  k_steps
  refine ldn F hq ?_ hk hl2
  k_steps
  refine stN F N (fun h'' F'' N'' => ?_) hk hl2
  exact wpAny_execs_nil (h _ _ _ F'' N'')
end Mine
end
section
example : True := by w_top off; trivial
open PySem PySem.W PyProof.Rows PyProof.Rows.LCg
namespace Mine
theorem ints_of_items {a c : Int} : ∀ (vs : List Value) (k : Nat), (∀ (i : Nat) (v : Value), vs[i]? = some v → ∃ t : Tok, v = Value.int (a + ((k + i : Nat) : Int) * c) t) → IntsAre vs ((List.range vs.length).map fun i => a + ((k + i : Nat) : Int) * c)
  | [], _, _ => .nil
  | v :: vs, k, h => by
    obtain ⟨t, e⟩ := h 0 v rfl
    have ih := ints_of_items (a := a) (c := c) vs (k + 1) fun i v hv => by
      have := h (i + 1) v hv
      rwa [show k + (i + 1) = k + 1 + i by lia] at this
    rw [e, List.length_cons, List.range_succ_eq_map, List.map_cons, List.map_map]
    have e2 : ((fun i => a + ((k + i : Nat) : Int) * c) ∘ Nat.succ) = fun i => a + ((k + 1 + i : Nat) : Int) * c := by
      funext i
      show a + ((k + (i + 1) : Nat) : Int) * c = _
      rw [show k + (i + 1) = k + 1 + i by lia]
    rw [e2]
    exact .cons _ t ih
theorem list_range_N {prog : Program} {w : World} {A : Around} {E : Value → Shared → Prop} {s : Shared} {h₀ : Heap} {L : Addr} {m : Str → Option Value} {news : List (Addr × Obj)} {Q : Value → Shared → Prop} {r : Addr} {a b c : Int} {t u v : Tok} {n : Nat} (hh : A.handled = none) (F : Fr h₀ L s.heap m) (N : News h₀ L s.heap news)
    (hr : IsRange s.heap r a b c t u v) (hsmall : Builtin.Range.small a b c = true) (hn : Builtin.Range.rangeSize a b c = (n : Int)) (hlen : n ≤ 2 ^ 24)
    (hQ : ∀ D h' tk (vs : List Value) k, Fr h₀ L h' m → News h₀ L h' ((D, W.listOf vs.toArray k) :: news) → (∀ p ∈ news, p.1 < D) → vs.length = n → IntsAre vs ((List.range n).map fun i : Nat => a + (i : Int) * c) → Q (.ref D) { s with heap := h', toks := tk }) :
    wpAny (model prog w) A (call (.type "list") [.ref r]) Q E s := by
  refine call_list_range hh hr hsmall hn hlen fun h' tk acc' c' hk hS' hacc => ?_
  have hl : acc'.toList.length = n := by simpa using hacc.1
  refine hQ s.heap.objs.size h' tk acc'.toList c' (F.keeps hk) ?_ (fun p hp => Heap.lt_size (N p hp).1) hl ?_
  · intro p hp
    rcases List.mem_cons.mp hp with e | hp
    · rw [e]; exact ⟨hS', Nat.ne_of_gt F.ns.lt, next_is_new F⟩
    · exact ⟨hk _ _ (N p hp).1, (N p hp).2⟩
  · have := ints_of_items (a := a) (c := c) acc'.toList 0 fun i v hv => by
      have := hacc.2 i v (by rw [← Array.getElem?_toList]; exact hv)
      rwa [Nat.zero_add]
    rw [hl] at this
    simpa using this
theorem row_of_range {a : List Nat} {n : Nat} (h : n = a.length) : RowIs a [] ((List.range n).map fun i : Nat => (2 : Int) + (i : Int) * 2) := by
  subst h
  refine row_first (by simp) fun j hj => ?_
  rw [List.getD_eq_getElem?_getD, List.getElem?_map, List.getElem?_range hj]; rfl
theorem range2_ok (n : Nat) (h : n ≤ 40) : Builtin.Range.small 2 (2 * ((n : Int) + 1)) 2 = true ∧ Builtin.Range.rangeSize 2 (2 * ((n : Int) + 1)) 2 = (n : Int) := by
  have : ∀ n < 41, Builtin.Range.small 2 (2 * (((n : Nat) : Int) + 1)) 2 = true ∧ Builtin.Range.rangeSize 2 (2 * (((n : Nat) : Int) + 1)) 2 = ((n : Nat) : Int) := by decide +kernel
  exact this n (by lia)
theorem range1_ok (n : Nat) (h : n ≤ 1000) : Builtin.Range.small 0 (n : Int) 1 = true ∧ Builtin.Range.rangeSize 0 (n : Int) 1 = (n : Int) := by
  have : ∀ n < 1001, Builtin.Range.small 0 ((n : Nat) : Int) 1 = true ∧ Builtin.Range.rangeSize 0 ((n : Nat) : Int) 1 = ((n : Nat) : Int) := by decide +kernel
  exact this n (by lia)
theorem frW2 {g h : Heap} {L : Addr} {m m₀ : Str → Option Value} {x y : Str} {v u : Option Value} (F : Fr g L h m) (b : But [x, y] m₀ m) (e : m x = v) (e' : m y = u) : Fr g L h (fun z => if z = x then v else if z = y then u else m₀ z) := by
  have : (fun z => if z = x then v else if z = y then u else m₀ z) = m := by
    funext z
    by_cases h : z = x
    · rw [if_pos h, h, e]
    · rw [if_neg h]
      by_cases h2 : z = y
      · rw [if_pos h2, h2, e']
      · rw [if_neg h2]; exact (b z (by simp [h, h2])).symm
  rw [this]; exact F
/-- the ways out -/
theorem ne_sg {x y : Str} (h : (x == y) = false) : sg x ≠ sg y := fun e => by rw [str_ext e] at h; simp at h
theorem lev_eq {x y : Str} {mc : Int} (h : (x == y) = true) : LevPost subA (sg x) (sg y) mc 0 := .inl ⟨by rw [eq_of_beq h], rfl⟩
theorem nil_of {a : Str} (h : a.length = 0) : sg a = [] := List.eq_nil_of_length_eq_zero (by rw [sgl]; exact h)
theorem nn_of {a : Str} (h : a.length ≠ 0) : sg a ≠ [] := fun e => h (by rw [← sgl, e]; rfl)
theorem lev_fin1 {x y a b : Str} {mc : Int} (hne : (x == y) = false) (hc : Cut (sg x) (sg y) (sg a) (sg b)) (h : a.length = 0 ∨ b.length = 0) : LevPost subA (sg x) (sg y) mc (2 * ((a.length : Int) + b.length)) := by
  refine .inr ⟨ne_sg hne, _, _, hc, .inl ⟨h.imp nil_of nil_of, ?_⟩⟩
  rw [sgl, sgl]
theorem lev_fin2 {x y a b : Str} {mc : Int} (hne : (x == y) = false) (hc : Cut (sg x) (sg y) (sg a) (sg b)) (ha : a.length ≠ 0) (hb : b.length ≠ 0) (h : 40 < a.length ∨ 40 < b.length) : LevPost subA (sg x) (sg y) mc (mc + 1) := by
  refine .inr ⟨ne_sg hne, _, _, hc, .inr ⟨nn_of ha, nn_of hb, .inl ⟨rfl, ?_⟩⟩⟩
  rw [sgl, sgl]; exact h
/-- the two middles, in the order of their lengths -/
noncomputable def Mid (x y a b : Str) : Prop := Cut (sg x) (sg y) (sg a) (sg b) ∨ Cut (sg x) (sg y) (sg b) (sg a)
theorem lev_fin {x y a b : Str} {mc v : Int} (hne : (x == y) = false) (hc : Mid x y a b) (ha : a.length ≠ 0) (hb : b.length ≠ 0)
    (h : (v = mc + 1 ∧ mc < 2 * ((b.length : Int) - a.length)) ∨ (v = mc + 1 ∧ mc < ed subA (sg b).reverse (sg a).reverse) ∨ (v = ed subA (sg b).reverse (sg a).reverse ∧ 2 * ((b.length : Int) - a.length) ≤ mc ∧ a.length ≤ b.length)) : LevPost subA (sg x) (sg y) mc v := by
  have key : ∀ {x y a b : Str}, (x == y) = false → Cut (sg x) (sg y) (sg a) (sg b) → a.length ≠ 0 → b.length ≠ 0 → ((v = mc + 1 ∧ (mc < 2 * ((b.length : Int) - a.length) ∨ mc < 2 * ((a.length : Int) - b.length))) ∨ (v = mc + 1 ∧ mc < ed subA (sg b).reverse (sg a).reverse) ∨ (v = ed subA (sg b).reverse (sg a).reverse ∧ 2 * ((b.length : Int) - a.length) ≤ mc ∧ 2 * ((a.length : Int) - b.length) ≤ mc)) → LevPost subA (sg x) (sg y) mc v := by
    intro x y a b hne hc ha hb h
    refine .inr ⟨ne_sg hne, _, _, hc, .inr ⟨nn_of ha, nn_of hb, .inr ?_⟩⟩
    rw [sgl, sgl]
    exact h
  have ea : (a.length : Int) ≠ 0 := by lia
  rcases hc with hc | hc
  · refine key hne hc ha hb ?_
    rcases h with h | h | h
    · exact .inl ⟨h.1, .inl h.2⟩
    · exact .inr (.inl h)
    · exact .inr (.inr ⟨h.1, h.2.1, by have := EE_bound subA_ok.nn (sg a) (sg b).reverse 0; have h1 := ed_bound subA_ok.nn _ (sg b).reverse (sg a).reverse (Nat.le_refl _); lia⟩)
  · refine key hne hc hb ha ?_
    rw [ed_symm subA_ok.symm _ (sg a).reverse (sg b).reverse (Nat.le_refl _)]
    rcases h with h | h | h
    · exact .inl ⟨h.1, .inr h.2⟩
    · exact .inr (.inl h)
    · exact .inr (.inr ⟨h.1, by lia, h.2.1⟩)
theorem frSet {g h : Heap} {L : Addr} {m : Str → Option Value} {x : Str} {v : Option Value} (F : Fr g L h m) (e : m x = v) : Fr g L h (fun z => if z = x then v else m z) := by
  have : (fun z => if z = x then v else m z) = m := by
    funext z
    by_cases h : z = x
    · rw [if_pos h, h, e]
    · rw [if_neg h]
  rw [this]; exact F
theorem sub_item {a b : Str} {i j : Nat} {y x : Nat} (hy : (sg b)[i]? = some y) (hx : (sg a)[j]? = some x) (cb : ∀ c ∈ sg b, c < 128) (ca : ∀ c ∈ sg a, c < 128) : subc (Txt.item b (i : Int)) (Txt.item a (j : Int)) = subA y x := by
  rw [item_at b i y hy, item_at a j x hx]
  exact subc_A (cb y (List.mem_of_getElem? hy)) (ca x (List.mem_of_getElem? hx))
theorem rev_take {b : List Nat} {i y : Nat} (hy : b[i]? = some y) : (b.take (i + 1)).reverse = y :: (b.take i).reverse := by
  rw [List.take_add_one, hy, Option.toList_some, List.reverse_append]; rfl
theorem intv {o : Option Value} {a b : Int} {t : Tok} (h : o = some (.int a t)) (e : a = b) : o = some (.int b t) := by rw [h, e]
theorem left_zero (a B : List Nat) (y : Nat) : leftOf a B y 0 = 2 * (B.length : Int) := by unfold leftOf; rw [if_pos rfl, EE_zero]
theorem revlen {b : Str} {i : Nat} (h : i < b.length) : ((sg b).take i).reverse.length = i := by rw [List.length_reverse, List.length_take, sgl]; lia
theorem turn_eq {a B : List Nat} {y j x : Nat} {G S : Int} (hx : a[j]? = some x) (hG : G = EE subA a B (j + 1)) (hS : S = subA y x) :
    (if EE subA a B j + S < (if G < leftOf a B y j then G else leftOf a B y j) + 2 then EE subA a B j + S else (if G < leftOf a B y j then G else leftOf a B y j) + 2) = EE subA a (y :: B) (j + 1) := by
  subst hG; subst hS
  rw [turn_val hx]
  split <;> split <;> lia
theorem left_end {a B : List Nat} {y n : Nat} (h : n ≠ 0) : leftOf a B y n = EE subA a (y :: B) n := by unfold leftOf; rw [if_neg h]
theorem min_new {f : Nat → Int} {j : Nat} {R M : Int} (h : R < M) (hM : ∀ j', j' < j → M ≤ f j') (hR : R = f j) : ∀ j', j' < j + 1 → R ≤ f j' := by
  intro j' hj
  by_cases e : j' = j
  · rw [e]; lia
  · have := hM j' (by lia); lia
theorem min_old {f : Nat → Int} {j : Nat} {R M : Int} (h : ¬ R < M) (hM : ∀ j', j' < j → M ≤ f j') (hR : R = f j) : ∀ j', j' < j + 1 → M ≤ f j' := by
  intro j' hj
  by_cases e : j' = j
  · rw [e]; lia
  · have := hM j' (by lia); lia
theorem row_done {xa : Str} {b B : List Nat} {i yb : Nat} {ns : List Int} (hB : B = (b.take i).reverse) (hy : b[i]? = some yb) (h : RowAt (sg xa) B yb xa.length ns) : RowIs (sg xa) (b.take (i + 1)).reverse ns := by
  rw [rev_take hy, ← hB]
  exact RowAt.all (by rw [sgl]; exact h)
theorem res_done {xa : Str} {b B : List Nat} {i yb : Nat} (h0 : xa.length ≠ 0) (hB : B = (b.take i).reverse) (hy : b[i]? = some yb) : leftOf (sg xa) B yb xa.length = EE subA (sg xa) (b.take (i + 1)).reverse (sg xa).length := by
  rw [rev_take hy, ← hB, left_end h0, sgl]
theorem val_end {xa xb : Str} : EE subA (sg xa) ((sg xb).take xb.length).reverse (sg xa).length = ed subA (sg xb).reverse (sg xa).reverse := by
  rw [List.take_of_length_le (by rw [sgl]; exact Nat.le_refl _), EE_end]
theorem off1 {d I : Addr} {o1 o2 : Obj} {rest : List (Addr × Obj)} (h : ∀ p ∈ (d, o1) :: rest, p.1 ≠ I) : ∀ p ∈ (d, o2) :: rest, p.1 ≠ I :=
  List.forall_mem_cons.mpr ⟨h (d, o1) List.mem_cons_self, fun p hp => h p (List.mem_cons_of_mem _ hp)⟩
theorem off2 {a d I : Addr} {o o1 o2 : Obj} {rest : List (Addr × Obj)} (h : ∀ p ∈ (a, o) :: (d, o1) :: rest, p.1 ≠ I) : ∀ p ∈ (a, o) :: (d, o2) :: rest, p.1 ≠ I :=
  List.forall_mem_cons.mpr ⟨h (a, o) List.mem_cons_self, off1 fun p hp => h p (List.mem_cons_of_mem _ hp)⟩
theorem offp1 {d e it : Addr} {a o1 o2 : Obj} {b : Addr} {rest : List (Addr × Obj)} (h : ∀ p ∈ (b, a) :: (d, o1) :: rest, p.1 ≠ e ∧ p.1 ≠ it) : ∀ p ∈ (b, a) :: (d, o2) :: rest, p.1 ≠ e ∧ p.1 ≠ it :=
  List.forall_mem_cons.mpr ⟨h (b, a) List.mem_cons_self, List.forall_mem_cons.mpr ⟨h (d, o1) (List.mem_cons_of_mem _ List.mem_cons_self), fun p hp => h p (List.mem_cons_of_mem _ (List.mem_cons_of_mem _ hp))⟩⟩
end Mine
end
section
example : True := by w_top off; trivial
open PySem PySem.W PyProof.Rows PyProof.Rows.LCg
namespace Mine
section
variable {prog : Program} {w : World} {A : Around} {E : Value → Shared → Prop} {s : Shared} {h₀ : Heap} {env : Env}
/-- the end of a turn over pairs -/
noncomputable def EnumEnd (h₀ : Heap) (L e it : Addr) (oE oI : Obj) (S : List (Addr × Obj) → Prop) (J : (Str → Option Value) → List (Addr × Obj) → Prop) (s : Shared) (Q : Flow → Shared → Prop) (f : Flow) (s' : Shared) : Prop :=
  match f with
  | .ret v => Q (.ret v) s'
  | .brk => Q .next s'
  | _ => ∃ h' tk' m' news', s' = { s with heap := h', toks := tk' } ∧ Fr h₀ L h' m' ∧ News h₀ L h' ((e, oE) :: (it, oI) :: news') ∧ (∀ p ∈ news', p.1 ≠ e ∧ p.1 ≠ it) ∧ S news' ∧ J m' news'
theorem EnumEnd.next {L e it : Addr} {oE oI : Obj} {S : List (Addr × Obj) → Prop} {J : (Str → Option Value) → List (Addr × Obj) → Prop} {Q : Flow → Shared → Prop} {h' : Heap} {tk' : Nat} {m' : Str → Option Value} {news' : List (Addr × Obj)}
    (F : Fr h₀ L h' m') (N : News h₀ L h' ((e, oE) :: (it, oI) :: news')) (off : ∀ p ∈ news', p.1 ≠ e ∧ p.1 ≠ it) (hS : S news') (hj : J m' news') : EnumEnd h₀ L e it oE oI S J s Q .next { s with heap := h', toks := tk' } :=
  ⟨h', tk', m', news', rfl, F, N, off, hS, hj⟩
inductive EnumSrc (prog : Program) (w : World) (A : Around) (h₀ : Heap) (env : Env) (target : Expr) (body : List Stmt) (Q : Flow → Shared → Prop) (E : Value → Shared → Prop) (xv : Value) (s₁ : Shared) : Prop
  | mk (e it l : Addr) (items : Array Value) (m : Str → Option Value) (news : List (Addr × Obj)) (J : Nat → (Str → Option Value) → List (Addr × Obj) → Prop) (h1 : xv = .ref e) (h2 : A.handled = none) (h3 : IsEnum s₁.heap e it 0 .none) (h4 : s₁.heap.IsListIter it l 0) (h5 : e ≠ it) (h6 : Fr h₀ env.locals s₁.heap m) (h7 : News h₀ env.locals s₁.heap news) (h8 : h₀.get? e = none) (h9 : h₀.get? it = none) (h10 : env.locals ≠ e) (h11 : env.locals ≠ it) (h12 : (∀ p ∈ news, p.1 ≠ e ∧ p.1 ≠ it)) (h13 : SrcAt h₀ l items news) (h14 : l ≠ e) (h15 : l ≠ it) (h16 : J 0 m news) (h17 : (∀ i v m₁ news₁ oE oI tt t h tk, items[i]? = some v → J i m₁ news₁ → SrcAt h₀ l items news₁ → (∀ p ∈ news₁, p.1 ≠ e ∧ p.1 ≠ it) → Fr h₀ env.locals h m₁ → News h₀ env.locals h ((e, oE) :: (it, oI) :: news₁) → h.IsTuple tt #[.int ((i : Nat) : Int) t, v] → wpAny (model prog w) A (assign target env (.ref tt)) (fun _ s₂ => wpAny (model prog w) A (execs body env) (EnumEnd h₀ env.locals e it oE oI (SrcAt h₀ l items) (J (i + 1)) s₁ Q) E s₂) E { s₁ with heap := h, toks := tk })) (h18 : ∀ h tk m' news', Fr h₀ env.locals h m' → News h₀ env.locals h news' → J items.size m' news' → Q .next { s₁ with heap := h, toks := tk }) : EnumSrc prog w A h₀ env target body Q E xv s₁
/-- a loop's state between its turns -/
inductive EnumInv (h₀ : Heap) (L e it l : Addr) (items : Array Value) (J : Nat → (Str → Option Value) → List (Addr × Obj) → Prop) (s₁ : Shared) (k : Nat) (s' : Shared) : Prop
  | mk (i : Nat) (old : Value) (h' : Heap) (tk : Nat) (m' : Str → Option Value) (news' : List (Addr × Obj)) (e1 : s' = { s₁ with heap := h', toks := tk }) (e2 : i ≤ items.size) (e3 : k = items.size - i) (e4 : IsEnum h' e it ((i : Nat) : Int) old) (e5 : h'.IsListIter it l i) (e6 : Fr h₀ L h' m') (e7 : News h₀ L h' news') (e8 : (∀ p ∈ news', p.1 ≠ e ∧ p.1 ≠ it)) (e9 : SrcAt h₀ l items news') (e10 : J i m' news') : EnumInv h₀ L e it l items J s₁ k s'
theorem for_enum {elts : List Expr} {x1 : Nat} {pt : Pos} {iter : Expr} {body : List Stmt} {pos : Pos} {Q : Flow → Shared → Prop} {m₀ : Str → Option Value} (_F₀ : Fr h₀ env.locals s.heap m₀)
    (h : wpAny (model prog w) A (eval iter env) (EnumSrc prog w A h₀ env (.Tuple elts x1 pt) body Q E) E s)
    (hs : ∀ x, foldedSetIterable iter env x = pure x := by intro _; rfl)
    (hE : PassesOwn (model prog w) A env E := by passes_own) :
    wpAny (model prog w) A (exec (.For (.Tuple elts x1 pt) iter body [] pos) env) Q E s := by
  refine wpAny_For (wpAny_mono h (fun xv s₁ h₁ => ?_) fun _ _ e => e) hs
  obtain ⟨e, it, l, items, m, news, J, rfl, hh, he, hit, hei, F, N, he0, hi0, hLe, hLi, off, hS, hle, hli, hJ, turn, done⟩ := h₁
  refine wpAny_pyIter_enum he ?_
  refine codeAny_forLoop_any (EnumInv h₀ env.locals e it l items J s₁) ?_ items.size
    ⟨0, .none, s₁.heap, s₁.toks, m, news, rfl, Nat.zero_le _, rfl, he, hit, F, N, off, hS, hJ⟩
  rintro k s' ⟨i, old, h', tk, m', news', rfl, hi, rfl, he', hit', F', N', off', hS', hJ'⟩
  have hl' := hS'.list F'.keep N'
  cases hv : items[i]? with
  | none =>
    have hsz : i = items.size := Nat.le_antisymm hi (by simpa using hv)
    refine wpAny_passesOwn hE (wpAny_pyNext_enum_end (s := { s₁ with heap := h', toks := tk }) hh he' hit' hl' hv fun h₁ hx₁ => wpAny_execs_nil ?_)
    subst hsz
    have hk : ∀ b o, b ∉ [it] → h'.get? b = some o → h₁.get? b = some o := fun b o hb x => hx₁ b o (by simpa using hb) x
    exact done h₁ tk m' news' (fr_but F' hk hLi hi0) (news_but N' hk fun p hp => (off' p hp).2) hJ'
  | some v =>
    have hlt : i < items.size := (Array.getElem?_eq_some_iff.mp hv).1
    refine wpAny_passesOwn hE (wpAny_pyNext_enum_item (s := { s₁ with heap := h', toks := tk }) he' hit' hl' hv hei fun h₁ heo hit₁ ht₁ hz₁ hk₁ => ?_)
    have heH : e < h'.objs.size := Heap.lt_size he'
    refine wpAny_passesOwn hE (wpAny_letOwnedTupleGo_enum heo fun h₂ he₂ hs₂ => ?_)
    have he₂ : IsEnum h₂ e it ((i : Int) + 1) v := he₂
    have hs₂ : Heap.SameBut e h₁ h₂ := hs₂
    have hne : h'.objs.size ≠ e := Nat.ne_of_gt heH
    have ht₂ : h₂.IsTuple h'.objs.size #[.int (i : Int) tk, v] := ⟨_, (hs₂.2 _ hne).trans ht₁, rfl, _, rfl⟩
    have up : ∀ b o, b ≠ e → b ≠ it → h'.get? b = some o → h₂.get? b = some o := fun b o hbe hbi x => (hs₂.2 b hbe).trans (hk₁ b o hbe hbi x)
    have hk2 : ∀ b o, b ∉ [e, it] → h'.get? b = some o → h₂.get? b = some o := fun b o hb x => by
      simp only [List.mem_cons, List.not_mem_nil, or_false, not_or] at hb
      exact up b o hb.1 hb.2 x
    have F₂ : Fr h₀ env.locals h₂ m' := ⟨F'.ns.at' fun o x => up _ o hLe hLi x, fun b o x => up b o (fun q => by rw [q, he0] at x; cases x) (fun q => by rw [q, hi0] at x; cases x) (F'.keep b o x), F'.above⟩
    obtain ⟨oI, hoI, hIc, hId⟩ := id hit₁
    have hoI₂ : h₂.get? it = some oI := (hs₂.2 it (Ne.symm hei)).trans hoI
    have N₂ : News h₀ env.locals h₂ ((e, { cls := .type "enumerate", dict := none, data := .fields #[.none, .bool false, .ref it, rawInt ((i : Int) + 1), .none, v], slots := #[] }) :: (it, oI) :: news') := fun p hp => by
      rcases List.mem_cons.mp hp with q | hp
      · rw [q]; exact ⟨he₂, Ne.symm hLe, he0⟩
      · rcases List.mem_cons.mp hp with q | hp
        · rw [q]; exact ⟨hoI₂, Ne.symm hLi, hi0⟩
        · exact ⟨up _ _ (off' p hp).1 (off' p hp).2 (N' p hp).1, (N' p hp).2⟩
    refine wpAny_passesOwn hE (wpAny_mono (turn i v m' news' _ oI _ tk h₂ _ hv hJ' hS' off' F₂ N₂ ht₂) (fun _ s₃ h₃ => wpAny_passesOwn hE (wpAny_mono h₃ (fun f s₄ h₄ => ?_) fun _ _ x => x)) fun _ _ x => x)
    have fin : (∃ h'' tk' m' news', s₄ = { s₁ with heap := h'', toks := tk' } ∧ Fr h₀ env.locals h'' m' ∧ News h₀ env.locals h'' ((e, { cls := .type "enumerate", dict := none, data := .fields #[.none, .bool false, .ref it, rawInt ((i : Int) + 1), .none, v], slots := #[] }) :: (it, oI) :: news') ∧ (∀ p ∈ news', p.1 ≠ e ∧ p.1 ≠ it) ∧ SrcAt h₀ l items news' ∧ J (i + 1) m' news') →
        ∃ m, m < items.size - i ∧ EnumInv h₀ env.locals e it l items J s₁ m s₄ := by
      rintro ⟨h₅, tk₅, m₅, news₅, rfl, F₅, N₅, off₅, hS₅, hJ₅⟩
      have zE := (N₅ _ List.mem_cons_self).1
      have zI := (N₅ (it, oI) (List.mem_cons_of_mem _ List.mem_cons_self)).1
      exact ⟨items.size - (i + 1), Nat.sub_succ_lt_self _ i hlt, i + 1, v, h₅, tk₅, m₅, news₅, rfl, hlt, rfl, zE, ⟨oI, zI, hIc, hId⟩, F₅, fun p hp => N₅ p (List.mem_cons_of_mem _ (List.mem_cons_of_mem _ hp)), off₅, hS₅, hJ₅⟩
    cases f with
    | ret v => exact h₄
    | brk => exact h₄
    | next => exact fin h₄
    | cont => exact fin h₄
theorem enum_src {target : Expr} {body : List Stmt} {Q : Flow → Shared → Prop} {l : Addr} {items : Array Value} {k : Nat} {m : Str → Option Value} {news : List (Addr × Obj)} (J : List (Addr × Obj) → (Str → Option Value) → Nat → (Str → Option Value) → List (Addr × Obj) → Prop) (hh : A.handled = none)
    (F : Fr h₀ env.locals s.heap m) (N : News h₀ env.locals s.heap news) (hm : (l, ({ cls := .type "list", data := .seq items k } : Obj)) ∈ news) (hJ : J news m 0 m news)
    (turn : ∀ i v m₁ news₁ e it oE oI tt t g h tk, items[i]? = some v → J news m i m₁ news₁ → SrcAt h₀ l items news₁ → (∀ p ∈ news₁, p.1 ≠ e ∧ p.1 ≠ it) → (∀ p ∈ news, p.1 < it) → it < e → Fr h₀ env.locals h m₁ → News h₀ env.locals h ((e, oE) :: (it, oI) :: news₁) → h.IsTuple tt #[.int ((i : Nat) : Int) t, v] →
      wpAny (model prog w) A (assign target env (.ref tt)) (fun _ s₂ => wpAny (model prog w) A (execs body env) (EnumEnd h₀ env.locals e it oE oI (SrcAt h₀ l items) (J news m (i + 1)) { s with heap := g } Q) E s₂) E { s with heap := h, toks := tk })
    (done : ∀ h tk m' news', Fr h₀ env.locals h m' → News h₀ env.locals h news' → J news m items.size m' news' → Q .next { s with heap := h, toks := tk }) :
    wpAny (model prog w) A (call (.type "enumerate") [.ref l]) (EnumSrc prog w A h₀ env target body Q E) E s := by
  refine call_enumerate_list (News.isList N hm) (fun h9 he hit hz hk => ?_)
  have lt : ∀ p ∈ news, p.1 < s.heap.objs.size := fun p hp => Heap.lt_size (N p hp).1
  have hL : env.locals < s.heap.objs.size := F.ns.lt
  refine ⟨_, _, l, items, m, news, J news m, rfl, hh, he, hit, Nat.succ_ne_self _, F.keeps hk, N.grown hk, Heap.get?_none_of_le (Nat.le_trans F.above (Nat.le_trans (Nat.le_of_lt hL) (Nat.le_succ _))), next_is_new F, Nat.ne_of_lt (Nat.lt_succ_of_lt hL), Nat.ne_of_lt hL,
    fun p hp => ⟨Nat.ne_of_lt (Nat.lt_succ_of_lt (lt p hp)), Nat.ne_of_lt (lt p hp)⟩, .inr ⟨_, hm, rfl, _, rfl⟩, Nat.ne_of_lt (Nat.lt_succ_of_lt (lt _ hm)), Nat.ne_of_lt (lt _ hm), hJ, ?_, ?_⟩
  · intro i v m₁ news₁ oE oI tt t h tk hv hJ₁ hS₁ off F₁ N₁ ht
    exact turn i v m₁ news₁ _ _ oE oI tt t _ h tk hv hJ₁ hS₁ off lt (Nat.lt_succ_self _) F₁ N₁ ht
  · intro h tk m' news' F' N' hJ'
    exact done h tk m' news' F' N' hJ'
/-- a text's signs as the source -/
theorem for_str {x : Str} {px : Pos} {body : List Stmt} {Q : Flow → Shared → Prop} {y : Str} {ty : Tok} {m : Str → Option Value} {news : List (Addr × Obj)} (J : List (Addr × Obj) → (Str → Option Value) → Nat → (Str → Option Value) → List (Addr × Obj) → Prop) (hh : A.handled = none)
    (F : Fr h₀ env.locals s.heap m) (N : News h₀ env.locals s.heap news) (hJ : J news m 0 m news)
    (turn : ∀ i c t m₁ news₁ I oI g h tk, (sg y)[i]? = some c → J news m i m₁ news₁ → (∀ p ∈ news₁, p.1 ≠ I) → (∀ p ∈ news, p.1 < I) → Fr h₀ env.locals h m₁ → News h₀ env.locals h ((I, oI) :: news₁) →
      wpAny (model prog w) A (assign (.Name x px) env (.str ⟨#[c]⟩ t)) (fun _ s₂ => wpAny (model prog w) A (execs body env) (ForEnd h₀ env.locals I oI (fun _ => True) (J news m (i + 1)) { s with heap := g } Q) E s₂) E { s with heap := h, toks := tk })
    (done : ∀ h tk m' news', Fr h₀ env.locals h m' → News h₀ env.locals h news' → J news m (sg y).length m' news' → Q .next { s with heap := h, toks := tk }) :
    wpAny (model prog w) A (pyIter (.str y ty)) (ForSrc prog w A h₀ env (.Name x px) body Q E) E s := by
  have hsz : y.cps.size = (sg y).length := by simp [sg]
  cases ha : y.cps.all (· < 128)
  · refine wpAny_pyIter_wide ha ⟨_, _, _, _, _, (fun _ => True), m, news, J news m, rfl, Walks.strWide hh _ y ty, (fun i h st => let ⟨o, e, _⟩ := st; ⟨o, e⟩), ?_, ⟨_, Heap.get?_push_size _ rfl, rfl, rfl⟩, (fun i v s' Q' st hq => letGo_name hq),
      F.push _, N.grown (fun _ _ e => Heap.get?_push_of_some _ e), Nat.ne_of_lt F.ns.lt, next_is_new F, (fun p hp => Nat.ne_of_lt (Heap.lt_size (N p hp).1)), trivial, hJ, ?_, ?_⟩
    · intro i h h' o nw st e e' _ _ _
      obtain ⟨o', q, r⟩ := st
      rw [e] at q; cases q
      exact ⟨o, e', r⟩
    · intro i v m₁ news₁ oI h tk hi hP hJ₁ _ off F₁ N₁
      obtain ⟨c, t, hc, rfl⟩ := hP
      exact turn i c t m₁ news₁ _ oI _ h tk (by show y.cps.toList[i]? = some c; rw [Array.getElem?_toList]; exact hc) hJ₁ off (fun p hp => Heap.lt_size (N p hp).1) F₁ N₁
    · intro h tk m' news' F' N' hJ'
      exact done h tk m' news' F' N' (hsz ▸ hJ')
  · refine wpAny_pyIter_ascii ha ⟨_, _, _, _, _, (fun _ => True), m, news, J news m, rfl, Walks.strAscii hh _ y ty, (fun i h st => let ⟨o, e, _⟩ := st; ⟨o, e⟩), ?_, ⟨_, Heap.get?_push_size _ rfl, rfl, rfl⟩, (fun i v s' Q' st hq => letGo_name hq),
      F.push _, N.grown (fun _ _ e => Heap.get?_push_of_some _ e), Nat.ne_of_lt F.ns.lt, next_is_new F, (fun p hp => Nat.ne_of_lt (Heap.lt_size (N p hp).1)), trivial, hJ, ?_, ?_⟩
    · intro i h h' o nw st e e' _ _ _
      obtain ⟨o', q, r⟩ := st
      rw [e] at q; cases q
      exact ⟨o, e', r⟩
    · intro i v m₁ news₁ oI h tk hi hP hJ₁ _ off F₁ N₁
      obtain ⟨c, t, hc, rfl⟩ := hP
      exact turn i c t m₁ news₁ _ oI _ h tk (by show y.cps.toList[i]? = some c; rw [Array.getElem?_toList]; exact hc) hJ₁ off (fun p hp => Heap.lt_size (N p hp).1) F₁ N₁
    · intro h tk m' news' F' N' hJ'
      exact done h tk m' news' F' N' (hsz ▸ hJ')
theorem pop0 {h₀ : Heap} {L D : Addr} {m : Str → Option Value} {news news' : List (Addr × Obj)} {i : Int} {u : Tok} {x : Value} {r : List Value} {n : Nat} {Q : Value → Shared → Prop} (hi : i = 0) (F : Fr h₀ L s.heap m) (N : News h₀ L s.heap news)
    (U : Upd D (W.listOf (x :: r).toArray n) (W.listOf r.toArray (n + 1)) news news') (hz : r.length ≤ 1000) (h : ∀ h', Fr h₀ L h' m → News h₀ L h' news' → Q x { s with heap := h' }) : wpAny (model prog w) A (call (.builtin "list.pop") [.ref D, .int i u]) Q E s := by
  subst hi
  refine kl_popAt (k := 0) (p := []) (q := r) (y := x) F N rfl ?_ rfl U ?_ h
  · unfold seqIndex?
    simp
  · rw [sizeLine_eq]; simp; lia
end
end Mine
end
section
example : True := by w_top off; trivial
open PySem PySem.W PyProof.Rows PyProof.Rows.LCg
namespace Mine
/-- as Does, with a word on the heap below -/
noncomputable abbrev DoesP (w : World) (f : Addr) (need : Nat) (Pre : Heap → Prop) (news : List (Addr × Obj)) (vs : List Value) (Post : Value → List (Addr × Obj) → Prop) : Prop :=
  ∀ (mean : ExcName → Option Value) (mg mb : Str → Option Value) (dp un : Nat) (gd : Option (List Code)) (cn : Str) (cs : Scope) (a : Addr) (ccd : Value) (cl : List (Str × Addr)) (outer : List Env) (A₀ : Around) (base h₀ : Heap) (L : Addr) (m : Str → Option Value) (s : Shared) (Q E : Value → Shared → Prop),
    Pre h₀ → Below A₀ base outer h₀ → Fr h₀ L s.heap m → (hd.heap_1 w.params).In h₀ → News h₀ L s.heap news → Top topProg looseT mean mg mb h₀ → cs.kind = .function →
    dp + need < recursionLimit → un + 8 * need < cLine →
    (∀ (r : Value) (tl : List (Addr × Obj)) (h' : Heap) (tk' : Nat), Post r tl → Fr h₀ L h' m → News h₀ L h' tl → Q r { s with heap := h', toks := tk' }) →
    wpAny (model PySem.Challenge.rw_sc0073_01.row.prog w) (ktrTop dp un gd cn cs L a ccd cl outer) (call (.ref f) vs) Q E s
theorem keepsAt {g h : Heap} {L b : Addr} {m : Str → Option Value} {its : Array Value} (x : g.IsList b its) (F : Fr g L h m) : h.IsList b its := SrcAt.list (h₀ := g) (L := L) (news := []) (Or.inl x) F.keep (fun _ h => absurd h List.not_mem_nil)
theorem ints_at : ∀ {vs : List Value} {ns : List Int} {i : Nat} {v : Value}, IntsAre vs ns → vs[i]? = some v → ∃ x tx, v = .int x tx
  | _, _, 0, v, .cons x t _, h => ⟨x, t, (Option.some.inj h).symm⟩
  | _, _, i + 1, v, .cons x t r, h => ints_at (i := i) r h
theorem set_bd {ns : List Int} {k : Nat} {d : Int} {i : Nat} (hl : ns.length = 4) (hk : k < 4) (h0 : 0 ≤ d) (h1 : d < 1000000) (h : ∀ j, j < 4 → 0 ≤ ns.getD j 0 ∧ ns.getD j 0 ≤ 400 + (i : Int) * 1000000) :
    ∀ j, j < 4 → 0 ≤ (ns.set k (ns.getD k 0 + d)).getD j 0 ∧ (ns.set k (ns.getD k 0 + d)).getD j 0 ≤ 400 + ((i + 1 : Nat) : Int) * 1000000 := by
  intro j hj
  have hkk := h k hk
  have hjj := h j hj
  by_cases e : k = j
  · subst e
    rw [List.getD_eq_getElem?_getD, List.getElem?_set_self (by omega)]
    simp only [Option.getD_some]
    omega
  · rw [List.getD_eq_getElem?_getD, List.getElem?_set_ne e, ← List.getD_eq_getElem?_getD]
    omega
theorem ints_hd {vs : List Value} {h : Int} {r : List Int} (x : IntsAre vs (h :: r)) : ∃ t us, vs = .int h t :: us ∧ IntsAre us r := by
  cases x with
  | cons _ t y => exact ⟨t, _, rfl, y⟩
theorem ints_nl {vs : List Value} (x : IntsAre vs []) : vs = [] := by
  cases x with
  | nil => rfl
theorem ints4 {cs : List Value} {ns : List Int} (h : IntsAre cs ns) (hl : ns.length = 4) : ∃ c0 c1 c2 c3 t0 t1 t2 t3, cs = [.int c0 t0, .int c1 t1, .int c2 t2, .int c3 t3] ∧ ns = [c0, c1, c2, c3] := by
  obtain ⟨c0, n1, rfl⟩ := List.exists_cons_of_length_eq_add_one hl
  obtain ⟨c1, n2, rfl⟩ := List.exists_cons_of_length_eq_add_one (Nat.succ.inj hl)
  obtain ⟨c2, n3, rfl⟩ := List.exists_cons_of_length_eq_add_one (Nat.succ.inj (Nat.succ.inj hl))
  obtain ⟨c3, n4, rfl⟩ := List.exists_cons_of_length_eq_add_one (Nat.succ.inj (Nat.succ.inj (Nat.succ.inj hl)))
  have e := List.eq_nil_of_length_eq_zero (Nat.succ.inj (Nat.succ.inj (Nat.succ.inj (Nat.succ.inj hl))))
  subst e
  obtain ⟨t0, u1, rfl, h1⟩ := ints_hd h
  obtain ⟨t1, u2, rfl, h2⟩ := ints_hd h1
  obtain ⟨t2, u3, rfl, h3⟩ := ints_hd h2
  obtain ⟨t3, u4, rfl, h4⟩ := ints_hd h3
  rw [ints_nl h4]
  exact ⟨c0, c1, c2, c3, t0, t1, t2, t3, rfl, rfl⟩
theorem kpick_hi' (l : List Value) {b : Int} (h : l.length ≤ 63) (hb : b = 63) : kms_pick l none (some b) = l := by
  rw [kpick_hi l (by omega), List.take_of_length_le (by omega)]
local macro_rules | `(tactic| walk_at "subscriptTail Name Slice ref ref") => `(tactic| (k_here; (with_reducible show wpAny _ _ (subscriptTail _ (PySem.Expr.Slice _ _ none _) (Value.ref _) (Value.ref _)) _ _ _); refine Mark.out ?_))
local macro_rules | `(tactic| walk_at "exec For Tuple Call") => `(tactic| (k_here; k_dflt (refine' for_enum ?t0 ?_ ?t2 ?t3; (case t0 => k_asm); (case t2 => (intro _; rfl)); (case t3 => passes_own))))
local macro_rules | `(tactic| walk_at "call type:enumerate") => `(tactic| (k_here; (with_reducible show wpAny _ _ (call (Value.type _) [Value.ref _]) _ _ _); refine Mark.out ?_))
set_option maxRecDepth 100000 in
set_option maxHeartbeats 8000000 in
theorem does_cells (w : World) (news : List (Addr × Obj)) (b : Addr) (vs : List Value) (ns : List Int) (hvs : IntsAre vs ns) (hlen : vs.length ≤ 63) : DoesP w 126 3 (fun h => h.IsList b vs.toArray) news [.ref b]
   (fun r tl => ∃ a k c0 c1 c2 c3 t0 t1 t2 t3, r = .ref a ∧ tl = (a, W.listOf #[.int c0 t0, .int c1 t1, .int c2 t2, .int c3 t3] k) :: news ∧ (∀ p ∈ news, p.1 < a) ∧ (0 ≤ c0 ∧ c0 < 2 ^ 30) ∧ (0 ≤ c1 ∧ c1 < 2 ^ 30) ∧ (0 ≤ c2 ∧ c2 < 2 ^ 30) ∧ (0 ≤ c3 ∧ c3 < 2 ^ 30)) := by
  intro mean mg mb dp un gd cn cs a₀ ccd cl outer A₀ base h₀ L m s Q E hb B F X N T hk hd hu ret
  refine wpAny_call ?_
  k_dflt cell_enter
  have hb' : Heap.IsList _ b vs.toArray := SrcAt.list (h₀ := h₀) (L := L) (news := []) (Or.inl hb) (Fr.keep (by assumption : Fr h₀ L _ m)) (fun _ h => absurd h List.not_mem_nil)
  k_steps
  refine Mark.intro ?_
  k_dflt (refine' kms_slice_lit ?zF ?zN ?zl ?zp ?zq ?ze ?_ ?zs ?zt ?zz; (case zF => k_asm); (case zN => k_asm); (case zl => exact keepsAt hb' (by k_asm)); (case zp => kmk_part); (case zq => kmk_part); (case ze => exact kpick_hi' _ hlen rfl); (case zs => with_unfolding_all rfl); (case zt => kmk_pure); (case zz => (simp only [List.size_toArray, sizeLine_eq]; omega)))
  intro D' h' F' N' l1
  k_steps
  refine Mark.intro ?_
  rename Fr _ _ _ _ => F1
  rename News _ _ _ _ => N1
  refine enum_src (fun nw m₀ i m₁ nx => match nw with
      | a :: e :: rest => ∃ cs ns k, nx = a :: (e.1, W.listOf cs.toArray k) :: rest ∧ IntsAre cs ns ∧ ns.length = 4 ∧ (∀ j, j < 4 → 0 ≤ ns.getD j 0 ∧ ns.getD j 0 ≤ 400 + (i : Int) * 1000000) ∧ But [Str.ofString "place", Str.ofString "number"] m₀ m₁
      | _ => False) rfl F1 N1 (List.mem_cons_self ..) ⟨[_, _, _, _], [377, 18, 2, 0], 0, rfl, .cons _ _ (.cons _ _ (.cons _ _ (.cons _ _ .nil))), rfl, by decide, But.refl⟩ ?turn ?done
  case turn =>
    clear F1 N1
    rintro i v m₁ nx e it oE oI tt t g h tk hv ⟨cs, ns4, k, rfl, hcs, hl4, hbd, hb⟩ hS off hlt hie F2 N2 ht
    have F3 := hb.fr F2
    clear F2 hb
    refine unpackN_ F3 N2 ht rfl rfl rfl ?_
    intro h5 F5 N5
    clear F3 N2 ht
    obtain ⟨x, tx, rfl⟩ : ∃ x tx, v = .int x tx := ints_at hvs (by simpa using hv)
    have hi63 : i < 63 := by have := (Array.getElem?_eq_some_iff.mp hv).1; simp at this; omega
    have c1 := ltN (hlt _ (List.mem_cons_self ..))
    have c2 := ltN (hlt _ (List.mem_cons_of_mem _ (List.mem_cons_self ..)))
    dsimp only at c1 c2
    have c3 := Nat.lt_trans c2 hie
    have c4 := ltN (l1 _ (List.mem_cons_self ..))
    dsimp only at c4
    have hf0 : 0 ≤ ((i : Int).fmod 4) := Int.fmod_nonneg_of_pos _ (by decide)
    have hf4 : ((i : Int).fmod 4) < 4 := Int.fmod_lt_of_pos _ (by decide)
    k_steps
    rename Fr _ _ _ _ => FF
    rename News _ _ _ _ => NN
    exact EnumEnd.next FF NN (offp1 off) (.inr ⟨_, List.mem_cons_self .., rfl, _, rfl⟩) ⟨_, _, _, rfl, by assumption, (by rw [List.length_set]; exact hl4), set_bd hl4 (by omega) (Int.fmod_nonneg_of_pos _ (by decide)) (Int.fmod_lt_of_pos _ (by decide)) hbd, (by (repeat (first | exact But.refl | exact But.base | refine But.set ?_ (by rfl))))⟩
  case done =>
    clear F1 N1
    rintro h tk m₁ nx F2 N2 ⟨cs, ns4, k, rfl, hcs, hl4, hbd, hb⟩
    have F3 := hb.fr F2
    clear F2 hb
    have hsz : vs.toArray.size ≤ 63 := by rw [List.size_toArray]; exact hlen
    obtain ⟨c0, c1, c2, c3, t0, t1, t2, t3, rfl, rfl⟩ := ints4 hcs hl4
    have g0 := hbd 0 (by decide)
    have g1 := hbd 1 (by decide)
    have g2 := hbd 2 (by decide)
    have g3 := hbd 3 (by decide)
    simp only [List.getD_cons_zero, List.getD_cons_succ] at g0 g1 g2 g3
    k_steps
    refine ret _ _ _ _ ⟨_, k, c0, c1, c2, c3, t0, t1, t2, t3, rfl, rfl, by assumption, by omega, by omega, by omega, by omega⟩ (by k_asm) (by first | k_asm | (refine' cb_drop ?cbN ?cbS; (case cbN => assumption); (case cbS => (intro p hp; (repeat (first | exact hp | apply List.Mem.tail))))))
end Mine
end
section
local macro_rules | `(tactic| k_steps) => `(tactic| repeat' (first | (k_unfold; (try dsimp only)) | (k_end; wrow_close) | (walk1 <;> (try dsimp only)) | (leave1; walk_say "STEP leave1"; try dsimp only) | fail "no step"))
section
example : True := by w_top off; trivial
open PySem PySem.W PyProof.Rows PyProof.Rows.LCg
namespace Mine
local macro_rules | `(tactic| walk_at "ItF") => `(tactic| (k_here; unfold ItF; dsimp only))
theorem truthy_empty {prog : Program} {w : World} {A : Around} {E : Value → Shared → Prop} {s : Shared} {h₀ : Heap} {L l : Addr} {news : List (Addr × Obj)} {k : Nat} {Q : Bool → Shared → Prop} (N : News h₀ L s.heap news) (hm : (l, ({ cls := .type "list", data := .seq #[] k } : Obj)) ∈ news)
    (h : Q false { s with toks := s.toks + 1 + 1 }) : wpAny (model prog w) A (truthy (.ref l)) Q E s :=
  wpAny_truthy_list (News.isList N hm) (by decide) h
local macro_rules | `(tactic| walk_at "truthy ref") => `(tactic| (k_here; k_dflt (refine' truthy_empty ?k1 ?k2 ?_; (case k1 => k_asm); (case k2 => k_mem); k_whole)))
local macro_rules | `(tactic| walk_at "call builtin:iter") => `(tactic| (k_here; k_dflt (refine' call_iter2_N ?k1 ?k2 ?k3 ?_; (case k1 => k_asm); (case k2 => k_asm); (case k3 => k_mem); k_whole; intro it9 h9 F9 N9 lt9)))
local macro_rules | `(tactic| walk_at "exec For") => `(tactic| (k_here; (with_reducible show wpAny _ _ (exec (Stmt.For _ _ _ _ _) _) _ _ _); refine Mark.out ?_))
theorem readUse {w : World} {L1 news : List (Addr × Obj)} {x dx st dst pb pb2 f : Addr} {fo : Obj} {pl : Addr} {ks : Tok × Tok × Tok × Tok} {ks2 : Tok × Tok × Tok × Tok × Tok} {tw tw2 tn2 : Tok} {Tx : List Nat} {n : Int} {tn : Tok} {p : Nat} {tk : Tok} {k : Nat}
   (rc : ReadC w L1 news x dx st dst pb pb2 f fo pl ks ks2 tw tw2 tn2 Tx) (hp : p ≤ 100000) (hn : 0 ≤ n ∧ n ≤ 1000000) : Does w 56 4 (LG w x dx st dst pb pb2 f fo pl ks ks2 tw tw2 tn2 n tn p tk k (L1 ++ news)) [.ref x]
    (fun r tl => ∃ tn' tk' k' t', tl = LG w x dx st dst pb pb2 f fo pl ks ks2 tw tw2 tn2 (n + nlN Tx p) tn' (p + 1) tk' k' (L1 ++ news) ∧ r = .str (ofL (rdL Tx p)) t') := rc n tn p tk k hp hn
theorem ws_sg : sg (Str.ofString "\n\t\r ") = [10, 9, 13, 32] := by decide +kernel
theorem ws_in {c : Nat} (h : (Builtin.Str.occurrences (Str.ofString "\n\t\r ") ⟨#[c]⟩ 0 (Str.ofString "\n\t\r ").length 1).isEmpty = false) : ws c = true := by
  have := (in_text _ c).mp (by rw [h]; rfl)
  rw [ws_sg] at this
  simp only [List.mem_cons, List.not_mem_nil, or_false] at this
  rcases this with e | e | e | e <;> subst e <;> decide
theorem ws_out {c : Nat} (h : (Builtin.Str.occurrences (Str.ofString "\n\t\r ") ⟨#[c]⟩ 0 (Str.ofString "\n\t\r ").length 1).isEmpty = true) : ws c = false := by
  cases q : ws c with
  | false => rfl
  | true =>
    have : c ∈ sg (Str.ofString "\n\t\r ") := by
      rw [ws_sg]
      simp only [ws, Bool.or_eq_true, beq_iff_eq] at q
      rcases q with ((q | q) | q) | q <;> subst q <;> simp
    have h2 := (in_text _ c).mpr this
    rw [h] at h2
    cases h2
theorem one_in {c d : Nat} {z : Str} (hz : z = ⟨#[d]⟩) (h : ((⟨#[c]⟩ : Str) == z) = true) : c = d := by
  have := eq_of_beq h
  rw [hz] at this
  injection this with e
  have := congrArg Array.toList e
  simpa using this
theorem one_out {c d : Nat} {z : Str} (hz : z = ⟨#[d]⟩) (h : ((⟨#[c]⟩ : Str) == z) = false) : c ≠ d := by
  intro e
  rw [hz, e] at h
  simp at h
theorem q_one : Str.ofString "\"" = ⟨#[34]⟩ := by decide +kernel
theorem b_one : Str.ofString "\\" = ⟨#[92]⟩ := by decide +kernel
theorem qs_in {c : Nat} (h : ((⟨#[c]⟩ : Str) == Str.ofString "\"") = true) : (fun c : Nat => c == 34) c = true := by
  have := one_in q_one h
  simp [this]
theorem qs_out {c : Nat} (h : ((⟨#[c]⟩ : Str) == Str.ofString "\"") = false) : (fun c : Nat => c == 34) c = false := by
  have := one_out q_one h
  simp [this]
theorem tokE {a b : List Nat} {t : Tok} : some (Value.str (ofL a ++ ofL b) t) = some (Value.str (ofL (a ++ b)) t) := congrArg some (eqS (by
  apply str_ext
  show (a.toArray ++ b.toArray).toList = (a ++ b).toArray.toList
  simp))
theorem rdL_len (T : List Nat) (p : Nat) : (rdL T p).length ≤ 1 := by unfold rdL; split <;> simp
local macro_rules | `(tactic| walk_at "Again") => `(tactic| (k_here; (with_reducible show Again _ _ _); refine Mark.out ?_))
theorem leP {p a P : Nat} (h : P ≤ 99000) (e : p + a = P) : p ≤ 100000 := by omega
theorem leP1 {p a P : Nat} (h : P ≤ 99000) (e : p + a = P) : p + 1 ≤ 100000 := by omega
theorem leN {n NN : Int} {a : Nat} (h : NN ≤ 990000) (e : n + a = NN) : n ≤ 1000000 := by omega
theorem ifN {n NN : Int} {a c : Nat} (h : NN ≤ 990000) (e : n + a = NN) (h0 : 0 ≤ n) : 0 ≤ (n + if c = 10 then 1 else 0) ∧ (n + if c = 10 then 1 else 0) ≤ 1000000 := by constructor <;> split <;> omega
theorem hP0 {p a T : Nat} (h : p + 2 * T ≤ 90000) (q : a ≤ T - p + 2) : p + a ≤ 99000 := by omega
theorem hN0 {p c T : Nat} {n : Int} (h : p + 2 * T ≤ 90000) (hn : n + T ≤ 900000) (q : c ≤ T - p) : n + c ≤ 990000 := by omega
theorem tokP {tok : List Nat} {p a P : Nat} (h : P ≤ 99000) (l : tok.length ≤ p) (e : p + a = P) : tok.length ≤ 200000 := by omega
theorem fits3 {tok u : List Nat} (h : tok.length ≤ 200000) (hu : u.length ≤ 1) : (ofL tok).length + (ofL u).length ≤ sizeLine := by
  rw [length_ofL, length_ofL, sizeLine_eq]; omega
theorem len1 {tok : List Nat} {c p : Nat} (h : tok.length ≤ p) : (tok ++ [c]).length ≤ p + 1 := by rw [List.length_append]; exact Nat.add_le_add_right h 1
theorem len2 {tok u : List Nat} {p : Nat} (h : tok.length ≤ p) (hu : u.length ≤ 1) : (tok ++ u).length ≤ p + 2 := by rw [List.length_append]; omega
local macro_rules | `(tactic| walk_at "inplaceOp Add str str") => `(tactic| (k_here; k_dflt (refine' SBL.iadd (hsz := ?hsz) ?_; (case hsz => exact fits3 (by first | decide | exact tokP (by assumption) (by assumption) (by assumption)) (by assumption))); intro _ _ _))
local macro_rules | `(tactic| walk_at "call ref") => `(tactic| (k_here; k_search (readUse ?z0 ?z01 ?z02); (case z0 => with_reducible assumption); (case z01 => exact leP1 (by assumption) (by assumption)); (case z02 => exact ifN (by assumption) (by assumption) (by assumption)); (intro r9 tl9 h9 tk9 P9 F9 N9); (obtain ⟨tn9, tkp9, kp9, t9, e8, e9⟩ := P9); (subst e8); (subst e9); (try dsimp only); (try k_fold)))
/-- what the reading of one sign leaves -/
inductive ChD (w : World) (x dx st dst pb pb2 f : Addr) (fo : Obj) (pl : Addr) (ks : Tok × Tok × Tok × Tok) (ks2 : Tok × Tok × Tok × Tok × Tok) (tw tw2 tn2 : Tok) (rest : List (Addr × Obj)) (stop : Nat → Bool) (Tx TOK : List Nat) (P : Nat) (NN : Int) (tok : List Nat) (p : Nat) (m₀ : Str → Option Value) (_nw : List (Addr × Obj)) (m₁ : Str → Option Value) (nx : List (Addr × Obj)) : Prop
  | mk (u : List Nat) (t tn' tk' : Tok) (k' p' : Nat) (n' : Int) (h1 : nx = LG w x dx st dst pb pb2 f fo pl ks ks2 tw tw2 tn2 n' tn' p' tk' k' rest) (h2 : But [Str.ofString "ch"] m₀ m₁) (h3 : m₁ (Str.ofString "ch") = some (.str (ofL u) t)) (h4 : u.length ≤ 1) (h5 : (Tx.drop p').length < (Tx.drop p).length) (h6 : (tok ++ u).length ≤ p') (h7 : Lx stop Tx TOK P NN (tok ++ u) p' n') : ChD w x dx st dst pb pb2 f fo pl ks ks2 tw tw2 tn2 rest stop Tx TOK P NN tok p m₀ _nw m₁ nx
theorem but_hereC {x : Str} {v : Option Value} {m₀ : Str → Option Value} : But [x] m₀ (fun z => if z = x then v else m₀ z) := but_set fun _ _ => rfl
local macro_rules | `(tactic| walk_at "exec If") => `(tactic| (k_here; (with_reducible show wpAny _ _ (exec (Stmt.If _ [Stmt.Assign _ _ _] [] _) _) _ _ _); refine Mark.out ?_))
local macro_rules | `(tactic| walk_at "NEnd") => `(tactic| (k_here; (with_reducible show NEnd _ _ _ _ _ _); refine Mark.out ?_))
theorem fin_ret {w : World} {news L1 : List (Addr × Obj)} {x dx st dst pb pb2 f pl : Addr} {ks : Tok × Tok × Tok × Tok} {ks2 : Tok × Tok × Tok × Tok × Tok} {tw tw2 tn tn2 : Tok} {fo : Obj} {h₀ h : Heap} {L : Addr} {s : Shared} {m : Str → Option Value} {tk tkp k P : Nat} {NN : Int} {tt : Tok} {TOK : List Nat} {a b : Addr × Obj} {Q : Value → Shared → Prop}
    (ret : ∀ (r : Value) (tl : List (Addr × Obj)) (h' : Heap) (tk' : Nat), (∃ tn' tk' k' t', tl = LG w x dx st dst pb pb2 f fo pl ks ks2 tw tw2 tn2 NN tn' P tk' k' (L1 ++ news) ∧ r = .str (ofL TOK) t') → Fr h₀ L h' m → News h₀ L h' tl → Q r { s with heap := h', toks := tk' })
    (F : Fr h₀ L h m) (N : News h₀ L h (LG w x dx st dst pb pb2 f fo pl ks ks2 tw tw2 tn2 NN tn P tkp k (L1 ++ (a :: b :: news)))) : Q (.str (ofL TOK) tt) { s with heap := h, toks := tk } := by
  refine ret _ _ _ _ ⟨tn, tkp, k, tt, rfl, rfl⟩ F ?_
  exact fun y hy => N y (mem_del (ps := [_, _, _, _, _, _]) y (mem_del (ps := [_, _, _, _, _, _]) y hy))
theorem stL_of {w : World} {news L1 : List (Addr × Obj)} {x dx st dst pb pb2 f pl it q : Addr} {ks : Tok × Tok × Tok × Tok} {ks2 : Tok × Tok × Tok × Tok × Tok} {tw tw2 tn tn2 : Tok} {fo oit : Obj} {g h : Heap} {L' : Addr} {s₀ : Shared} {m : Str → Option Value} {tk tkp k p : Nat} {n : Int} {tt : Tok} {c : Option Value} {tok : List Nat}
    (F : Fr g L' h m) (N : News g L' h (LG w x dx st dst pb pb2 f fo pl ks ks2 tw tw2 tn2 n tn p tkp k (L1 ++ ((it, oit) :: (q, methodObj (.ref 56) (.ref x)) :: news)))) (e : ∀ y, m y = mL it x c (.str (ofL tok) tt) y) :
    StL w L1 news x dx st dst pb pb2 f fo pl ks ks2 tw tw2 tn2 it q oit g L' s₀ tok p n { s₀ with heap := h, toks := tk } := ⟨h, tk, tn, tkp, k, c, tt, rfl, frCongr F e, N⟩
theorem stL_init {w : World} {news L1 : List (Addr × Obj)} {x dx st dst pb pb2 f pl it q : Addr} {ks : Tok × Tok × Tok × Tok} {ks2 : Tok × Tok × Tok × Tok × Tok} {tw tw2 tn tn2 te : Tok} {fo : Obj} {g h : Heap} {L' : Addr} {s₀ : Shared} {m : Str → Option Value} {tk tkp k p : Nat} {n : Int} {tt : Tok}
    (F : Fr g L' h m) (N : News g L' h ((it, ciO q te) :: (q, methodObj (.ref 56) (.ref x)) :: LG w x dx st dst pb pb2 f fo pl ks ks2 tw tw2 tn2 n tn p tkp k (L1 ++ news))) (e : ∀ y, m y = mL it x none (.str (ofL []) tt) y) :
    ∃ te, StL w L1 news x dx st dst pb pb2 f fo pl ks ks2 tw tw2 tn2 it q (ciO q te) g L' s₀ [] p n { s₀ with heap := h, toks := tk } := by
  refine ⟨te, h, tk, tn, tkp, k, none, tt, rfl, frCongr F e, ?_⟩
  exact fun y hy => N y (mem_back (ps := [_, _, _, _, _, _]) y hy)
theorem offI_of {it x dx st dst f pl q : Addr} {o0 o1 o2 o3 o4 o5 o6 : Obj} {L1 news : List (Addr × Obj)} (lt : ∀ p ∈ (q, o0) :: (x, o1) :: (dx, o2) :: (st, o3) :: (dst, o4) :: (f, o5) :: (pl, o6) :: (L1 ++ news), p.1 < it) : OffI it x dx st dst f pl L1 ((q, o0) :: news) := by
  have z : ∀ p ∈ (q, o0) :: (x, o1) :: (dx, o2) :: (st, o3) :: (dst, o4) :: (f, o5) :: (pl, o6) :: (L1 ++ news), p.1 ≠ it := fun p hp => Nat.ne_of_lt (lt p hp)
  refine ⟨z (x, o1) (by simp), z (dx, o2) (by simp), z (st, o3) (by simp), z (dst, o4) (by simp), z (f, o5) (by simp), z (pl, o6) (by simp), fun p hp => z p ?_⟩
  simp only [List.mem_append, List.mem_cons] at hp ⊢
  rcases hp with h | h | h <;> simp [h]
theorem ap_more {it x dx st dst f pl q : Addr} {o0 o0' o1 o2 o3 o4 o5 o6 oi : Obj} {L1 news : List (Addr × Obj)} (ap : ApartL x dx st dst f pl L1 news) (lt : ∀ p ∈ (q, o0) :: (x, o1) :: (dx, o2) :: (st, o3) :: (dst, o4) :: (f, o5) :: (pl, o6) :: (L1 ++ news), p.1 < it)
    (l : x < q ∧ dx < q ∧ st < q ∧ dst < q ∧ f < q ∧ pl < q ∧ AllLt q (L1 ++ news)) : ApartL x dx st dst f pl L1 ((it, oi) :: (q, o0') :: news) := by
  have i1 : it ≠ pl := Nat.ne_of_gt (lt (pl, o6) (by simp))
  have i2 : it ≠ dx := Nat.ne_of_gt (lt (dx, o2) (by simp))
  have i3 : q ≠ pl := Nat.ne_of_gt l.2.2.2.2.2.1
  have i4 : q ≠ dx := Nat.ne_of_gt l.2.1
  refine ⟨ap.px, ap.pdx, ap.pst, ap.pdst, ?_, ap.ax, ap.ast, ap.adst, ap.af, ap.apl, ?_⟩
  · intro y hy
    simp only [List.mem_cons] at hy
    rcases hy with h | h | h
    · rw [h]; exact i1
    · rw [h]; exact i3
    · exact ap.pn y h
  · intro y hy
    simp only [List.mem_cons, List.mem_append] at hy
    rcases hy with h | h | h | h
    · exact ap.an y (by simp [h])
    · rw [h]; exact i2
    · rw [h]; exact i4
    · exact ap.an y (by simp [h])
set_option maxRecDepth 100000 in
set_option maxHeartbeats 8000000 in
theorem does_token (w : World) (news L1 : List (Addr × Obj)) (x dx st dst pb pb2 f pl : Addr) (ks : Tok × Tok × Tok × Tok) (ks2 : Tok × Tok × Tok × Tok × Tok) (tw tw2 tn tn2 tk : Tok) (n : Int) (p k kp : Nat) (oc : Value) (od : Option Addr) (fd : FuncData) (osl : Array (Option Value)) (Tx : List Nat)
   (hR : ReadSpec w f ⟨oc, od, .func fd, osl⟩ pl L1 Tx) (hp : p + 2 * Tx.length ≤ 90000) (hn : 0 ≤ n ∧ n + Tx.length ≤ 900000) (ap : ApartL x dx st dst f pl L1 news) (hpb : (pb, ({ cls := .type "list", data := .seq #[] kp } : Obj)) ∈ L1 ++ news) :
   Does w 63 6 (LG w x dx st dst pb pb2 f ⟨oc, od, .func fd, osl⟩ pl ks ks2 tw tw2 tn2 n tn p tk k (L1 ++ news)) [.ref x]
    (fun r tl => ∃ tn' tk' k' t', tl = LG w x dx st dst pb pb2 f ⟨oc, od, .func fd, osl⟩ pl ks ks2 tw tw2 tn2 (n + cntN (Tx.drop p) (lex0 (Tx.drop p)).2) tn' (p + (lex0 (Tx.drop p)).2) tk' k' (L1 ++ news) ∧ r = .str (ofL (lex0 (Tx.drop p)).1) t') := by
  intro mean mg mb dp un gd cn cs a₀ ccd cl outer A₀ base h₀ L m s Q E B F X N T hk hd hu ret
  refine wpAny_call ?_
  unfold LG at N
  k_dflt cell_enter
  refine no_raise ?_
  refine wp_hideQ ?_
  intro R0 hR0
  k_steps
  refine Mark.intro ?_
  rename_i g9 L9 _ FG9 B9 X9 T9 _ _ _ _ _ q9 _ l9 it9 _ lt9 h10 _ F9 N9
  have off : OffI it9 x dx st dst f pl L1 ((q9, methodObj (.ref 56) (.ref x)) :: news) := offI_of lt9
  have ap2 := fun oi => ap_more (oi := oi) (o0' := methodObj (.ref 56) (.ref x)) ap lt9 l9
  obtain ⟨te, hS⟩ := stL_init (s₀ := s) (tk := tk) F9 N9 (by
    intro y
    by_cases h1 : y = Str.ofString "ch"
    · subst h1; rfl
    by_cases h2 : y = Str.ofString "token"
    · subst h2; rfl
    by_cases h3 : y = Str.ofString "fiter"
    · subst h3; rfl
    by_cases h4 : y = Str.ofString "self"
    · subst h4; rfl
    simp +zetaDelta only [mL, if_neg h1, if_neg h2, if_neg h3, if_neg h4]
    show (match y == Str.ofString "self" with | true => some (Value.ref x) | false => none) = none
    rw [beq_false_of_ne h4])
  have hrd := lex0_reads (Tx.drop p)
  have hcn := cntN_le (Tx.drop p) (lex0 (Tx.drop p)).2
  rw [List.length_drop] at hrd hcn
  have hL : L0 Tx (lex0 (Tx.drop p)).1 (p + (lex0 (Tx.drop p)).2) (n + (cntN (Tx.drop p) (lex0 (Tx.drop p)).2 : Nat)) p n := ⟨rfl, rfl, rfl, hn.1⟩
  have hP : p + (lex0 (Tx.drop p)).2 ≤ 99000 := hP0 hp hrd
  have hN : n + (cntN (Tx.drop p) (lex0 (Tx.drop p)).2 : Nat) ≤ 990000 := hN0 hp hn.2 hcn
  have rc := readC_of (ks := ks) (ks2 := ks2) (tw := tw) (tw2 := tw2) (tn2 := tn2) (st := st) (dst := dst) (pb := pb) (pb2 := pb2) hR (ap2 (ciO q9 te))
  generalize (lex0 (Tx.drop p)).1 = TOK at *
  generalize p + (lex0 (Tx.drop p)).2 = P at *
  generalize n + (cntN (Tx.drop p) (lex0 (Tx.drop p)).2 : Nat) = NN at *
  let St : Obj → List Nat → Nat → Int → Shared → Prop := fun oi tok p n s' => StL w L1 news x dx st dst pb pb2 f ⟨oc, od, .func fd, osl⟩ pl ks ks2 tw tw2 tn2 it9 q9 oi g9 L9 s tok p n s'
  let J1 : Nat → Shared → Prop := fun k s' => (∃ p n, St (ciO q9 te) [] p n s' ∧ k = (Tx.drop p).length + 1 ∧ L0 Tx TOK P NN p n) ∨ (k = 0 ∧ St ciE TOK P NN s')
  k_dflt (refine for_it it9 J1 ((Tx.drop p).length + 1) ?init ?turn)
  case init =>
    k_steps
    exact pyIter_ci (N9 _ List.mem_cons_self).1 ⟨rfl, .inl ⟨p, n, hS, rfl, hL⟩⟩
  case turn =>
    clear F9 N9 hS hL
    rintro k s' (⟨p, n, hS, rfl, hL⟩ | ⟨rfl, hS⟩)
    · have hb0 := hL.b
      have hb1 := hL.c
      have hb2 := hL.d
      k_dflt (refine' next_char hR B9 X9 T9 ?zk ?zd ?zu (ap2 _) off ?zp ?zn hS ?fin ?one; (case zk => rfl); (case zd => ktr_room); (case zu => ktr_units); (case zp => exact leP hP hb0); (case zn => exact ⟨hb2, leN hN hb1⟩))
      case fin =>
        intro s'' e hS''
        obtain ⟨rfl, rfl, rfl⟩ := hL.none_ e
        obtain ⟨h, tk, tn, tkp, k, c0, tt, rfl, F, N⟩ := hS''
        unfold LG at N
        refine newsZ N ?_
        clear N
        intro nwZ N
        refine frZ F ?_
        clear F
        intro mZ F
        (try unfold ItN)
        (try dsimp only)
        k_steps
        refine hR0 _ _ ?_
        k_steps
        exact fin_ret ret (by k_asm) (by assumption)
      case one =>
        intro c t s'' e hS''
        obtain ⟨h, tk, tn, tkp, k, c0, tt, rfl, F, N⟩ := hS''
        unfold LG at N
        refine newsZ N ?_
        clear N
        intro nwZ N
        refine frZ F ?_
        clear F
        intro mZ F
        (try unfold ItN)
        (try dsimp only)
        k_steps
        rotate_left 2
        · refine Mark.intro ?_
          have hw := ws_in (by assumption)
          exact ⟨_, Nat.succ_lt_succ (drop_len e 0), .inl ⟨p + 1, _, stL_of (by assumption) (by assumption) (by
            intro y
            by_cases h1 : y = Str.ofString "ch"
            · subst h1; rfl
            by_cases h2 : y = Str.ofString "token"
            · subst h2; rfl
            simp +zetaDelta only [mL, if_neg h1, if_neg h2]), rfl, hL.blank e hw⟩⟩
        · refine Mark.intro ?_
          rename News _ _ _ _ => NN1
          rename Fr _ _ _ _ => FF1
          have hX : Lx (fun c => c == 34) Tx TOK P NN ([]) (p + 1) (n + if c = 10 then 1 else 0) := hL.quote e (one_in q_one (by assumption))
          let J2 : Nat → Shared → Prop := fun k s' => ∃ tok p n, St (ciO q9 te) tok p n s' ∧ k = (Tx.drop p).length ∧ tok.length ≤ p ∧ Lx (fun c => c == 34) Tx TOK P NN tok p n
          k_dflt (refine for_it it9 J2 (Tx.drop (p + 1)).length ?initq ?turnq)
          case initq =>
            k_steps
            exact pyIter_ci (NN1 _ mem_it).1 ⟨rfl, [], p + 1, n + if c = 10 then 1 else 0, stL_of FF1 NN1 (by
              intro y
              by_cases h1 : y = Str.ofString "ch"
              · subst h1; rfl
              by_cases h2 : y = Str.ofString "token"
              · subst h2; exact rfl
              simp +zetaDelta only [mL, if_neg h1, if_neg h2]), rfl, by simp, hX⟩
          case turnq =>
            clear NN1 FF1
            rintro k s' ⟨tok, p2, n2, hS, rfl, hl, hX2⟩
            have hc0 := hX2.b
            have hc1 := hX2.c
            have hc2 := hX2.d
            k_dflt (refine' next_char hR B9 X9 T9 ?zkq ?zdq ?zuq (ap2 _) off ?zpq ?znq hS ?finq ?oneq; (case zkq => rfl); (case zdq => ktr_room); (case zuq => ktr_units); (case zpq => exact leP hP hc0); (case znq => exact ⟨hc2, leN hN hc1⟩))
            case finq =>
              intro s'' e2 hS''
              obtain ⟨rfl, rfl, rfl⟩ := hX2.none_ e2
              obtain ⟨h, tk, tn, tkp, k, c0, tt, rfl, F, N⟩ := hS''
              unfold LG at N
              refine newsZ N ?_
              clear N
              intro nwZ N
              refine frZ F ?_
              clear F
              intro mZ F
              (try unfold ItN)
              (try dsimp only)
              k_steps
              refine Mark.intro ?_
              exact ⟨0, Nat.succ_pos _, .inr ⟨rfl, stL_of F N (fun _ => rfl)⟩⟩
            case oneq =>
              intro c2 t2 s'' e2 hS''
              obtain ⟨h, tk, tn, tkp, k, c0, tt, rfl, F, N⟩ := hS''
              unfold LG at N
              refine newsZ N ?_
              clear N
              intro nwZ N
              refine frZ F ?_
              clear F
              intro mZ F
              (try unfold ItN)
              (try dsimp only)
              k_steps
              all_goals rename News _ _ _ _ => NN2
              all_goals rename Fr _ _ _ _ => FF2
              · obtain ⟨rfl, rfl, rfl⟩ := hX2.stop_ e2 (qs_in (by assumption))
                refine hR0 _ _ ?_
                k_steps
                rename News _ _ _ _ => NN3
                rename Fr _ _ _ _ => FF3
                exact fin_ret ret FF3 NN3
              · refine Mark.intro ?_
                have hs := qs_out (by assumption)
                clear F N
                refine if_join (ChD w x dx st dst pb pb2 f ⟨oc, od, .func fd, osl⟩ pl ks ks2 tw tw2 tn2 (L1 ++ ((it9, ciO q9 te) :: (q9, methodObj (.ref 56) (.ref x)) :: news)) (fun c => c == 34) Tx TOK P NN tok p2) FF2 NN2 ?turnq ?doneq
                case turnq =>
                  k_steps
                  all_goals rename News _ _ _ _ => NN3
                  all_goals rename Fr _ _ _ _ => FF3
                  all_goals refine Mark.intro ?_
                  · exact NEnd.intro FF3 NN3 ⟨rdL Tx (p2 + 1), _, _, _, _, p2 + 2, _, rfl, but_hereC, if_pos rfl, rdL_len _ _, drop_len e2 1, len2 hl (rdL_len _ _), hX2.slash e2 hs (one_in b_one (by assumption))⟩
                  · exact NEnd.intro FF3 NN3 ⟨[c2], t2, _, _, _, p2 + 1, _, rfl, But.refl, if_pos rfl, Nat.le_refl _, drop_len e2 0, len1 hl, hX2.plain e2 hs (one_out b_one (by assumption))⟩
                case doneq =>
                  clear FF2 NN2
                  rintro h' tk' m' nx F2 N2 ⟨u, t3, tn3, tk3, k3, p3, n3, rfl, hb, hm, hu, hd, hlen, hX3⟩
                  have F3 := frW1 F2 hb hm
                  clear F2 hb hm
                  k_steps
                  refine Mark.intro ?_
                  rename News _ _ _ _ => NN3
                  rename Fr _ _ _ _ => FF3
                  exact ⟨_, hd, tok ++ u, p3, n3, stL_of FF3 NN3 (by
                    intro y
                    by_cases h1 : y = Str.ofString "ch"
                    · subst h1; rfl
                    by_cases h2 : y = Str.ofString "token"
                    · subst h2; exact tokE (b := u)
                    simp +zetaDelta only [mL, if_neg h1, if_neg h2]), rfl, hlen, hX3⟩
        · refine Mark.intro ?_
          rename News _ _ _ _ => NN1
          rename Fr _ _ _ _ => FF1
          have hs := ws_out (by assumption)
          have hnq := one_out q_one (by assumption)
          refine if_join (ChD w x dx st dst pb pb2 f ⟨oc, od, .func fd, osl⟩ pl ks ks2 tw tw2 tn2 (L1 ++ ((it9, ciO q9 te) :: (q9, methodObj (.ref 56) (.ref x)) :: news)) ws Tx TOK P NN [] p) FF1 NN1 ?turno ?doneo
          case turno =>
            k_steps
            all_goals rename News _ _ _ _ => NN3
            all_goals rename Fr _ _ _ _ => FF3
            all_goals refine Mark.intro ?_
            · exact NEnd.intro FF3 NN3 ⟨rdL Tx (p + 1), _, _, _, _, p + 2, _, rfl, but_hereC, if_pos rfl, rdL_len _ _, drop_len e 1, len2 (tok := []) (Nat.zero_le _) (rdL_len _ _), hL.slash e (one_in b_one (by assumption))⟩
            · exact NEnd.intro FF3 NN3 ⟨[c], t, _, _, _, p + 1, _, rfl, But.refl, if_pos rfl, Nat.le_refl _, drop_len e 0, len1 (tok := []) (Nat.zero_le _), hL.plain e hs hnq (one_out b_one (by assumption))⟩
          case doneo =>
          clear FF1 NN1
          rintro h' tk' m' nx F2 N2 ⟨u, t3, tn3, tk3, k3, p3, n3, rfl, hb, hm, hu, hd, hlen, hX⟩
          have F3 := frW1 F2 hb hm
          clear F2 hb hm
          k_steps
          refine Mark.intro ?_
          rename News _ _ _ _ => NN1
          rename Fr _ _ _ _ => FF1
          let J4 : Nat → Shared → Prop := fun k s' => ∃ tok p n, St (ciO q9 te) tok p n s' ∧ k = (Tx.drop p).length ∧ tok.length ≤ p ∧ Lx ws Tx TOK P NN tok p n
          k_dflt (refine for_it it9 J4 (Tx.drop p3).length ?initp ?turnp)
          case initp =>
            k_steps
            exact pyIter_ci (NN1 _ mem_it).1 ⟨rfl, [] ++ u, p3, n3, stL_of FF1 NN1 (by
              intro y
              by_cases h1 : y = Str.ofString "ch"
              · subst h1; rfl
              by_cases h2 : y = Str.ofString "token"
              · subst h2; exact tokE (a := []) (b := u)
              simp +zetaDelta only [mL, if_neg h1, if_neg h2]), rfl, hlen, hX⟩
          case turnp =>
            clear NN1 FF1
            rintro k s' ⟨tok, p2, n2, hS, rfl, hl, hX2⟩
            have hc0 := hX2.b
            have hc1 := hX2.c
            have hc2 := hX2.d
            k_dflt (refine' next_char hR B9 X9 T9 ?zkp ?zdp ?zup (ap2 _) off ?zpp ?znp hS ?finp ?onep; (case zkp => rfl); (case zdp => ktr_room); (case zup => ktr_units); (case zpp => exact leP hP hc0); (case znp => exact ⟨hc2, leN hN hc1⟩))
            case finp =>
              intro s'' e2 hS''
              obtain ⟨rfl, rfl, rfl⟩ := hX2.none_ e2
              obtain ⟨h, tk, tn, tkp, k, c0, tt, rfl, F, N⟩ := hS''
              unfold LG at N
              refine newsZ N ?_
              clear N
              intro nwZ N
              refine frZ F ?_
              clear F
              intro mZ F
              (try unfold ItN)
              (try dsimp only)
              k_steps
              refine Mark.intro ?_
              exact ⟨0, Nat.succ_pos _, .inr ⟨rfl, stL_of F N (fun _ => rfl)⟩⟩
            case onep =>
              intro c2 t2 s'' e2 hS''
              obtain ⟨h, tk, tn, tkp, k, c0, tt, rfl, F, N⟩ := hS''
              unfold LG at N
              refine newsZ N ?_
              clear N
              intro nwZ N
              refine frZ F ?_
              clear F
              intro mZ F
              (try unfold ItN)
              (try dsimp only)
              k_steps
              all_goals rename News _ _ _ _ => NN2
              all_goals rename Fr _ _ _ _ => FF2
              rotate_right 1
              · obtain ⟨rfl, rfl, rfl⟩ := hX2.stop_ e2 (ws_in (by assumption))
                refine hR0 _ _ ?_
                k_steps
                rename News _ _ _ _ => NN3
                rename Fr _ _ _ _ => FF3
                exact fin_ret ret FF3 NN3
              · refine Mark.intro ?_
                have hs := ws_out (by assumption)
                clear F N
                refine if_join (ChD w x dx st dst pb pb2 f ⟨oc, od, .func fd, osl⟩ pl ks ks2 tw tw2 tn2 (L1 ++ ((it9, ciO q9 te) :: (q9, methodObj (.ref 56) (.ref x)) :: news)) ws Tx TOK P NN tok p2) FF2 NN2 ?turnp ?donep
                case turnp =>
                  k_steps
                  all_goals rename News _ _ _ _ => NN3
                  all_goals rename Fr _ _ _ _ => FF3
                  all_goals refine Mark.intro ?_
                  · exact NEnd.intro FF3 NN3 ⟨rdL Tx (p2 + 1), _, _, _, _, p2 + 2, _, rfl, but_hereC, if_pos rfl, rdL_len _ _, drop_len e2 1, len2 hl (rdL_len _ _), hX2.slash e2 hs (one_in b_one (by assumption))⟩
                  · exact NEnd.intro FF3 NN3 ⟨[c2], t2, _, _, _, p2 + 1, _, rfl, But.refl, if_pos rfl, Nat.le_refl _, drop_len e2 0, len1 hl, hX2.plain e2 hs (one_out b_one (by assumption))⟩
                case donep =>
                  clear FF2 NN2
                  rintro h' tk' m' nx F2 N2 ⟨u, t3, tn3, tk3, k3, p3, n3, rfl, hb, hm, hu, hd, hlen, hX3⟩
                  have F3 := frW1 F2 hb hm
                  clear F2 hb hm
                  k_steps
                  refine Mark.intro ?_
                  rename News _ _ _ _ => NN3
                  rename Fr _ _ _ _ => FF3
                  exact ⟨_, hd, tok ++ u, p3, n3, stL_of FF3 NN3 (by
                    intro y
                    by_cases h1 : y = Str.ofString "ch"
                    · subst h1; rfl
                    by_cases h2 : y = Str.ofString "token"
                    · subst h2; exact tokE (b := u)
                    simp +zetaDelta only [mL, if_neg h1, if_neg h2]), rfl, hlen, hX3⟩
    · obtain ⟨h, tk, tn, tkp, k, c0, tt, rfl, F, N⟩ := hS
      refine next_ended rfl (N _ mem_it).1 ?_
      intro h' hk2
      have F2 := fr_but F (fun b o _ e => hk2 b o e) (Ne.symm (N _ mem_it).2.1) (N _ mem_it).2.2
      have N2 : News g9 L9 h' _ := fun p hp => ⟨hk2 _ _ (N p hp).1, (N p hp).2⟩
      clear F N
      unfold LG at N2
      (try unfold ItN)
      dsimp only
      k_steps
      refine hR0 _ _ ?_
      k_steps
      exact fin_ret ret (by k_asm) (by assumption)
end Mine
end
section
example : True := by w_top off; trivial
open PySem PySem.W PyProof.Rows PyProof.Rows.LCg
namespace Mine
local macro_rules | `(tactic| walk_at "exec FunctionDef") => `(tactic| (k_here; refine Mark.out ?_))
local macro_rules | `(tactic| walk_at "call ref") => `(tactic| (k_here; (with_reducible show wpAny _ _ (call (Value.ref 63) _) _ _ _); refine Mark.out ?_))
theorem withR {P : Prop} {w : World} {g h : Heap} {L x dx st dst pb pb2 f pl : Addr} {fo : Obj} {ks : Tok × Tok × Tok × Tok} {ks2 : Tok × Tok × Tok × Tok × Tok} {tw tw2 tn2 tn tk : Tok} {n : Int} {p k : Nat} {L1 news : List (Addr × Obj)}
    (_N : News g L h (LG w x dx st dst pb pb2 f fo pl ks ks2 tw tw2 tn2 n tn p tk k (L1 ++ news))) (T : List Nat) (hR : ReadSpec w f fo pl L1 T) (ap : ApartL x dx st dst f pl L1 news) (k : ReadSpec w f fo pl L1 T → ApartL x dx st dst f pl L1 news → P) : P := k hR ap
theorem read_ret {h₀ h : Heap} {L : Addr} {s : Shared} {m : Str → Option Value} {tk tkp k p : Nat} {T : List Nat} {z : Str} {f pl : Addr} {fo : Obj} {L1 news : List (Addr × Obj)} {t : Tok} {Q : Value → Shared → Prop}
    (ret : ∀ (r : Value) (tl : List (Addr × Obj)) (h' : Heap) (tk' : Nat), (∃ tk' k' t', tl = (f, fo) :: (pl, plO (p + 1) tk' k') :: (L1 ++ news) ∧ r = .str (rd T p) t') → Fr h₀ L h' m → News h₀ L h' tl → Q r { s with heap := h', toks := tk' })
    (e : z = rd T p) (F : Fr h₀ L h m) (N : News h₀ L h ((f, fo) :: (pl, plO (p + 1) tkp k) :: (L1 ++ news))) : Q (.str z t) { s with heap := h, toks := tk } :=
  ret _ _ _ _ ⟨tkp, k, t, rfl, by rw [e]⟩ F N
theorem slice_rd' (x : Str) (p : Nat) : Txt.slice x (some ((p : Int) + 1 - 1)) (some ((p : Int) + 1)) = rd (sg x) p := by
  rw [show (p : Int) + 1 - 1 = p by omega]; exact slice_rd x p
noncomputable def nestAt (c' : Addr) : Obj := tabObj #[rawInt 219, rawInt 4, .ref c']
noncomputable def codeOk (oc : Obj) : Prop := ∃ vs t, oc.data = .fields vs ∧ vs[1]? = some (.str (Str.ofString "_law_read.<locals>.read") t)
noncomputable abbrev outO (t1 t2 t3 : List Nat) (n : Int) (k1 k2 k3 k4 : Tok) (k : Nat) : Obj := { cls := .type "list", data := .seq #[.str (ofL t1) k1, .str (ofL t2) k2, .str (ofL t3) k3, .int n k4] k }
theorem rd_p0 {T : Nat} (hT : T ≤ 2000) : 0 + 2 * T ≤ 90000 := by omega
theorem rd_n0 {T : Nat} (hT : T ≤ 2000) : (0 : Int) ≤ 1 ∧ (1 : Int) + T ≤ 900000 := by omega
theorem rd_p1 {T a p1 : Nat} (hT : T ≤ 2000) (q : a ≤ T - 0 + 2) (e : 0 + a = p1) : p1 + 2 * T ≤ 90000 := by omega
theorem rd_n1 {T c : Nat} (hT : T ≤ 2000) (q : c ≤ T - 0) : (0 : Int) ≤ 1 + c ∧ (1 : Int) + c + T ≤ 900000 := by omega
theorem rd_p2 {T a b p1 p2 : Nat} (hT : T ≤ 2000) (q : a ≤ T - 0 + 2) (e : 0 + a = p1) (q' : b ≤ T - p1 + 2) (e' : p1 + b = p2) : p2 + 2 * T ≤ 90000 := by omega
theorem rd_n2 {T c c' p1 : Nat} (hT : T ≤ 2000) (q : c ≤ T - 0) (q' : c' ≤ T - p1) : (0 : Int) ≤ 1 + c + c' ∧ (1 : Int) + c + c' + T ≤ 900000 := by omega
theorem end_len (x : Str) : (sg (x ++ Str.ofString " end")).length = x.length + 4 := by
  have e : (sg (Str.ofString " end")).length = 4 := by decide +kernel
  have e2 : sg (x ++ Str.ofString " end") = sg x ++ sg (Str.ofString " end") := by simp [sg, Str.cps_append]
  rw [e2, List.length_append, e, length_sg]
/-- what a reading leaves -/
inductive RdP (T : List Nat) (c' : Addr) (oc' : Obj) (news : List (Addr × Obj)) (r : Value) (tl : List (Addr × Obj)) : Prop
  | mk (D : Addr) (k : Nat) (t1 t2 t3 : List Nat) (n : Int) (k1 k2 k3 k4 : Tok) (e1 : r = .ref D) (e2 : tl = (D, outO t1 t2 t3 n k1 k2 k3 k4 k) :: (178, nestAt c') :: (c', oc') :: news) (e3 : ReadOut T t1 t2 t3 n) (e4 : ∀ p ∈ (178, nestAt c') :: (c', oc') :: news, p.1 < D) : RdP T c' oc' news r tl
theorem read_fin {s : Shared} {h₀ h' : Heap} {L D c' : Addr} {m : Str → Option Value} {news news' mid : List (Addr × Obj)} {T : List Nat} {oc' : Obj} {k1 k2 k3 k4 tk' : Tok} {p1 p2 k : Nat} {Q : Value → Shared → Prop}
    (ret : ∀ (r : Value) (tl : List (Addr × Obj)) (h' : Heap) (tk' : Nat), RdP T c' oc' news r tl → Fr h₀ L h' m → News h₀ L h' tl → Q r { s with heap := h', toks := tk' })
    (F : Fr h₀ L h' m) (N : News h₀ L h' news') (hp1 : 0 + (lex0 (T.drop 0)).2 = p1) (hp2 : p1 + (lex0 (T.drop p1)).2 = p2)
    (hm : (D, outO (lex0 (T.drop 0)).1 (lex0 (T.drop p1)).1 (lex0 (T.drop p2)).1 (1 + (cntN (T.drop 0) (lex0 (T.drop 0)).2 : Nat) + (cntN (T.drop p1) (lex0 (T.drop p1)).2 : Nat) + (cntN (T.drop p2) (lex0 (T.drop p2)).2 : Nat)) k1 k2 k3 k4 k) ∈ news')
    (hs : ∀ p ∈ (178, nestAt c') :: (c', oc') :: news, p ∈ news') (hl : ∀ p ∈ mid, p.1 < D) (hs2 : ∀ p ∈ (178, nestAt c') :: (c', oc') :: news, p ∈ mid) : Q (.ref D) { s with heap := h', toks := tk' } :=
  ret _ _ _ _ ⟨D, k, _, _, _, _, k1, k2, k3, k4, rfl, rfl, ⟨p1, p2, _, hp1.symm, hp2.symm, rfl, rfl, rfl, rfl, rfl⟩, fun p hp => hl p (hs2 p hp)⟩ F (cb_drop N (List.forall_mem_cons.mpr ⟨hm, hs⟩))
theorem perm12 {α : Type} {a b c d e f g h i j k l : α} {r : List α} : ∀ y ∈ b :: c :: h :: i :: d :: f :: ([e, j, k] ++ (a :: g :: l :: r)), y ∈ a :: b :: c :: d :: e :: f :: g :: h :: i :: j :: k :: l :: r := by
  show ∀ y ∈ b :: c :: h :: i :: d :: f :: e :: j :: k :: a :: g :: l :: r, _
  iterate 12 (refine List.forall_mem_cons.mpr ⟨by k_mem, ?_⟩)
  exact fun y hy => by iterate 12 (apply List.mem_cons_of_mem)
                       exact hy
theorem toLG {w : World} {g h : Heap} {L x dx st dst pb pb2 f pl c' ct cp : Addr} {fo oc' o1 o2 ot : Obj} {k1 k2 k3 k4 j1 j2 j3 j4 j5 tw tw2 tn2 tn tk : Tok} {n : Int} {p k : Nat} {rest : List (Addr × Obj)}
    (N : News g L h ((pb, W.listOf #[] 0) :: (x, instObj 73 dx) :: (dx, dictOf (lexEs w (k1, k2, k3, k4) tw st pb n tn) 4) :: (f, fo) :: (c', oc') :: (pl, plO p tk k) :: (pb2, W.listOf #[] 0) :: (st, instObj 73 dst) :: (dst, dictOf (strEs w (j1, j2, j3, j4, j5) tw2 tn2 pb2 f) 5) :: (ct, o1) :: (cp, o2) :: (178, ot) :: rest)) (eo : ot = nestAt c') :
    ∃ (ks : Tok × Tok × Tok × Tok) (ks2 : Tok × Tok × Tok × Tok × Tok) (tw tw2 tn2 tn tk : Tok), News g L h (LG w x dx st dst pb pb2 f fo pl ks ks2 tw tw2 tn2 n tn p tk k ([(c', oc'), (ct, o1), (cp, o2)] ++ ((pb, W.listOf #[] 0) :: (pb2, W.listOf #[] 0) :: (178, nestAt c') :: rest))) := by
  subst eo
  refine ⟨(k1, k2, k3, k4), (j1, j2, j3, j4, j5), tw, tw2, tn2, tn, tk, ?_⟩
  exact fun y hy => N y (perm12 y hy)
theorem allLt_app {d : Addr} {a b : List (Addr × Obj)} (h : AllLt d (a ++ b)) : AllLt d b := by
  induction a with
  | nil => exact h
  | cons x t ih => exact ih h.2
theorem wp_letA {α : Type} {M : Model} {A : Around} {t : Sem α} {Q : α → Shared → Prop} {E : Value → Shared → Prop} {s : Shared} (h : let A' := A; wpAny M A' t Q E s) : wpAny M A t Q E s := h
theorem updF_at {d : Addr} {o : Obj} {post : List (Addr × Obj)} (h2 : ∀ p ∈ post, p.1 ≠ d) : ∀ {pre : List (Addr × Obj)}, (∀ p ∈ pre, p.1 ≠ d) → UpdF d o (pre ++ (d, o) :: post) (fun o' => pre ++ (d, o') :: post)
  | [], _ => .head h2
  | _ :: _, h => .tail (h _ (.head _)) (updF_at h2 fun p hp => h p (.tail _ hp))
/-- the table of nested code with or without the code: both give the same ledger -/
theorem nest_both {M : Model} {A : Around} {E : Value → Shared → Prop} {s : Shared} {h₀ : Heap} {L a c : Addr} {m mg mb : Str → Option Value} {cn : Str} {cs : Scope} {ccd : Value} {cl : List (Str × Addr)} {nws pre cz news : List (Addr × Obj)} {T0 : Obj}
    {p : Program} {loose : List Str} {mean : ExcName → Option Value} {name qual : Str} {params : Arguments} {body : List Stmt} {scope : Scope} {pos : Pos} {firstLine : Nat} {clos : List (Str × Addr)} {Q : Value → Shared → Prop}
    (hT0 : (T0 = tabObj #[] ∧ cz = []) ∨ ∃ c' oc', T0 = nestAt c' ∧ cz = [(c', oc')] ∧ codeOk oc')
    (F : Fr h₀ L s.heap m) (N : News h₀ L s.heap nws) (T : Top p loose mean mg mb h₀) (C : CodeHd h₀ c 178) (hcd : ccd = .ref c)
    (hcl : closureFor scope (envX cn cs L a ccd cl) = pure clos) (en : nws = pre ++ (178, T0) :: (cz ++ news)) (h178 : ∀ p ∈ news, p.1 ≠ 178)
    (hpos : ∀ c', tabObj (#[] ++ #[rawInt pos.line, rawInt pos.col, .ref c']) = nestAt c') (hhit : ∀ c', codeAmong pos (#[rawInt 219, rawInt 4, .ref c'] : Array Value).toList = some (.ref c'))
    (hq : qual = Str.ofString "_law_read.<locals>.read") (hpre : ∀ p ∈ pre, p.1 ≠ 178) (hcz : ∀ q ∈ pre, ∀ p ∈ cz ++ news, p.1 ≠ q.1)
    (h : ∀ f c' oc ctv doc h' tk, Fr h₀ L h' m → News h₀ L h' ((f, fnMade name qual params body scope clos doc ((mg "__name__").getD .none) c' ctv) :: (c', oc) :: (pre ++ (178, nestAt c') :: news)) → codeOk oc →
      (∀ q ∈ pre, @Ne Nat c' q.1) → (∀ q ∈ (c', oc) :: (pre ++ (178, nestAt c') :: news), q.1 < f) → ((cz = [] ∧ ∀ p ∈ (178, nestAt c') :: news, p.1 < c') ∨ cz = [(c', oc)]) → Q (.ref f) { s with heap := h', toks := tk }) :
    wpAny M A (makeFunction name qual params (.stmts body) scope (envX cn cs L a ccd cl) [] [] [] pos firstLine) Q E s := by
  subst en
  rcases hT0 with ⟨rfl, rfl⟩ | ⟨c', oc', rfl, rfl, hc⟩
  · simp only [List.nil_append] at N hcz
    refine nest_K F N T C hcd (updF_at h178 hpre) True.intro rfl hcl ?_
    intro f c' oc vs t ctv doc h' tk F' N' d1 d2 l1 l2
    rw [hpos] at N'
    have l3 : ∀ q ∈ pre ++ (178, nestAt c') :: news, q.1 < c' := by
      intro q hq
      rcases List.mem_append.mp hq with hq | hq
      · exact l1 q (List.mem_append_left _ hq)
      · rcases List.mem_cons.mp hq with rfl | hq
        · exact l1 (178, tabObj #[]) (List.mem_append_right _ (.head _))
        · exact l1 q (List.mem_append_right _ (.tail _ hq))
    refine h f c' oc ctv doc h' tk F' N' ⟨vs, t, d1, hq ▸ d2⟩ (fun q hq => Nat.ne_of_gt (l3 q (List.mem_append_left _ hq))) ?_ (.inl ⟨rfl, fun p hp => l3 p (List.mem_append_right _ hp)⟩)
    intro q hq
    rcases List.mem_cons.mp hq with rfl | hq
    · exact l2
    · exact Nat.lt_trans (l3 q hq) l2
  · refine nestHit_K F N T C hcd (List.mem_append_right _ (.head _)) ?_ (hhit c') hcl ?_
    · simp [TriplesOk, rawInt]
    intro f ctv doc h' tk F' N' l1
    have hs : ∀ q ∈ (c', oc') :: (pre ++ (178, nestAt c') :: news), q ∈ pre ++ (178, nestAt c') :: ([(c', oc')] ++ news) := by
      intro q hq
      simp only [List.mem_cons, List.mem_append, List.not_mem_nil, or_false] at hq ⊢
      rcases hq with h | h | h | h <;> simp [h]
    refine h f c' oc' ctv doc h' tk F' ?_ hc (fun q hq => hcz q hq (c', oc') (.head _)) (fun q hq => l1 q (hs q hq)) (.inr rfl)
    intro q hq
    rcases List.mem_cons.mp hq with rfl | hq
    · exact N' _ (.head _)
    · exact N' q (.tail _ (hs q hq))
set_option maxRecDepth 100000 in
set_option maxHeartbeats 8000000 in
theorem does_readG (w : World) (news cz : List (Addr × Obj)) (T0 : Obj) (hT0 : (T0 = tabObj #[] ∧ cz = []) ∨ ∃ c' oc', T0 = nestAt c' ∧ cz = [(c', oc')] ∧ codeOk oc') (x : Str) (tx : Tok) (hx : x.length ≤ 1000) (h178 : ∀ p ∈ news, p.1 ≠ 178) :
   Does w 183 10 ((178, T0) :: (cz ++ news)) [.str x tx]
    (fun r tl => ∃ c' oc', RdP (sg (x ++ Str.ofString " end")) c' oc' news r tl ∧ codeOk oc' ∧ ((cz = [] ∧ ∀ p ∈ (178, nestAt c') :: news, p.1 < c') ∨ cz = [(c', oc')])) := by
  intro mean mg mb dp un gd cn cs a₀ ccd cl outer A₀ base h₀ L m s Q E B F X N T hk hd hu ret
  refine wpAny_call ?_
  k_dflt (refine' code_defC ?k1 ?k2 ?k3 ?k4 ?k5 ?kA ?kF ?kK ?k6 ?k7 ?k8 ?k9 ?kB ?kD ?_ ?c2 ?c3 ?c4; (case kA => exact rfl); (case kF => exact rfl); (case kK => assumption); (case k1 => k_asm); (case k2 => k_asm); (case k3 => k_asm); (case k4 => k_asm); (case k5 => k_asm); (case k6 => k_is); (case k7 => k_is); (case k8 => ktr_room); (case k9 => exact BindsTo.of_eq rfl); (case kB => exact rfl); (case kD => decide +kernel); (case c2 => exact rfl); (case c3 => exact rfl); (case c4 => exact rfl); k_whole; intro g' L' h' tk' cells' FG' F' N' Y' B' X' T' l1; (try k_lt l1); k_cells Y'; (try simp only [List.cons_append, List.nil_append] at N'); (try dsimp only); (try k_lift B'); (try k_fold))
  refine no_raise ?_
  refine wp_hideQ ?_
  intro R hRR
  rename Fr _ _ _ _ => F0
  refine frZ F0 ?_
  clear F0
  intro mZ FZ
  rename News _ _ _ _ => N0
  refine newsZ N0 ?_
  clear N0
  intro nwZ NZ
  have codeHd := codeHd_of_K (c := 182) (P := 178) X' (by kernel_rfl)
  k_steps
  refine Mark.intro ?_
  k_dflt (refine' nestDef_K ?d0 ?k0 ?a0 ?_; (case d0 => exact rfl); (case k0 => exact rfl); (case a0 => exact rfl))
  k_dflt (refine' nest_both (pre := [(_, _), (_, _), (_, _), (_, _), (_, _), (_, _)]) hT0 ?F ?N ?T ?C ?cd ?cl ?en h178 ?hpos ?hit ?hq ?hpre ?hcz ?_; (case F => k_asm); (case N => k_asm); (case T => k_asm); (case cd => exact rfl); (case C => kn_code); (case cl => exact rfl); (case en => exact rfl); (case hpos => exact fun _ => rfl); (case hit => intro c'; kn_hit); (case hq => exact rfl); (case hpre => (refine List.forall_mem_cons.mpr ⟨?_, List.forall_mem_cons.mpr ⟨?_, List.forall_mem_cons.mpr ⟨?_, List.forall_mem_cons.mpr ⟨?_, List.forall_mem_cons.mpr ⟨?_, List.forall_mem_cons.mpr ⟨?_, fun _ h => nomatch h⟩⟩⟩⟩⟩⟩ <;> k_ne)); (case hcz => (refine List.forall_mem_cons.mpr ⟨?_, List.forall_mem_cons.mpr ⟨?_, List.forall_mem_cons.mpr ⟨?_, List.forall_mem_cons.mpr ⟨?_, List.forall_mem_cons.mpr ⟨?_, List.forall_mem_cons.mpr ⟨?_, fun _ h => nomatch h⟩⟩⟩⟩⟩⟩ <;> k_all)))
  intro f' c' oc' ct' dc' h' tk' F' N' hcode hne hlt hdisj
  simp only [List.cons_append, List.nil_append] at N' hlt
  simp only [List.forall_mem_cons] at hne
  replace hne := And.intro hne.1 (And.intro hne.2.1 (And.intro hne.2.2.1 (And.intro hne.2.2.2.1 (And.intro hne.2.2.2.2.1 hne.2.2.2.2.2.1))))
  k_lt hlt
  have l1n := allLt_app l1.2
  k_steps
  refine Mark.intro ?_
  rename News _ _ _ _ => N9
  obtain ⟨ks, ks2, tw, tw2, tn2, tn, tk8, N8⟩ := toLG (p := 0) N9 (by simp [nestAt, rawInt])
  k_dflt (refine withR N8 (sg (x ++ Str.ofString " end")) ?hR ?ap ?_)
  case hR =>
    clear N9 N8
    obtain ⟨vs0, tc0, hd0, hv0⟩ := hcode
    intro p tk k t news2 hp hoff mean2 mg2 mb2 dp2 un2 gd2 cn2 cs2 a2 ccd2 cl2 outer2 A2 base2 g2 L2 m2 s2 Q2 E2 B2 F2 X2 N2 T2 hk2 hd2 hu2 ret2
    simp only [List.cons_append, List.nil_append] at N2
    k_dflt (refine wpAny_call ?_; (refine' code_nest ?k1 ?k2 ?k3 ?k4 ?k5 ?kA ?kF ?kK ?k6 ?k7 ?k8 ?k9 ?kB ?_ ?c2 ?c3 ?c4 ?c5; (case kA => exact rfl); (case kF => exact rfl); (case kK => exact hk2); (case k1 => k_asm); (case k2 => k_asm); (case k3 => k_asm); (case k4 => k_asm); (case k5 => k_asm); (case k6 => k_mem); (case k7 => exact codeRec_news (by k_asm) (by k_mem) (by assumption) (by assumption)); (case k8 => k_room); (case k9 => exact BindsTo.of_eq rfl); (case c5 => decide); (case kB => exact locs rfl); (case c2 => exact rfl); (case c3 => exact rfl); (case c4 => exact rfl); k_whole; intro g' L' h' FG' F' N' B' X' T'; (try dsimp only); (try k_lift B'); (try k_fold)))
    k_steps
    rename News _ _ _ _ => NN
    rename Fr _ _ _ _ => FF
    k_dflt (exact read_ret ret2 (slice_rd' _ p) FF NN)
  case ap =>
    clear N9 N8
    refine ⟨?_, ?_, ?_, ?_, ?_, ?_, ?_, ?_, ?_, ?_, ?_⟩
    all_goals (try simp only [List.cons_append, List.nil_append])
    all_goals first | k_ne | ((repeat (refine List.forall_mem_cons.mpr ⟨?_, ?_⟩; focus k_ne)); k_all)
  · intro hR ap
    have hlen : (sg (x ++ Str.ofString " end")).length ≤ 2000 := by rw [end_len]; exact Nat.le_trans (Nat.add_le_add_right hx 4) (by decide)
    generalize hT : sg (x ++ Str.ofString " end") = T at hR hlen ⊢
    have q1 := lex0_reads (T.drop 0)
    have q2 := cntN_le (T.drop 0) (lex0 (T.drop 0)).2
    rw [List.length_drop] at q1 q2
    k_dflt (refine' Does.use (does_token w _ _ _ _ _ _ _ _ _ _ _ _ _ _ _ _ _ _ 0 _ 0 _ _ _ _ T hR ?hp ?hn ap ?hpb) ?z1 ?z2 ?z3 N8 ?z5 ?z6 ?z7 ?z8 ?_; (case z1 => k_asm); (case z2 => k_asm); (case z3 => k_asm); (case z5 => k_asm); (case z6 => first | exact rfl | assumption); (case z7 => ktr_room); (case z8 => ktr_units); (case hp => exact rd_p0 hlen); (case hn => exact rd_n0 hlen); (case hpb => exact List.mem_append_right _ List.mem_cons_self))
    intro r9 tl9 h9 tk9 P9 F9 N9
    obtain ⟨tn9, tkp9, kp9, t9, e8, e9⟩ := P9
    subst e8
    subst e9
    unfold LG at N9
    simp only [List.cons_append, List.nil_append] at N9
    clear N8
    generalize hp1 : 0 + (lex0 (T.drop 0)).2 = p1 at N9
    k_steps
    refine Mark.intro ?_
    have q3 := lex0_reads (T.drop p1)
    have q4 := cntN_le (T.drop p1) (lex0 (T.drop p1)).2
    rw [List.length_drop] at q3 q4
    k_dflt (refine' Does.use (does_token w _ _ _ _ _ _ _ _ _ _ _ _ _ _ _ _ _ _ p1 _ 0 _ _ _ _ T hR ?hp ?hn ap ?hpb) ?z1 ?z2 ?z3 N9 ?z5 ?z6 ?z7 ?z8 ?_; (case z1 => k_asm); (case z2 => k_asm); (case z3 => k_asm); (case z5 => k_asm); (case z6 => first | exact rfl | assumption); (case z7 => ktr_room); (case z8 => ktr_units); (case hp => exact rd_p1 hlen q1 hp1); (case hn => exact rd_n1 hlen q2); (case hpb => exact List.mem_append_right _ List.mem_cons_self))
    intro r9 tl9 h9 tk9 P9 F9 N9
    obtain ⟨tn9, tkp9, kp9, t9, e8, e9⟩ := P9
    subst e8
    subst e9
    unfold LG at N9
    simp only [List.cons_append, List.nil_append] at N9

    generalize hp2 : p1 + (lex0 (T.drop p1)).2 = p2 at N9
    k_steps
    refine Mark.intro ?_
    have q5 := lex0_reads (T.drop p2)
    have q6 := cntN_le (T.drop p2) (lex0 (T.drop p2)).2
    rw [List.length_drop] at q5 q6
    k_dflt (refine' Does.use (does_token w _ _ _ _ _ _ _ _ _ _ _ _ _ _ _ _ _ _ p2 _ 0 _ _ _ _ T hR ?hp ?hn ap ?hpb) ?z1 ?z2 ?z3 N9 ?z5 ?z6 ?z7 ?z8 ?_; (case z1 => k_asm); (case z2 => k_asm); (case z3 => k_asm); (case z5 => k_asm); (case z6 => first | exact rfl | assumption); (case z7 => ktr_room); (case z8 => ktr_units); (case hp => exact rd_p2 hlen q1 hp1 q3 hp2); (case hn => exact rd_n2 hlen q2 q4); (case hpb => exact List.mem_append_right _ List.mem_cons_self))
    intro r9 tl9 h9 tk9 P9 F9 N9
    obtain ⟨tn9, tkp9, kp9, t9, e8, e9⟩ := P9
    subst e8
    subst e9
    unfold LG at N9
    simp only [List.cons_append, List.nil_append] at N9

    k_steps
    refine hRR _ _ ?_
    k_steps
    rename News _ _ _ _ => N10
    rename ∀ p : Addr × Obj, p ∈ (_ : List (Addr × Obj)) → @LT.lt Nat _ p.1 _ => L10
    k_dflt (refine' read_fin (news := news) ?ret ?F N10 hp1 hp2 ?hm ?hs L10 ?hs2; (case F => k_asm); (case hm => k_mem); (case hs => intro p hp; simp only [List.mem_cons] at hp; (rcases hp with hp | hp | hp); (subst hp; k_mem); (subst hp; k_mem); (repeat (first | exact hp | apply List.Mem.tail))); (case hs2 => intro p hp; simp only [List.mem_cons] at hp; (rcases hp with hp | hp | hp); (subst hp; k_mem); (subst hp; k_mem); (repeat (first | exact hp | apply List.Mem.tail))))
    intro r tl h' tk' hP F N
    refine ret r tl h' tk' ⟨_, _, hT ▸ hP, hcode, hdisj⟩ F N
theorem does_read1 (w : World) (news : List (Addr × Obj)) (x : Str) (tx : Tok) (hx : x.length ≤ 1000) (h178 : ∀ p ∈ news, p.1 ≠ 178) :
   Does w 183 10 ((178, tabObj #[]) :: news) [.str x tx]
    (fun r tl => ∃ c' oc', RdP (sg (x ++ Str.ofString " end")) c' oc' news r tl ∧ codeOk oc' ∧ (∀ p ∈ (178, nestAt c') :: news, p.1 < c')) :=
  does_mono (does_readG w news [] _ (.inl ⟨rfl, rfl⟩) x tx hx h178) (Nat.le_refl _) fun _ _ ⟨c', oc', h, h1, h2⟩ => ⟨c', oc', h, h1, h2.elim (fun h => h.2) (fun h => nomatch h)⟩
theorem does_read2 (w : World) (news : List (Addr × Obj)) (x : Str) (tx : Tok) (c' : Addr) (oc' : Obj) (hcode : codeOk oc') (hx : x.length ≤ 1000) (h178 : ∀ p ∈ news, p.1 ≠ 178) :
   Does w 183 10 ((178, nestAt c') :: (c', oc') :: news) [.str x tx]
    (RdP (sg (x ++ Str.ofString " end")) c' oc' news) :=
  does_mono (does_readG w news [(c', oc')] _ (.inr ⟨c', oc', rfl, rfl, hcode⟩) x tx hx h178) (Nat.le_refl _) fun _ _ ⟨c2, oc2, h, _, h2⟩ => by
    rcases h2 with h2 | h2
    · exact nomatch h2.1
    · cases h2; exact h
end Mine
end
section
example : True := by w_top off; trivial
open PySem PySem.W PyProof.Rows PyProof.Rows.LCg
namespace Mine
inductive PreJ (x y : Str) (m₀ : Str → Option Value) (nw : List (Addr × Obj)) (n : Nat) (m₁ : Str → Option Value) (nx : List (Addr × Obj)) : Prop
  | mk (p : Int) (t : Tok) (h1 : nw = nx) (h2 : But [Str.ofString "pre"] m₀ m₁) (h3 : m₁ (Str.ofString "pre") = some (.int p t)) (h4 : n = x.length - p.toNat) (h5 : 0 ≤ p) (h6 : p ≤ x.length) (h7 : p ≤ y.length) (h8 : (sg x).take p.toNat = (sg y).take p.toNat) : PreJ x y m₀ nw n m₁ nx
inductive PreD (x y : Str) (m₀ : Str → Option Value) (nw : List (Addr × Obj)) (m₁ : Str → Option Value) (nx : List (Addr × Obj)) : Prop
  | mk (p : Int) (t : Tok) (h1 : nw = nx) (h2 : But [Str.ofString "pre"] m₀ m₁) (h3 : m₁ (Str.ofString "pre") = some (.int p t)) (h4 : 0 ≤ p) (h5 : p ≤ x.length) (h6 : p ≤ y.length) (h7 : (sg x).take p.toNat = (sg y).take p.toNat) (h8 : (∀ c d, (sg x)[p.toNat]? = some c → (sg y)[p.toNat]? = some d → c ≠ d)) : PreD x y m₀ nw m₁ nx
inductive PostJ (x1 y1 : Str) (m₀ : Str → Option Value) (nw : List (Addr × Obj)) (n : Nat) (m₁ : Str → Option Value) (nx : List (Addr × Obj)) : Prop
  | mk (q : Int) (t : Tok) (h1 : nw = nx) (h2 : But [Str.ofString "post"] m₀ m₁) (h3 : m₁ (Str.ofString "post") = some (.int (-q) t)) (h4 : n = x1.length - q.toNat) (h5 : 0 ≤ q) (h6 : q ≤ x1.length) (h7 : q ≤ y1.length) (h8 : (sg x1).drop (x1.length - q.toNat) = (sg y1).drop (y1.length - q.toNat)) : PostJ x1 y1 m₀ nw n m₁ nx
inductive PostD (x1 y1 : Str) (m₀ : Str → Option Value) (nw : List (Addr × Obj)) (m₁ : Str → Option Value) (nx : List (Addr × Obj)) : Prop
  | mk (q : Int) (t : Tok) (h1 : nw = nx) (h2 : But [Str.ofString "post"] m₀ m₁) (h3 : m₁ (Str.ofString "post") = some (.int (-q) t)) (h4 : 0 ≤ q) (h5 : q ≤ x1.length) (h6 : q ≤ y1.length) (h7 : (sg x1).drop (x1.length - q.toNat) = (sg y1).drop (y1.length - q.toNat)) (h8 : (∀ c d, ((sg x1).take (x1.length - q.toNat)).getLast? = some c → ((sg y1).take (y1.length - q.toNat)).getLast? = some d → c ≠ d)) : PostD x1 y1 m₀ nw m₁ nx
inductive SwapD (x1 y1 : Str) (q : Int) (m₀ : Str → Option Value) (nw : List (Addr × Obj)) (m₁ : Str → Option Value) (nx : List (Addr × Obj)) : Prop
  | mk (h0 : nw = nx) (xa xb : Str) (ta tb : Tok) (h1 : But [Str.ofString "a", Str.ofString "b"] m₀ m₁) (h2 : m₁ (Str.ofString "a") = some (.str xa ta)) (h3 : m₁ (Str.ofString "b") = some (.str xb tb)) (h4 : ((xa = cutS x1 q ∧ xb = cutS y1 q) ∨ (xa = cutS y1 q ∧ xb = cutS x1 q))) (h5 : xa.length ≤ xb.length) : SwapD x1 y1 q m₀ nw m₁ nx
inductive OutJK (xa xb : Str) (m₀ : Str → Option Value) (i : Nat) (m₁ : Str → Option Value) (nx : List (Addr × Obj)) (e : Addr × Obj) (rest : List (Addr × Obj)) : Prop
  | mk (vs : List Value) (ns : List Int) (k : Nat) (h1 : nx = (e.1, W.listOf vs.toArray k) :: rest) (h2 : IntsAre vs ns) (h3 : RowIs (sg xa) ((sg xb).take i).reverse ns) (h4 : But [Str.ofString "bindex", Str.ofString "bchar", Str.ofString "distance", Str.ofString "result", Str.ofString "minimum", Str.ofString "index", Str.ofString "substitute", Str.ofString "insert_delete"] m₀ m₁) (h5 : (i = 0 ∨ ∃ t, m₁ (Str.ofString "result") = some (.int (EE subA (sg xa) ((sg xb).take i).reverse (sg xa).length) t))) : OutJK xa xb m₀ i m₁ nx e rest
noncomputable abbrev OutJ (xa xb : Str) (nw : List (Addr × Obj)) (m₀ : Str → Option Value) (i : Nat) (m₁ : Str → Option Value) (nx : List (Addr × Obj)) : Prop := match nw with
  | e :: rest => OutJK xa xb m₀ i m₁ nx e rest
  | _ => False
inductive InJK (xa xb : Str) (i yb : Nat) (m₀ : Str → Option Value) (j : Nat) (m₁ : Str → Option Value) (nx : List (Addr × Obj)) (eI : Addr × Obj) (e : Addr × Obj) (rest : List (Addr × Obj)) : Prop
  | mk (vs : List Value) (ns : List Int) (k : Nat) (td : Tok) (tr : Tok) (tm : Tok) (M : Int) (h1 : nx = eI :: (e.1, W.listOf vs.toArray k) :: rest) (h2 : IntsAre vs ns) (h3 : RowAt (sg xa) ((sg xb).take i).reverse yb j ns) (h4 : But [Str.ofString "distance", Str.ofString "result", Str.ofString "minimum", Str.ofString "index", Str.ofString "substitute", Str.ofString "insert_delete"] m₀ m₁) (h5 : m₁ (Str.ofString "distance") = some (.int (EE subA (sg xa) ((sg xb).take i).reverse j) td)) (h6 : m₁ (Str.ofString "result") = some (.int (leftOf (sg xa) ((sg xb).take i).reverse yb j) tr)) (h7 : m₁ (Str.ofString "minimum") = some (.int M tm)) (h8 : (∀ j', j' < j → M ≤ EE subA (sg xa) (yb :: ((sg xb).take i).reverse) (j' + 1))) : InJK xa xb i yb m₀ j m₁ nx eI e rest
noncomputable abbrev InJ (xa xb : Str) (i yb : Nat) (nw : List (Addr × Obj)) (m₀ : Str → Option Value) (j : Nat) (m₁ : Str → Option Value) (nx : List (Addr × Obj)) : Prop := match nw with
  | eI :: e :: rest => InJK xa xb i yb m₀ j m₁ nx eI e rest
  | _ => False
theorem But.under {xs ys : List Str} {m₀ m m₁ : Str → Option Value} (h : But xs m₀ m) (hs : ys.all (fun z => xs.contains z) = true) : But xs m₀ (fun z => if ys.contains z = true then m₁ z else m z) := by
  intro z hz
  refine (if_neg fun e => ?_).trans (h z hz)
  have := List.all_eq_true.mp hs z (List.contains_iff_mem.mp e)
  rw [hz] at this; cases this
theorem c_of {n : Nat} {L p : Int} (p0 : 0 ≤ p) (px : p ≤ n) (f : (0 ≤ p → p ≤ n → L = n - p) ∧ ((n : Int) ≤ p → L = 0)) (h : L ≠ 0) : p < n := by have := f.1 p0 px; omega
theorem o_of {n : Nat} {L p : Int} (p0 : 0 ≤ p) (px : p ≤ n) (f : (0 ≤ p → p ≤ n → L = n - p) ∧ ((n : Int) ≤ p → L = 0)) (h : L = 0) : (n : Int) ≤ p := by have := f.1 p0 px; omega
theorem dec1 {n : Nat} {p : Int} (p0 : 0 ≤ p) (c : p < n) : n - (p + 1).toNat < n - p.toNat := by omega
theorem lt2 {n : Nat} {L q : Int} (f : L = n - q) (h : L ≠ 0) (hq : q ≤ n) : q < n := by omega
theorem out2 {n : Nat} {L q : Int} (f : L = n - q) (h : L = 0) : (n : Int) ≤ q := by omega
theorem fit_p {p : Int} {n : Nat} (p0 : 0 ≤ p) (px : p ≤ n) (hn : n ≤ 1000) : fitsSsize p = true := fitsSsize_of (N := 9223372036854775808) (by omega) (by omega) (Int.le_refl _)
theorem fit_q {q : Int} {n : Nat} (p0 : 0 ≤ q) (px : q ≤ n) (hn : n ≤ 1000) : fitsSsize (-q - 1) = true := fitsSsize_of (N := 9223372036854775808) (by omega) (by omega) (Int.le_refl _)
theorem fit_i {i n : Nat} (h : i < n) (hn : n ≠ 0 ∧ n ≤ 40) : fitsSsize (i : Int) = true := fitsSsize_of (N := 9223372036854775808) (by omega) (by omega) (Int.le_refl _)
theorem neg_p {p : Int} {n : Nat} (p0 : 0 ≤ p) : -(n : Int) ≤ p := by omega
theorem neg_q {q : Int} {n : Nat} (c : q < n) : -(n : Int) ≤ -q - 1 := by omega
theorem lt_q {q : Int} {n : Nat} (q0 : 0 ≤ q) : -q - 1 < n := by omega
theorem k0q {q : Int} {n : Nat} (p0 : 0 ≤ q) (px : q ≤ n) (hn : n ≤ 1000) : -2000 ≤ -q ∧ -q ≤ 2000 := by omega
theorem neg1 (q : Int) : -q - 1 = -(q + 1) := by omega
theorem nat_ne {n : Nat} (h : (n : Int) ≠ 0) : n ≠ 0 := by omega
theorem nat_z {n : Nat} (h : (n : Int) = 0) : n = 0 := by omega
theorem le_40 {n : Nat} (h : ¬ (40 : Int) < n) : n ≤ 40 := by omega
theorem gt_40 {n : Nat} (h : (40 : Int) < n) : 40 < n := by omega
local macro_rules | `(tactic| walk_at "exec While") => `(tactic| (k_here; (with_reducible show wpAny _ _ (exec (Stmt.While _ _ _ _) _) _ _ _); refine Mark.out ?_))
local macro_rules | `(tactic| walk_at "WEnd") => `(tactic| (k_here; (with_reducible show WEnd _ _ _ _ _); refine Mark.out ?_))
local macro_rules | `(tactic| walk_at "exec If") => `(tactic| (k_here; (with_reducible show wpAny _ _ (exec (Stmt.If _ [Stmt.Assign [Expr.Tuple _ _ _] _ _] _ _) _) _ _ _); refine Mark.out ?_))
local macro_rules | `(tactic| walk_at "NEnd") => `(tactic| (k_here; (with_reducible show NEnd _ _ _ _ _ _); refine Mark.out ?_))
local macro_rules | `(tactic| walk_at "call type:list") => `(tactic| (k_here; (with_reducible show wpAny _ _ (call (Value.type _) [Value.ref _]) _ _ _); refine Mark.out ?_))
local macro_rules | `(tactic| walk_at "pyIter ref") => `(tactic| (k_here; (with_reducible show wpAny _ _ _ (ForSrc _ _ _ _ _ _ _ _ _) _ _); refine Mark.out ?_))
local macro_rules | `(tactic| walk_at "exec For Name Call cons nil") => `(tactic| (k_here; k_dflt (refine' for_walk ?t0 ?_ ?t2 ?t3; (case t0 => k_asm); (case t2 => (intro _; rfl)); (case t3 => passes_own))))
local macro_rules | `(tactic| walk_at "call ref") => `(tactic| (k_here; k_search (does_sub _ _ _ _ _ _ ?za ?zb); (case za => first | assumption | omega); (case zb => first | assumption | omega); walk_at "used"))
local macro_rules | `(tactic| walk_at "XX") => `(tactic| (k_here; (with_reducible show wpAny _ _ (exec (Stmt.Assign [Expr.Name (Str.ofString "row") _] _ _) _) _ _ _); refine Mark.out ?_))
local macro_rules | `(tactic| walk_at "execs cons") => `(tactic| (k_here; (with_reducible show wpAny _ _ (execs [Stmt.AugAssign _ _ _ _] _) _ _ _); k_dflt (refine' aug_post ?kF ?kN ?kq ?k0 ?kk ?kl ?_; (case kF => k_asm); (case kN => k_asm); (case kq => exact rfl); (case k0 => exact k0q (by assumption) (by assumption) (by assumption)); (case kk => exact rfl); (case kl => exact rfl)); intro t' h' tk' F' N'; refine Mark.out ?_))
local macro_rules | `(tactic| walk_at "eval Subscript") => `(tactic| (k_here; (with_reducible show wpAny _ _ (eval (Expr.Subscript _ (Expr.Slice none _ _ _) _) _) _ _ _); k_dflt (refine' eval_cut ?kF ?kN ?kx ?kq ?k0 ?kz ?kd ?kk ?kl ?kl2 ?_; (case kF => k_asm); (case kN => k_asm); (case kx => exact rfl); (case kq => exact rfl); (case k0 => assumption); (case kz => omega); (case kd => decide +kernel); (case kk => exact rfl); (case kl => exact rfl); (case kl2 => exact rfl)); intro t' h' tk' F' N'))
local macro_rules | `(tactic| walk_at "subscriptTail Name Name str int") => `(tactic| (k_here; k_dflt (refine' item_str ?k1 ?k2 ?k3 ?_ ?k4 ?k5; (case k1 => first | exact fit_p (by assumption) (by assumption) (by assumption) | exact fit_i (by assumption) (by assumption)); (case k2 => exact neg_p (by first | assumption | exact Int.natCast_nonneg _)); (case k3 => first | exact c_of (by assumption) (by assumption) (by assumption) (by assumption) | exact Int.ofNat_lt.mpr (by assumption)); (case k4 => with_unfolding_all rfl); (case k5 => (intro _; with_unfolding_all rfl))); intro _))
local macro_rules | `(tactic| walk_at "subscriptTail Name BinOp str int") => `(tactic| (k_here; k_dflt (refine' item_str ?k1 ?k2 ?k3 ?_ ?k4 ?k5; (case k1 => exact fit_q (by assumption) (by assumption) (by assumption)); (case k2 => exact neg_q (lt2 (by assumption) (by assumption) (by assumption))); (case k3 => exact lt_q (by assumption)); (case k4 => with_unfolding_all rfl); (case k5 => (intro _; with_unfolding_all rfl))); intro _))
theorem but_here {x : Str} {v : Option Value} {m₀ : Str → Option Value} : But [x] m₀ (fun z => if z = x then v else m₀ z) := but_set fun _ _ => rfl
set_option maxRecDepth 100000 in
set_option maxHeartbeats 8000000 in
theorem does_lev (w : World) (news : List (Addr × Obj)) (x y : Str) (mc : Int) (tx ty tm : Tok) (hx : x.length ≤ 1000) (hy : y.length ≤ 1000) (hm : -1000000000000 ≤ mc ∧ mc ≤ 1000000000000) (ax : ∀ c ∈ sg x, c < 128) (ay : ∀ c ∈ sg y, c < 128) : Does w 35 3 news [.str x tx, .str y ty, .int mc tm]
   (fun r tl => tl = news ∧ ∃ v t, r = .int v t ∧ LevPost subA (sg x) (sg y) mc v) := by
  intro mean mg mb dp un gd cn cs a₀ ccd cl outer A₀ base h₀ L m s Q E B F X N T hk hd hu ret
  refine wpAny_call ?_
  k_dflt cell_enter
  rename Fr _ _ _ _ => F0
  refine frZ F0 ?_
  clear F0
  intro mZ FZ
  k_steps
  · exact ret _ _ _ _ ⟨rfl, _, _, rfl, lev_eq (by assumption)⟩ (by k_asm) (by k_asm)
  have hne : (x == y) = false := by assumption
  refine Mark.intro ?_
  rename Fr _ _ _ _ => F1
  rename News _ _ _ _ => N1
  have hsx := sgl x
  have hsy := sgl y
  refine while_end (n₀ := x.length) (PreJ x y)
    (PreD x y) F1 N1 ⟨0, _, rfl, But.refl, if_pos rfl, by simp, Int.le_refl 0, Int.natCast_nonneg _, Int.natCast_nonneg _, rfl⟩ ?turn ?done
  case turn =>
    clear F1 N1
    rintro n m₁ nx h tk F2 N2 ⟨p, t, rfl, hb, hm1, rfl, p0, px, py, hpre⟩
    have F3 := frW1 F2 hb hm1
    clear F2 hb hm1
    k_steps
    all_goals rename Fr _ _ _ _ => FF
    all_goals rename News _ _ _ _ => NN
    · have c1 := c_of p0 px (by assumption) (by assumption)
      have c2 := c_of p0 py (by assumption) (by assumption)
      exact wstep_intro FF NN (dec1 p0 c1) ⟨p + 1, _, rfl, but_set (fun z hz => if_neg hz), if_pos rfl, rfl, Int.le_add_one p0, c1, c2, pre_step p0 c1 c2 hpre (by assumption)⟩
    all_goals refine Mark.intro ?_
    · exact WEnd.intro FF NN ⟨p, _, rfl, but_here, if_pos rfl, p0, px, py, hpre, pre_stop p0 (c_of p0 px (by assumption) (by assumption)) (c_of p0 py (by assumption) (by assumption)) (by assumption)⟩
    · exact WEnd.intro FF NN ⟨p, _, rfl, but_here, if_pos rfl, p0, px, py, hpre, pre_out (by first | exact .inl (o_of p0 px (by assumption) (by assumption)) | exact .inr (o_of p0 py (by assumption) (by assumption)))⟩
    · exact WEnd.intro FF NN ⟨p, _, rfl, but_here, if_pos rfl, p0, px, py, hpre, pre_out (by first | exact .inl (o_of p0 px (by assumption) (by assumption)) | exact .inr (o_of p0 py (by assumption) (by assumption)))⟩
  case done =>
    clear F1 N1
    rintro h tk m₁ nx F2 N2 ⟨p, t, rfl, hb, hm1, p0, px, py, hpre, hst⟩
    have F3 := frW1 F2 hb hm1
    clear F2 hb hm1
    k_steps
    refine Mark.intro ?_
    rename Fr _ _ _ _ => F1
    rename News _ _ _ _ => N1
    have e1 := slice_from x p p0 px
    have e2 := slice_from y p p0 py
    dsimp +zetaDelta only at F1
    generalize Txt.slice x (some p) none = x1 at F1 e1
    generalize Txt.slice y (some p) none = y1 at F1 e2
    refine frZ F1 ?_
    clear F1
    intro mY F1
    have e1 : sg x1 = (sg x).drop p.toNat := by rw [e1, sg_ofL]
    have e2 : sg y1 = (sg y).drop p.toNat := by rw [e2, sg_ofL]
    have lx1 : x1.length ≤ 1000 := by rw [length_sg, e1, List.length_drop, sgl]; exact Nat.le_trans (Nat.sub_le _ _) hx
    have ly1 : y1.length ≤ 1000 := by rw [length_sg, e2, List.length_drop, sgl]; exact Nat.le_trans (Nat.sub_le _ _) hy
    refine while_end (n₀ := x1.length) (PostJ x1 y1)
      (PostD x1 y1) F1 N1
      ⟨0, _, rfl, But.refl, if_pos rfl, by simp, Int.le_refl 0, Int.natCast_nonneg _, Int.natCast_nonneg _, by rw [List.drop_of_length_le (by rw [sgl]; simp), List.drop_of_length_le (by rw [sgl]; simp)]⟩ ?turn2 ?done2
    case turn2 =>
      clear F1 N1
      rintro n m₁ nx h tk F2 N2 ⟨q, t, rfl, hb, hm1, rfl, q0, qx, qy, hpost⟩
      have F3 := frW1 F2 hb hm1
      clear F2 hb hm1
      have f1 := cutS_len x1 q q0 qx
      have f2 := cutS_len y1 q q0 qy
      k_steps
      all_goals rename Fr _ _ _ _ => FF
      all_goals rename News _ _ _ _ => NN
      all_goals first
        | (refine Mark.intro ?_; exact wstep_intro FF NN (dec1 q0 (lt2 f1 (by assumption) qx)) ⟨q + 1, _, rfl, but_set (fun z hz => if_neg hz), (if_pos rfl).trans (congrArg some (eqI (neg1 q))), rfl, Int.le_add_one q0, lt2 f1 (by assumption) qx, lt2 f2 (by assumption) qy, post_step q0 (lt2 f1 (by assumption) qx) (lt2 f2 (by assumption) qy) hpost (by assumption)⟩)
        | (refine Mark.intro ?_; exact WEnd.intro FF NN ⟨q, _, rfl, but_here, if_pos rfl, q0, qx, qy, hpost, post_stop q0 (lt2 f1 (by assumption) qx) (lt2 f2 (by assumption) qy) (by assumption)⟩)
        | (refine Mark.intro ?_; exact WEnd.intro FF NN ⟨q, _, rfl, but_here, if_pos rfl, q0, qx, qy, hpost, post_out q0 (by first | exact .inl (out2 f1 (by assumption)) | exact .inr (out2 f2 (by assumption)))⟩)
    case done2 =>
      clear F1 N1
      rintro h tk m₁ nx F2 N2 ⟨q, t, rfl, hb, hm1, q0, qx, qy, hpost, hst2⟩
      have F3 := frW1 F2 hb hm1
      clear F2 hb hm1
      have hcut : Cut (sg x) (sg y) (sg (cutS x1 q)) (sg (cutS y1 q)) := cut_of p0 px py hpre hst e1 e2 q0 qx qy hpost hst2
      have f1 := cutS_len x1 q q0 qx
      have f2 := cutS_len y1 q q0 qy
      have a1 : ∀ c ∈ sg (cutS x1 q), c < 128 := fun c hc => ax c (by have := List.mem_of_mem_take hc; rw [e1] at this; exact List.mem_of_mem_drop this)
      have a2 : ∀ c ∈ sg (cutS y1 q), c < 128 := fun c hc => ay c (by have := List.mem_of_mem_take hc; rw [e2] at this; exact List.mem_of_mem_drop this)
      clear hpost hst2 hst e1 e2 hpre
      k_steps
      all_goals first
        | exact ret _ _ _ _ ⟨rfl, _, _, rfl, lev_fin2 hne hcut (by first | assumption | exact nat_ne (by assumption) | omega) (by first | assumption | exact nat_ne (by assumption) | omega) (by first | exact .inl (gt_40 (by assumption)) | exact .inr (gt_40 (by assumption)) | omega)⟩ (by k_asm) (by k_asm)
        | exact ret _ _ _ _ ⟨rfl, _, _, rfl, lev_fin1 hne hcut (by first | exact .inl (by assumption) | exact .inr (by assumption) | exact .inl (nat_z (by assumption)) | exact .inr (nat_z (by assumption)) | omega)⟩ (by k_asm) (by k_asm)
        | skip
      refine Mark.intro ?_
      rename Fr _ _ _ _ => F1
      rename News _ _ _ _ => N1
      have ne1 : (cutS x1 q).length ≠ 0 := by first | assumption | exact nat_ne (by assumption) | omega
      have ne2 : (cutS y1 q).length ≠ 0 := by first | assumption | exact nat_ne (by assumption) | omega
      have le1 : (cutS x1 q).length ≤ 40 := le_40 (by assumption)
      have le2 : (cutS y1 q).length ≤ 40 := le_40 (by assumption)
      refine if_join (SwapD x1 y1 q) F1 N1 ?turn3 ?done3
      case turn3 =>
        k_steps
        all_goals rename Fr _ _ _ _ => FF
        all_goals rename News _ _ _ _ => NN
        all_goals refine Mark.intro ?_
        · exact NEnd.intro FF (cb_drop NN (fun p hp => List.mem_cons_of_mem _ hp)) ⟨rfl, _, _, _, _, (by (repeat (first | exact But.refl | exact But.base | refine But.set ?_ (by rfl) | refine But.under ?_ (by rfl)))), rfl, rfl, .inr ⟨rfl, rfl⟩, by first | exact Nat.le_of_lt (Int.ofNat_lt.mp (by assumption)) | omega⟩
        · exact NEnd.intro FF NN ⟨rfl, _, _, _, _, But.refl, rfl, rfl, .inl ⟨rfl, rfl⟩, by first | exact Int.ofNat_le.mp (Int.not_lt.mp (by assumption)) | omega⟩
      case done3 =>
        clear F1 N1
        rintro h tk m₁ nx F2 N2 ⟨rfl, xa, xb, ta, tb, hb, hma, hmb, hab, hle⟩
        have F3 := frW2 F2 hb hma hmb
        clear F2 hb hma hmb
        have hmid : Mid x y xa xb := by
          rcases hab with ⟨rfl, rfl⟩ | ⟨rfl, rfl⟩
          · exact .inl hcut
          · exact .inr hcut
        have la : xa.length ≠ 0 ∧ xa.length ≤ 40 := by
          rcases hab with ⟨rfl, rfl⟩ | ⟨rfl, rfl⟩
          · exact ⟨ne1, le1⟩
          · exact ⟨ne2, le2⟩
        have lb : xb.length ≠ 0 ∧ xb.length ≤ 40 := by
          rcases hab with ⟨rfl, rfl⟩ | ⟨rfl, rfl⟩
          · exact ⟨ne2, le2⟩
          · exact ⟨ne1, le1⟩
        have ca : ∀ c ∈ sg xa, c < 128 := by rcases hab with ⟨rfl, rfl⟩ | ⟨rfl, rfl⟩ <;> assumption
        have cb : ∀ c ∈ sg xb, c < 128 := by rcases hab with ⟨rfl, rfl⟩ | ⟨rfl, rfl⟩ <;> assumption
        clear hab hcut f1 f2 a1 a2 ne1 ne2 le1 le2
        k_steps
        · exact ret _ _ _ _ ⟨rfl, _, _, rfl, lev_fin hne hmid la.1 lb.1 (.inl ⟨rfl, by omega⟩)⟩ (by k_asm) (by k_asm)
        refine Mark.intro ?_
        have hfit : 2 * ((xb.length : Int) - xa.length) ≤ mc := by omega
        rename Fr _ _ _ _ => F1
        rename News _ _ _ _ => N1
        rename IsRange _ _ _ _ _ _ _ _ => R1
        obtain ⟨r1, r2⟩ := range2_ok xa.length la.2
        refine list_range_N rfl F1 N1 R1 r1 r2 (by omega) ?_
        clear F1 N1 R1
        intro D9 h9 tk9 vs k9 F9 N9 l9 hvl hvs
        have hrow := row_of_range (a := sg xa) (n := xa.length) (sgl xa).symm
        generalize ((List.range xa.length).map fun i : Nat => (2 : Int) + (i : Int) * 2) = ns at hvs hrow
        k_steps
        refine Mark.intro ?_
        rename Fr _ _ _ _ => F1
        rename News _ _ _ _ => N1
        rename IsRange _ _ _ _ _ _ _ _ => R2
        obtain ⟨s1, s2⟩ := range1_ok xb.length (by omega)
        refine for_range (n := xb.length) (OutJ xa xb) rfl F1 N1 R2 rfl s1 s2 ⟨vs, ns, k9, rfl, hvs, hrow, But.refl, .inl rfl⟩ ?turn4 ?done4
        case turn4 =>
          clear F1 N1 R2 hvs hrow hvl r1 r2 s1 s2
          rintro i t4 m₁ nx I4 oI4 g4 h4 tk4 hi ⟨vs, ns, k, rfl, hvs, hrow, hb, hres⟩ hoff hlt F2 N2
          have F3 := hb.fr F2
          clear F2 hb hres
          obtain ⟨yb, hyb⟩ : ∃ yb, (sg xb)[i]? = some yb := ⟨_, List.getElem?_eq_getElem (by rw [sgl]; exact hi)⟩
          have aI4 := ltN (hlt _ (List.mem_cons_self ..))
          dsimp only at aI4
          have hBl := revlen hi
          have hEE := fun j => EE_bound subA_ok.nn (sg xa) ((sg xb).take i).reverse j
          have hLL := fun j => leftOf_bound (sg xa) ((sg xb).take i).reverse yb j
          have hsxa := sgl xa
          k_steps
          refine Mark.intro ?_
          rename Fr _ _ _ _ => F1
          rename News _ _ _ _ => N1
          rename IsRange _ _ _ _ _ _ _ _ => R3
          obtain ⟨u1, u2⟩ := range1_ok xa.length (by omega)
          refine for_range (n := xa.length) (InJ xa xb i yb) rfl F1 N1 R3 rfl u1 u2 ⟨vs, ns, k, _, _, _, _, rfl, hvs, RowAt.zero hrow, But.refl, intv rfl (by rw [EE_zero, hBl]; omega), intv rfl (by rw [left_zero, hBl]; omega), rfl, fun j' hj' => absurd hj' (Nat.not_lt_zero _)⟩ ?turn5 ?done5
          case turn5 =>
            clear F1 N1 R3 hvs hrow u1 u2 hBl hsxa
            rintro j t5 m₁ nx I5 oI5 g5 h5 tk5 hj ⟨vs, ns, k, td, tr, tm, M, rfl, hvs, hrow, hb, hd1, hr1, hm1, hM⟩ hoff5 hlt5 F2 N2
            have F3 := frSet (x := Str.ofString "minimum") (frSet (x := Str.ofString "result") (frSet (x := Str.ofString "distance") (hb.fr F2) hd1) hr1) hm1
            clear F2 hb hd1 hr1 hm1
            have b1 := ltN (hlt5 _ (List.mem_cons_self ..))
            have b2 := ltN (hlt5 _ (List.mem_cons_of_mem _ (List.mem_cons_self ..)))
            dsimp only at b1 b2
            obtain ⟨xc, hxc⟩ : ∃ c, (sg xa)[j]? = some c := ⟨_, List.getElem?_eq_getElem (by rw [sgl]; exact hj)⟩
            have hnl : ns.length = xa.length := by rw [hrow.1, sgl]
            have hg := hrow.get (by rw [sgl]; exact hj)
            k_steps
            all_goals rename Fr _ _ _ _ => FF
            all_goals rename News _ _ _ _ => NN
            all_goals have hv := turn_eq (G := ns.getD j 0) hxc hg (sub_item hyb hxc cb ca)
            · exact ForEnd.next FF NN _ (fun p hp => hp) (off2 hoff5) trivial ⟨_, _, _, _, _, _, _, rfl, by assumption, hrow.set (by rw [sgl]; exact hj) hv, (by (repeat (first | exact But.refl | exact But.base | refine But.set ?_ (by rfl) | refine But.under ?_ (by rfl)))), intv rfl hg, intv rfl (hv.trans (leftOf_succ _ _ _ _).symm), rfl, min_new (by assumption) hM hv⟩
            · exact ForEnd.next FF NN _ (fun p hp => hp) (off2 hoff5) trivial ⟨_, _, _, _, _, _, _, rfl, by assumption, hrow.set (by rw [sgl]; exact hj) hv, (by (repeat (first | exact But.refl | exact But.base | refine But.set ?_ (by rfl) | refine But.under ?_ (by rfl)))), intv rfl hg, intv rfl (hv.trans (leftOf_succ _ _ _ _).symm), rfl, min_old (by assumption) hM hv⟩
          case done5 =>
            clear F1 N1 R3 hvs hrow u1 u2
            rintro h6 tk6 m₁ nx F2 N2 ⟨vs, ns, k, td, tr, tm, M, rfl, hvs, hrow, hb, hd1, hr1, hm1, hM⟩
            have F3 := frSet (x := Str.ofString "minimum") (frSet (x := Str.ofString "result") (hb.fr F2) hr1) hm1
            clear F2 hb hd1 hr1 hm1
            k_steps
            · (try dsimp only)
              unfold ForEnd
              (try dsimp only)
              k_steps
              exact ret _ news _ _ ⟨rfl, _, _, rfl, lev_fin hne hmid la.1 lb.1 (.inr (.inl ⟨rfl, early (nn_of la.1) hyb (fun j' hj' => hM j' (by rw [← sgl]; exact hj')) (by assumption)⟩))⟩ (by k_asm) (by first | k_asm | (refine' cb_drop ?cbN ?cbS; (case cbN => assumption); (case cbS => (intro p hp; (repeat (first | exact hp | apply List.Mem.tail))))))
            · rename Fr _ _ _ _ => FF
              rename News _ _ _ _ => NN
              exact ForEnd.next FF NN _ (fun p hp => hp) (off1 hoff) trivial ⟨_, _, _, rfl, hvs, row_done rfl hyb hrow, (by (repeat (first | exact But.refl | exact But.base | refine But.set ?_ (by rfl) | refine But.under ?_ (by rfl)))), .inr ⟨_, intv rfl (res_done la.1 rfl hyb)⟩⟩
        case done4 =>
          clear F1 N1 R2 hvs hrow hvl r1 r2 s1 s2
          rintro h7 tk7 m₁ nx F2 N2 ⟨vs, ns, k, rfl, hvs, hrow, hb, hres⟩
          rcases hres with hres | ⟨t7, hres⟩
          · omega
          have F3 := frSet (x := Str.ofString "result") (hb.fr F2) hres
          clear F2 hb hres
          k_steps
          exact ret _ news _ _ ⟨rfl, _, _, rfl, lev_fin hne hmid la.1 lb.1 (.inr (.inr ⟨val_end, hfit, hle⟩))⟩ (by k_asm) (by first | k_asm | (refine' cb_drop ?cbN ?cbS; (case cbN => assumption); (case cbS => (intro p hp; (repeat (first | exact hp | apply List.Mem.tail))))))
end Mine
end
section
example : True := by w_top off; trivial
open PySem PySem.W PyProof.Rows PyProof.Rows.LCg
namespace Mine
/-- the deeds that an order tells -/
noncomputable def runD (q : Bool) : List Nat → List Int → List Int → List (Bool × Int)
  | [], _, _ => []
  | c :: os, hs, dr =>
    if c = 72 then (match hs with
      | h :: hs => (true, h.fmod (if q then 2 else 5)) :: runD q os hs dr
      | [] => [])
    else if q then (match dr with
      | x :: dr => (false, x) :: runD q os hs dr
      | [] => [])
    else (false, 0) :: runD q os hs dr
/-- enough hands and dresses are left -/
structure Fits (q : Bool) (os : List Nat) (hs dr : List Int) : Prop where
  a : ∀ c ∈ os, c = 72 ∨ c = 68
  b : os.count 72 ≤ hs.length
  c : os.count 68 ≤ dr.length
theorem Fits.hand {q : Bool} {os : List Nat} {hs dr : List Int} (f : Fits q (72 :: os) hs dr) : ∃ h r, hs = h :: r ∧ Fits q os r dr := by
  obtain ⟨a, b, c⟩ := f
  cases hs with
  | nil => simp at b
  | cons h r =>
    refine ⟨h, r, rfl, fun x hx => a x (List.mem_cons_of_mem _ hx), ?_, ?_⟩
    · simp at b; omega
    · simpa using c
theorem Fits.dress {q : Bool} {os : List Nat} {hs dr : List Int} (f : Fits q (68 :: os) hs dr) : ∃ x r, dr = x :: r ∧ Fits q os hs r := by
  obtain ⟨a, b, c⟩ := f
  cases dr with
  | nil => simp at c
  | cons x r =>
    refine ⟨x, r, rfl, fun y hy => a y (List.mem_cons_of_mem _ hy), ?_, ?_⟩
    · simpa using b
    · simp at c; omega
theorem Fits.plain {q : Bool} {os : List Nat} {hs dr : List Int} (f : Fits q (68 :: os) hs dr) : Fits q os hs dr := by
  obtain ⟨a, b, c⟩ := f
  exact ⟨fun y hy => a y (List.mem_cons_of_mem _ hy), by simpa using b, by simp at c; omega⟩
theorem dropc {os : List Nat} {i c : Nat} (h : os[i]? = some c) : os.drop i = c :: os.drop (i + 1) := by
  obtain ⟨hl, e⟩ := List.getElem?_eq_some_iff.mp h
  rw [List.drop_eq_getElem_cons hl, e]
theorem Deeds.mono {nw nw' : List (Addr × Obj)} (hs : ∀ p ∈ nw, p ∈ nw') : ∀ {vs : List Value} {ds : List (Bool × Int)}, Deeds nw vs ds → Deeds nw' vs ds
  | [], [], _ => trivial
  | _ :: _, _ :: _, h => by
    obtain ⟨⟨t, tk, e, hm⟩, h2⟩ := h
    exact ⟨⟨t, tk, e, hs _ hm⟩, Deeds.mono hs h2⟩
theorem Deeds.snoc {nw : List (Addr × Obj)} {vs : List Value} {ds : List (Bool × Int)} {t : Addr} {b : Bool} {n : Int} {tk : Tok} (h : Deeds nw vs ds) : Deeds ((t, tupO b n tk) :: nw) (vs ++ [.ref t]) (ds ++ [(b, n)]) :=
  Deeds.append (h.mono fun p hp => List.mem_cons_of_mem _ hp) ⟨⟨t, tk, rfl, List.mem_cons_self ..⟩, trivial⟩
theorem letH {c : Nat} (h : ((⟨#[c]⟩ : Str) == Str.ofString "H") = true) : c = 72 := by
  have e : Str.ofString "H" = ⟨#[72]⟩ := by decide +kernel
  rw [e] at h
  have := eq_of_beq h
  simpa using this
theorem letD {c : Nat} (h : ((⟨#[c]⟩ : Str) == Str.ofString "H") = false) (h2 : c = 72 ∨ c = 68) : c = 68 := by
  rcases h2 with rfl | h2
  · have e : Str.ofString "H" = ⟨#[72]⟩ := by decide +kernel
    rw [e] at h; simp at h
  · exact h2
theorem ints_cons {vs : List Value} {h : Int} {r : List Int} (x : IntsAre vs (h :: r)) : ∃ t us, vs = .int h t :: us ∧ IntsAre us r := by
  cases x with
  | cons _ t y => exact ⟨t, _, rfl, y⟩
theorem mem_turn {α : Type} {tp i d r h : α} {tu rest : List α} : ∀ p ∈ i :: d :: r :: h :: ((tp :: tu) ++ rest), p ∈ tp :: i :: d :: r :: h :: (tu ++ rest) := by
  intro p hp
  simp only [List.mem_cons, List.mem_append] at hp ⊢
  rcases hp with h | h | h | h | (h | h) | h <;> simp [h]
structure TuOk (ld lr lh : Addr) (tu rest : List (Addr × Obj)) : Prop where
  a : ∀ p ∈ tu, ld < p.1
  b : ∀ p ∈ tu, lr < p.1
  c : ∀ p ∈ tu, lh < p.1
  d : ∀ p ∈ tu, ∀ q ∈ rest, q.1 < p.1
theorem TuOk.offs {ld lr lh : Addr} {tu rest : List (Addr × Obj)} (t : TuOk ld lr lh tu rest) (h1 : ∀ p ∈ rest, p.1 < ld) (h2 : ∀ p ∈ rest, p.1 < lr) (h3 : ∀ p ∈ rest, p.1 < lh) : (∀ p ∈ tu ++ rest, p.1 ≠ ld) ∧ (∀ p ∈ tu ++ rest, p.1 ≠ lr) ∧ (∀ p ∈ tu ++ rest, p.1 ≠ lh) := by
  refine ⟨fun p hp => ?_, fun p hp => ?_, fun p hp => ?_⟩ <;> rcases List.mem_append.mp hp with hp | hp
  · exact Nat.ne_of_gt (t.a p hp)
  · exact Nat.ne_of_lt (h1 p hp)
  · exact Nat.ne_of_gt (t.b p hp)
  · exact Nat.ne_of_lt (h2 p hp)
  · exact Nat.ne_of_gt (t.c p hp)
  · exact Nat.ne_of_lt (h3 p hp)
noncomputable def ordL (k : Int) : List Nat := match k.toNat with
  | 0 => [68, 72, 68, 72]
  | 1 => [72, 68, 72, 68]
  | 2 => [68, 72, 72, 68]
  | 3 => [72, 68, 68, 72]
  | 4 => [68, 68, 72, 72]
  | _ => [72, 72, 68, 68]
theorem ord_fits (q : Bool) (k a b c d : Int) : Fits q (ordL k) [a, b] [c, d] := by
  unfold ordL
  split <;> exact ⟨by decide, by show (_ : Nat) ≤ 2; decide, by show (_ : Nat) ≤ 2; decide⟩
theorem item_ord {prog : Program} {w : World} {A : Around} {E : Value → Shared → Prop} {s : Shared} {h₀ : Heap} {L lo : Addr} {value slice : Expr} {i : Int} {u t0 t1 t2 t3 t4 t5 : Tok} {k : Nat} {rest : List (Addr × Obj)} {Q : Value → Shared → Prop}
    (N : News h₀ L s.heap ((lo, { cls := .type "list", data := .seq #[.str (Str.ofString "DHDH") t0, .str (Str.ofString "HDHD") t1, .str (Str.ofString "DHHD") t2, .str (Str.ofString "HDDH") t3, .str (Str.ofString "DDHH") t4, .str (Str.ofString "HHDD") t5] k }) :: rest))
    (h0 : 0 ≤ i) (h6 : i < 6) (h : ∀ y ty, sg y = ordL i → Q (.str y ty) s)
    (hs : subscripted slice false (.ref lo) (.int i u) = operate [.ref lo, .int i u] (getItem (.ref lo) (.int i u)) := by with_unfolding_all rfl) :
    wpAny (model prog w) A (subscriptTail value slice (.ref lo) (.int i u)) Q E s := by
  have hc : i = 0 ∨ i = 1 ∨ i = 2 ∨ i = 3 ∨ i = 4 ∨ i = 5 := by omega
  rcases hc with rfl | rfl | rfl | rfl | rfl | rfl
  · exact item_any (l := [.str _ t0, .str _ t1, .str _ t2, .str _ t3, .str _ t4, .str _ t5]) N (List.mem_cons_self ..) rfl h0 (by decide) (h _ _ (by decide +kernel)) hs
  · exact item_any (l := [.str _ t0, .str _ t1, .str _ t2, .str _ t3, .str _ t4, .str _ t5]) N (List.mem_cons_self ..) rfl h0 (by decide) (h _ _ (by decide +kernel)) hs
  · exact item_any (l := [.str _ t0, .str _ t1, .str _ t2, .str _ t3, .str _ t4, .str _ t5]) N (List.mem_cons_self ..) rfl h0 (by decide) (h _ _ (by decide +kernel)) hs
  · exact item_any (l := [.str _ t0, .str _ t1, .str _ t2, .str _ t3, .str _ t4, .str _ t5]) N (List.mem_cons_self ..) rfl h0 (by decide) (h _ _ (by decide +kernel)) hs
  · exact item_any (l := [.str _ t0, .str _ t1, .str _ t2, .str _ t3, .str _ t4, .str _ t5]) N (List.mem_cons_self ..) rfl h0 (by decide) (h _ _ (by decide +kernel)) hs
  · exact item_any (l := [.str _ t0, .str _ t1, .str _ t2, .str _ t3, .str _ t4, .str _ t5]) N (List.mem_cons_self ..) rfl h0 (by decide) (h _ _ (by decide +kernel)) hs
/-- what is true between the turns -/
structure DSt (q : Bool) (os : List Nat) (FD : List (Bool × Int)) (ld lr lh : Addr) (vs dv hv : List Value) (hs dr : List Int) (tu rest : List (Addr × Obj)) (ds : List (Bool × Int)) : Prop where
  f : Fits q os hs dr
  fd : FD = ds ++ runD q os hs dr
  hv : IntsAre hv hs
  dv : IntsAre dv dr
  d : Deeds tu vs ds
  t : TuOk ld lr lh tu rest
  l : vs.length + os.length = 4
  ln : hs.length ≤ 2 ∧ dr.length ≤ 2
theorem all_lt {lo d : Addr} {o : Obj} {news : List (Addr × Obj)} (h : lo < d ∧ AllLt d news) : ∀ p ∈ (lo, o) :: news, p.1 < d := List.forall_mem_cons.mpr ⟨h.1, allLt_mem h.2⟩
theorem mem_done {α : Type} {ld lr lh lo : α} {tu news : List α} : ∀ p ∈ ld :: (tu ++ news), p ∈ ld :: lr :: lh :: (tu ++ (lo :: news)) := by
  intro p hp
  simp only [List.mem_cons, List.mem_append] at hp ⊢
  rcases hp with h | h | h <;> simp [h]
theorem offD {ld lr lh tp I : Addr} {o o1 o2 o3 o1' o2' o3' : Obj} {tu rest : List (Addr × Obj)} (h : ∀ p ∈ (ld, o1) :: (lr, o2) :: (lh, o3) :: (tu ++ rest), p.1 ≠ I) (ht : I < tp) : ∀ p ∈ (ld, o1') :: (lr, o2') :: (lh, o3') :: (((tp, o) :: tu) ++ rest), p.1 ≠ I := by
  intro p hp
  simp only [List.mem_cons, List.mem_append] at hp
  rcases hp with e | e | e | (e | e) | e
  · rw [e]; exact h (ld, o1) (by simp)
  · rw [e]; exact h (lr, o2) (by simp)
  · rw [e]; exact h (lh, o3) (by simp)
  · rw [e]; exact Nat.ne_of_gt ht
  · exact h p (by simp [e])
  · exact h p (by simp [e])
theorem TuOk.more {ld lr lh tp : Addr} {o : Obj} {tu rest : List (Addr × Obj)} (t : TuOk ld lr lh tu rest) (h : ld < tp ∧ lr < tp ∧ lh < tp ∧ AllLt tp (tu ++ rest)) : TuOk ld lr lh ((tp, o) :: tu) rest :=
  ⟨List.forall_mem_cons.mpr ⟨h.1, t.a⟩, List.forall_mem_cons.mpr ⟨h.2.1, t.b⟩, List.forall_mem_cons.mpr ⟨h.2.2.1, t.c⟩, List.forall_mem_cons.mpr ⟨fun q hq => allLt_mem h.2.2.2 q (List.mem_append_right _ hq), t.d⟩⟩
local macro_rules | `(tactic| walk_at "subscriptTail") => `(tactic| (k_here; (with_reducible show wpAny _ _ (subscriptTail _ _ (Value.ref _) (Value.int _ _)) _ _ _); refine Mark.out ?_))
local macro_rules | `(tactic| walk_at "exec For Name Name cons nil") => `(tactic| (k_here; k_dflt (refine' for_walk ?t0 ?_ ?t2 ?t3; (case t0 => k_asm); (case t2 => (intro _; rfl)); (case t3 => passes_own))))
local macro_rules | `(tactic| walk_at "exec For") => `(tactic| (k_here; k_dflt (refine' for_walk ?t0 ?_ ?t2 ?t3; (case t0 => k_asm); (case t2 => (intro _; rfl)); (case t3 => passes_own))))
local macro_rules | `(tactic| walk_at "pyIter str") => `(tactic| (k_here; (with_reducible show wpAny _ _ _ (ForSrc _ _ _ _ _ _ _ _ _) _ _); refine Mark.out ?_))
local macro_rules | `(tactic| walk_at "call builtin:list.pop") => `(tactic| (k_here; (with_reducible show wpAny _ _ (call (Value.builtin _) [Value.ref _, Value.int _ _]) _ _ _); k_dflt (refine' pop0 ?zi ?zF ?zN ?zU ?zz ?_; (case zi => with_reducible rfl); (case zF => k_asm); (case zN => k_asm); (case zU => k_upd); (case zz => omega)); intro h' F' N'))
inductive DJK (q : Bool) (y : Str) (FD : List (Bool × Int)) (m₀ : Str → Option Value) (i : Nat) (m₁ : Str → Option Value) (nx : List (Addr × Obj)) (e1 : Addr × Obj) (e2 : Addr × Obj) (e3 : Addr × Obj) (rest : List (Addr × Obj)) : Prop
  | mk (vs : List Value) (dv : List Value) (hv : List Value) (k1 : Nat) (k2 : Nat) (k3 : Nat) (hs : List Int) (dr : List Int) (tu : List (Addr × Obj)) (ds : List (Bool × Int)) (h1 : nx = (e1.1, W.listOf vs.toArray k1) :: (e2.1, W.listOf dv.toArray k2) :: (e3.1, W.listOf hv.toArray k3) :: (tu ++ rest)) (h2 : DSt q ((sg y).drop i) FD e1.1 e2.1 e3.1 vs dv hv hs dr tu rest ds) (h3 : But [Str.ofString "letter"] m₀ m₁) (h4 : (∀ p ∈ rest, p.1 < e1.1)) (h5 : (∀ p ∈ rest, p.1 < e2.1)) (h6 : (∀ p ∈ rest, p.1 < e3.1)) (h7 : e2.1 < e1.1) (h8 : e3.1 < e1.1) (h9 : e3.1 < e2.1) : DJK q y FD m₀ i m₁ nx e1 e2 e3 rest
noncomputable abbrev DJ (q : Bool) (y : Str) (FD : List (Bool × Int)) (nw : List (Addr × Obj)) (m₀ : Str → Option Value) (i : Nat) (m₁ : Str → Option Value) (nx : List (Addr × Obj)) : Prop := match nw with
  | e1 :: e2 :: e3 :: rest => DJK q y FD m₀ i m₁ nx e1 e2 e3 rest
  | _ => False
set_option maxRecDepth 100000 in
set_option maxHeartbeats 8000000 in
theorem does_deeds (w : World) (news : List (Addr × Obj)) (c d : Int) (tc td : Tok) : Does w 140 3 news [.int c tc, .int d td]
   (fun r tl => ∃ a k vs tu, r = .ref a ∧ tl = (a, W.listOf vs.toArray k) :: (tu ++ news) ∧ Deeds tu vs (runD ((c.fdiv 6).fmod 2 == 0) (ordL (c.fmod 6)) [d.fmod 10, (d.fdiv 10).fmod 10] [(d.fdiv 100).fmod 2, (d.fdiv 200).fmod 2]) ∧ (∀ p ∈ news, p.1 < a) ∧ (∀ p ∈ tu, a < p.1) ∧ (∀ p ∈ tu, ∀ q ∈ news, q.1 < p.1)) := by
  intro mean mg mb dp un gd cn cs a₀ ccd cl outer A₀ base h₀ L m s Q E B F X N T hk hd hu ret
  refine wpAny_call ?_
  have g0 : 0 ≤ c.fmod 6 := Int.fmod_nonneg_of_pos _ (by decide)
  have g6 : c.fmod 6 < 6 := Int.fmod_lt_of_pos _ (by decide)
  k_dflt cell_enter
  rename Fr _ _ _ _ => F0
  refine frZ F0 ?_
  clear F0
  intro mZ FZ
  k_steps
  refine Mark.intro ?_
  rename News _ _ _ _ => N1
  refine item_ord N1 g0 g6 ?_ (by with_unfolding_all rfl)
  intro y ty hsg
  k_steps
  refine Mark.intro ?_
  rename Fr _ _ _ _ => F1
  rename News _ _ _ _ => N1
  generalize hq : ((c.fdiv 6).fmod 2 == 0) = q at F1 ret
  generalize hFD : runD q (ordL (c.fmod 6)) [d.fmod 10, (d.fdiv 10).fmod 10] [(d.fdiv 100).fmod 2, (d.fdiv 200).fmod 2] = FD at ret
  have hfit := ord_fits q (c.fmod 6) (d.fmod 10) ((d.fdiv 10).fmod 10) ((d.fdiv 100).fmod 2) ((d.fdiv 200).fmod 2)
  rw [← hsg] at hfit hFD
  have hl4 : (sg y).length = 4 := by rw [hsg]; unfold ordL; split <;> rfl
  refine for_str (DJ q y FD) rfl F1 N1 ⟨[], _, _, 0, 0, 0, [d.fmod 10, (d.fdiv 10).fmod 10], [(d.fdiv 100).fmod 2, (d.fdiv 200).fmod 2], [], [], rfl, ?dst, But.refl, ?r1, ?r2, ?r3, ?z1, ?z2, ?z3⟩ ?turn ?done
  case dst =>
    rw [List.drop_zero]
    refine ⟨hfit, ?_, .cons _ _ (.cons _ _ .nil), .cons _ _ (.cons _ _ .nil), trivial, ⟨fun _ h => absurd h List.not_mem_nil, fun _ h => absurd h List.not_mem_nil, fun _ h => absurd h List.not_mem_nil, fun _ h => absurd h List.not_mem_nil⟩, ?_, ⟨Nat.le_refl _, Nat.le_refl _⟩⟩
    · rw [hFD]; rfl
    · rw [hl4]; rfl
  case r1 => exact all_lt (And.right (And.right (by assumption)))
  case r2 => exact all_lt (And.right (by assumption))
  case r3 => exact all_lt (by assumption)
  case z1 => exact And.left (by assumption)
  case z2 => exact And.left (And.right (by assumption))
  case z3 => exact And.left (by assumption)
  case turn =>
    clear F1 N1 hfit hFD
    rintro i x t m₁ nx I oI g h tk hx ⟨vs, dv, hv, k1, k2, k3, hs, dr, tu, ds, rfl, D, hb, r1, r2, r3, z1, z2, z3⟩ hoff hlt F2 N2
    have F3 := hb.fr F2
    clear F2 hb
    refine frZ F3 ?_
    clear F3
    intro mZ FZ
    have e1 := ltN (hlt _ (List.mem_cons_self ..))
    have e2 := ltN (hlt _ (List.mem_cons_of_mem _ (List.mem_cons_self ..)))
    have e3 := ltN (hlt _ (List.mem_cons_of_mem _ (List.mem_cons_of_mem _ (List.mem_cons_self ..))))
    dsimp only at e1 e2 e3 D r1 r2 r3 z1 z2 z3
    have hor := D.f.a x (by rw [dropc hx]; exact List.mem_cons_self ..)
    obtain ⟨Df, Dfd, Dhv, Ddv, Dd, Dt, Dl, Dln⟩ := D
    obtain ⟨o1, o2, o3⟩ := Dt.offs r1 r2 r3
    have o4 : ∀ p ∈ tu ++ _, p.1 ≠ I := fun p hp => hoff p (List.mem_cons_of_mem _ (List.mem_cons_of_mem _ (List.mem_cons_of_mem _ hp)))
    rw [dropc hx] at Df Dfd Dl
    simp only [List.length_cons] at Dl
    rcases hor with rfl | rfl
    · obtain ⟨h', r', rfl, f'⟩ := Df.hand
      obtain ⟨th, us, rfl, hus⟩ := ints_cons Dhv
      have hul : us.length ≤ 1000 := by have := hus.length; simp only [List.length_cons] at Dln; omega
      rw [show (⟨#[72]⟩ : Str) = Str.ofString "H" from by decide +kernel]
      cases q
      · k_steps
        rename Fr _ _ _ _ => FF
        rename News _ _ _ _ => NN
        rename _ < _ ∧ _ < _ ∧ _ < _ ∧ _ < _ ∧ AllLt _ _ => LL
        try simp +zetaDelta only [List.push_toArray] at NN
        exact ForEnd.next FF NN _ mem_turn (offD hoff LL.1) trivial ⟨vs ++ [.ref _], _, _, _, _, _, _, _, _ :: tu, ds ++ [(_, _)], rfl, ⟨f', by rw [Dfd]; simp [runD], hus, Ddv, Deeds.snoc Dd, Dt.more LL.2, by rw [List.length_append, List.length_cons, List.length_nil]; omega, by first | exact Dln | (simp only [List.length_cons] at Dln ⊢; omega)⟩, (by (repeat (first | exact But.refl | exact But.base | refine But.set ?_ (by rfl)))), r1, r2, r3, z1, z2, z3⟩
      · k_steps
        rename Fr _ _ _ _ => FF
        rename News _ _ _ _ => NN
        rename _ < _ ∧ _ < _ ∧ _ < _ ∧ _ < _ ∧ AllLt _ _ => LL
        try simp +zetaDelta only [List.push_toArray] at NN
        exact ForEnd.next FF NN _ mem_turn (offD hoff LL.1) trivial ⟨vs ++ [.ref _], _, _, _, _, _, _, _, _ :: tu, ds ++ [(_, _)], rfl, ⟨f', by rw [Dfd]; simp [runD], hus, Ddv, Deeds.snoc Dd, Dt.more LL.2, by rw [List.length_append, List.length_cons, List.length_nil]; omega, by first | exact Dln | (simp only [List.length_cons] at Dln ⊢; omega)⟩, (by (repeat (first | exact But.refl | exact But.base | refine But.set ?_ (by rfl)))), r1, r2, r3, z1, z2, z3⟩
    · rw [show (⟨#[68]⟩ : Str) = Str.ofString "D" from by decide +kernel]
      cases q
      · have f' := Df.plain
        k_steps
        rename Fr _ _ _ _ => FF
        rename News _ _ _ _ => NN
        rename _ < _ ∧ _ < _ ∧ _ < _ ∧ _ < _ ∧ AllLt _ _ => LL
        try simp +zetaDelta only [List.push_toArray] at NN
        exact ForEnd.next FF NN _ mem_turn (offD hoff LL.1) trivial ⟨vs ++ [.ref _], _, _, _, _, _, _, _, _ :: tu, ds ++ [(_, _)], rfl, ⟨f', by rw [Dfd]; simp [runD], Dhv, Ddv, Deeds.snoc Dd, Dt.more LL.2, by rw [List.length_append, List.length_cons, List.length_nil]; omega, by first | exact Dln | (simp only [List.length_cons] at Dln ⊢; omega)⟩, (by (repeat (first | exact But.refl | exact But.base | refine But.set ?_ (by rfl)))), r1, r2, r3, z1, z2, z3⟩
      · obtain ⟨h', r', rfl, f'⟩ := Df.dress
        obtain ⟨th, us, rfl, hus⟩ := ints_cons Ddv
        have hul : us.length ≤ 1000 := by have := hus.length; simp only [List.length_cons] at Dln; omega
        k_steps
        rename Fr _ _ _ _ => FF
        rename News _ _ _ _ => NN
        rename _ < _ ∧ _ < _ ∧ _ < _ ∧ _ < _ ∧ AllLt _ _ => LL
        try simp +zetaDelta only [List.push_toArray] at NN
        exact ForEnd.next FF NN _ mem_turn (offD hoff LL.1) trivial ⟨vs ++ [.ref _], _, _, _, _, _, _, _, _ :: tu, ds ++ [(_, _)], rfl, ⟨f', by rw [Dfd]; simp [runD], Dhv, hus, Deeds.snoc Dd, Dt.more LL.2, by rw [List.length_append, List.length_cons, List.length_nil]; omega, by first | exact Dln | (simp only [List.length_cons] at Dln ⊢; omega)⟩, (by (repeat (first | exact But.refl | exact But.base | refine But.set ?_ (by rfl)))), r1, r2, r3, z1, z2, z3⟩
  case done =>
    clear F1 N1 hfit hFD
    rintro h tk m₁ nx F2 N2 ⟨vs, dv, hv, k1, k2, k3, hs, dr, tu, ds, rfl, D, hb, r1, r2, r3, z1, z2, z3⟩
    have F3 := hb.fr F2
    clear F2 hb
    refine frZ F3 ?_
    clear F3
    intro mZ FZ
    dsimp only at D r1 r2 r3
    obtain ⟨Df, Dfd, Dhv, Ddv, Dd, Dt, Dl, Dln⟩ := D
    rw [List.drop_of_length_le (Nat.le_refl _)] at Dfd
    have Dfd : FD = ds := by rw [Dfd]; unfold runD; rw [List.append_nil]
    rw [← Dfd] at Dd
    k_steps
    exact ret _ _ _ _ ⟨_, k1, vs, tu, rfl, rfl, Dd, fun p hp => r1 p (List.mem_cons_of_mem _ hp), Dt.a, fun p hp q hq => Dt.d p hp q (List.mem_cons_of_mem _ hq)⟩ (by k_asm) (by refine' cb_drop ?cbN ?cbS; (case cbN => assumption); (case cbS => exact mem_done))
end Mine
end
section
example : True := by w_top off; trivial
open PySem PySem.W PyProof.Rows
namespace Mine
noncomputable def signs12 : List Nat := [97, 65, 38, 60, 62, 34, 92, 32, 9, 10, 13, 59]
structure BareOk (l : List Nat) : Prop where
  len : l.length = 3
  sg : ∀ c ∈ l, c ∈ signs12
structure DsOk (ds : List (Bool × Int)) : Prop where
  good : Good ds
  len : ds.length = 4
  dd : ∃ d ∈ ds, d.1 = false
  dd2 : ∃ d ∈ undress ds, d.1 = false
  ulen : (undress ds).length = 3
  ugood : Good (undress ds)
  small : ∀ l, BareOk l → (foldL l ds).length ≤ 40
  usmall : ∀ l, BareOk l → (foldL l (undress ds)).length ≤ 40
noncomputable def deedB (d : Bool × Int) : Bool := decide (0 ≤ d.2) && decide (d.2 < (if d.1 then 5 else 2))
noncomputable def undressB : List (Bool × Int) → List (Bool × Int)
  | [] => []
  | d :: r => if !d.1 && r.all (·.1) then r else d :: undressB r
theorem undressB_eq : ∀ ds, undressB ds = undress ds
  | [] => rfl
  | d :: r => by
    unfold undressB undress
    by_cases h : d.1 = false ∧ ∀ e ∈ r, e.1 = true
    · rw [if_pos h, if_pos (by rw [h.1]; simpa using h.2)]
    · rw [if_neg h, if_neg ?_, undressB_eq r]
      intro e
      refine h ?_
      simp only [Bool.and_eq_true, Bool.not_eq_true', List.all_eq_true] at e
      exact e
noncomputable def okB (ds : List (Bool × Int)) : Bool :=
  ds.all deedB && (ds.all (fun d => !d.1 || decide (d.2 < 2)) || ds.all (fun d => d.1 || decide (d.2 = 0))) && decide (ds.length = 4) && ds.any (fun d => !d.1) && (undressB ds).any (fun d => !d.1) && decide ((undressB ds).length = 3) &&
    signs12.all (fun c => decide (3 * (foldL [c] ds).length ≤ 40 + 2 * (foldL [] ds).length)) &&
    signs12.all (fun c => decide (3 * (foldL [c] (undressB ds)).length ≤ 40 + 2 * (foldL [] (undressB ds)).length))
/-- one sign at a time -/
theorem deed_split (d : Bool × Int) (a b : List Nat) : (deedL d (a ++ b)).length + (deedL d []).length = (deedL d a).length + (deedL d b).length := by
  unfold deedL
  split
  · rw [spell_append, List.length_append]; simp [spell]
  · unfold dress
    split
    · simp only [List.flatMap_append, List.length_cons, List.length_append, List.flatMap_nil, List.length_nil]; lia
    · simp only [List.flatMap_append, List.length_append, List.flatMap_nil, List.length_nil]; lia
/-- a deed: what stands ahead, each sign's image, what stands behind -/
theorem deed_form (d : Bool × Int) : ∃ (p s : List Nat) (f : Nat → List Nat), ∀ l, deedL d l = p ++ (l.flatMap f ++ s) := by
  unfold deedL
  split
  · exact ⟨[], [], img d.2.toNat, fun l => by simp [spell]⟩
  · unfold dress
    split
    · exact ⟨[34], [34], slash qs1, fun l => by simp⟩
    · exact ⟨[], [], slash qs0, fun l => by simp⟩
theorem fold_form : ∀ ds : List (Bool × Int), ∃ (p s : List Nat) (f : Nat → List Nat), ∀ l, foldL l ds = p ++ (l.flatMap f ++ s)
  | [] => ⟨[], [], fun c => [c], fun l => by
    show l = _
    induction l with
    | nil => rfl
    | cons c r ih => simp at ih ⊢⟩
  | d :: r => by
    obtain ⟨p, s, f, h⟩ := deed_form d
    obtain ⟨p', s', f', h'⟩ := fold_form r
    refine ⟨p' ++ p.flatMap f', s.flatMap f' ++ s', fun c => (f c).flatMap f', fun l => ?_⟩
    show foldL (deedL d l) r = _
    rw [h' (deedL d l), h l]
    simp [List.flatMap_append, List.flatMap_assoc]
theorem fold_three (ds : List (Bool × Int)) (a b c : Nat) : (foldL [a, b, c] ds).length + 2 * (foldL [] ds).length = (foldL [a] ds).length + (foldL [b] ds).length + (foldL [c] ds).length := by
  obtain ⟨p, s, f, h⟩ := fold_form ds
  simp only [h, List.flatMap_cons, List.flatMap_nil, List.length_append, List.append_nil, List.nil_append]
  lia
theorem okB_ok {ds : List (Bool × Int)} (h : okB ds = true) : DsOk ds := by
  unfold okB at h
  simp only [Bool.and_eq_true, decide_eq_true_eq] at h
  obtain ⟨⟨⟨⟨⟨⟨⟨h1, h2⟩, h3⟩, h4⟩, h5⟩, h6⟩, h7⟩, h7'⟩ := h
  rw [undressB_eq] at h5 h6 h7'
  have hok : ∀ d ∈ ds, DeedOk d := by
    intro d hd
    have := List.all_eq_true.mp h1 d hd
    unfold deedB at this
    simp only [Bool.and_eq_true, decide_eq_true_eq] at this
    exact this
  have hg : Good ds := by
    refine ⟨hok, ?_⟩
    rcases Bool.or_eq_true_iff.mp h2 with h | h
    · refine .inl fun d hd hb => ?_
      have := List.all_eq_true.mp h d hd
      simpa [hb] using this
    · refine .inr fun d hd hb => ?_
      have := List.all_eq_true.mp h d hd
      simpa [hb] using this
  have hsub : ∀ (es : List (Bool × Int)), ∀ d ∈ undress es, d ∈ es := by
    intro es
    induction es with
    | nil => intro d hd; exact hd
    | cons e r ih =>
      intro d hd
      unfold undress at hd
      split at hd
      · exact List.mem_cons_of_mem _ hd
      · rcases List.mem_cons.mp hd with q | hd
        · rw [q]; exact List.mem_cons_self ..
        · exact List.mem_cons_of_mem _ (ih d hd)
  have hsmall : ∀ es : List (Bool × Int), (signs12.all (fun c => decide (3 * (foldL [c] es).length ≤ 40 + 2 * (foldL [] es).length))) = true → ∀ l, BareOk l → (foldL l es).length ≤ 40 := by
    intro es h7 l hl
    obtain ⟨h8, h9⟩ := hl
    match l, h8, h9 with
    | [a, b, c], _, h9 =>
      have key : ∀ x ∈ signs12, 3 * (foldL [x] es).length ≤ 40 + 2 * (foldL [] es).length := fun x hx => by
        have := List.all_eq_true.mp h7 x hx
        simpa using this
      have e1 := key a (h9 a (by simp))
      have e2 := key b (h9 b (by simp))
      have e3 := key c (h9 c (by simp))
      have := fold_three es a b c
      lia
  refine ⟨hg, h3, ?_, ?_, h6, hg.sub (hsub ds), hsmall ds h7, hsmall _ h7'⟩
  · obtain ⟨d, hd, hb⟩ := List.any_eq_true.mp h4
    exact ⟨d, hd, by simpa using hb⟩
  · obtain ⟨d, hd, hb⟩ := List.any_eq_true.mp h5
    exact ⟨d, hd, by simpa using hb⟩
theorem all_true : ∀ k < 6, ∀ x < 2, ∀ y < 2, ∀ a < 2, ∀ b < 2, okB (runD true (ordL (k : Nat)) [(x : Nat), (y : Nat)] [(a : Nat), (b : Nat)]) = true := by decide +kernel
theorem all_false : ∀ k < 6, ∀ x < 5, ∀ y < 5, okB (runD false (ordL (k : Nat)) [(x : Nat), (y : Nat)] [0, 0]) = true := by decide +kernel
theorem fmod_twice (a b : Int) (h : 0 < b) : (a.fmod b).fmod b = a.fmod b := by
  rw [Int.fmod_eq_emod_of_nonneg _ (Int.le_of_lt h), Int.fmod_eq_emod_of_nonneg _ (Int.le_of_lt h), Int.emod_emod_of_dvd _ (Int.dvd_refl b)]
theorem runD_modm (q : Bool) (m : Int) (hm : (if q then 2 else 5) = m) (h0 : 0 < m) : ∀ (os : List Nat) (hs dr : List Int), runD q os (hs.map fun h => h.fmod m) dr = runD q os hs dr
  | [], _, _ => rfl
  | c :: os, hs, dr => by
    unfold runD
    split
    · cases hs with
      | nil => rfl
      | cons h r =>
        simp only [List.map_cons]
        rw [hm, fmod_twice h _ h0, runD_modm q m hm h0 os r dr]
    · split
      · cases dr with
        | nil => rfl
        | cons x r => simp only []; rw [runD_modm q m hm h0 os hs r]
      · rw [runD_modm q m hm h0 os hs dr]
theorem runD_mod (q : Bool) (os : List Nat) (hs dr : List Int) : runD q os (hs.map fun h => h.fmod (if q then 2 else 5)) dr = runD q os hs dr :=
  runD_modm q _ rfl (by cases q <;> decide) os hs dr
theorem runD_plain : ∀ (os : List Nat) (hs dr dr' : List Int), runD false os hs dr = runD false os hs dr'
  | [], _, _, _ => rfl
  | c :: os, hs, dr, dr' => by
    unfold runD
    split
    · cases hs with
      | nil => rfl
      | cons h r => simp only []; rw [runD_plain os r dr dr']
    · simp only [Bool.false_eq_true, if_false]; rw [runD_plain os hs dr dr']
theorem fmod_nat (a b : Int) (h : 0 < b) : ∃ n : Nat, a.fmod b = (n : Int) ∧ (n : Int) < b := by
  have h0 := Int.fmod_nonneg_of_pos a h
  have h1 := Int.fmod_lt_of_pos a h
  exact ⟨(a.fmod b).toNat, (Int.toNat_of_nonneg h0).symm, by rw [Int.toNat_of_nonneg h0]; exact h1⟩
theorem ds_ok (q : Bool) (c a b e f : Int) : DsOk (runD q (ordL (c.fmod 6)) [a, b] [e.fmod 2, f.fmod 2]) := by
  obtain ⟨k, hk, hk6⟩ := fmod_nat c 6 (by decide)
  rw [← runD_mod, hk]
  cases q with
  | true =>
    obtain ⟨x, hx, hx2⟩ := fmod_nat a 2 (by decide)
    obtain ⟨y, hy, hy2⟩ := fmod_nat b 2 (by decide)
    obtain ⟨u, hu, hu2⟩ := fmod_nat e 2 (by decide)
    obtain ⟨v, hv, hv2⟩ := fmod_nat f 2 (by decide)
    simp only [List.map_cons, List.map_nil, if_true]
    rw [hx, hy, hu, hv]
    exact okB_ok (all_true k (by lia) x (by lia) y (by lia) u (by lia) v (by lia))
  | false =>
    obtain ⟨x, hx, hx2⟩ := fmod_nat a 5 (by decide)
    obtain ⟨y, hy, hy2⟩ := fmod_nat b 5 (by decide)
    simp only [List.map_cons, List.map_nil, Bool.false_eq_true, if_false]
    rw [hx, hy, runD_plain _ _ _ [0, 0]]
    exact okB_ok (all_false k (by lia) x (by lia) y (by lia))
theorem item12 : ∀ k < 12, ∃ c ∈ signs12, Txt.item (Str.ofString "aA&<>\"\\ \t\n\r;") ((k : Nat) : Int) = ⟨#[c]⟩ := by
  have : ∀ k < 12, ((Txt.item (Str.ofString "aA&<>\"\\ \t\n\r;") ((k : Nat) : Int)).cps.toList).length = 1 ∧ ∀ c ∈ (Txt.item (Str.ofString "aA&<>\"\\ \t\n\r;") ((k : Nat) : Int)).cps.toList, c ∈ signs12 := by decide +kernel
  intro k hk
  obtain ⟨h1, h2⟩ := this k hk
  generalize Txt.item (Str.ofString "aA&<>\"\\ \t\n\r;") ((k : Nat) : Int) = z at h1 h2
  obtain ⟨c, e⟩ : ∃ c, z.cps.toList = [c] := by
    match z.cps.toList, h1 with
    | [c], _ => exact ⟨c, rfl⟩
  refine ⟨c, h2 c (by rw [e]; simp), str_ext ?_⟩
  exact e
theorem bare_ok (c : Int) : BareOk (sg (Txt.item (Str.ofString "aA&<>\"\\ \t\n\r;") (c.fmod 12) ++ Txt.item (Str.ofString "aA&<>\"\\ \t\n\r;") ((c.fdiv 12).fmod 12) ++ Txt.item (Str.ofString "aA&<>\"\\ \t\n\r;") ((c.fdiv 144).fmod 12))) := by
  obtain ⟨x, hx, hx2⟩ := fmod_nat c 12 (by decide)
  obtain ⟨y, hy, hy2⟩ := fmod_nat (c.fdiv 12) 12 (by decide)
  obtain ⟨z, hz, hz2⟩ := fmod_nat (c.fdiv 144) 12 (by decide)
  obtain ⟨a, ha, ea⟩ := item12 x (by omega)
  obtain ⟨b, hb, eb⟩ := item12 y (by omega)
  obtain ⟨d, hd, ed⟩ := item12 z (by omega)
  rw [hx, hy, hz, ea, eb, ed]
  have e : sg ((⟨#[a]⟩ : Str) ++ ⟨#[b]⟩ ++ ⟨#[d]⟩) = [a, b, d] := by simp [sg, Str.cps_append]
  rw [e]
  refine ⟨rfl, fun k hk => ?_⟩
  simp only [List.mem_cons, List.not_mem_nil, or_false] at hk
  rcases hk with rfl | rfl | rfl <;> assumption
/-- the deeds keep a text plain -/
theorem img_asc (h : Nat) (hh : h < 5) (c : Nat) (hc : c < 128) : ∀ x ∈ img h c, x < 128 := by
  have : ∀ h < 5, ∀ c < 128, ∀ x ∈ img h c, x < 128 := by decide +kernel
  exact this h hh c hc
theorem deed_asc (d : Bool × Int) (hd : DeedOk d) (l : List Nat) (hl : ∀ c ∈ l, c < 128) : ∀ c ∈ deedL d l, c < 128 := by
  obtain ⟨b, n⟩ := d
  unfold DeedOk at hd
  have hsl : ∀ (q : List Nat), ∀ c ∈ l.flatMap (slash q), c < 128 := by
    intro q c hc
    obtain ⟨x, hx, hc⟩ := List.mem_flatMap.mp hc
    unfold slash at hc
    have := hl x hx
    split at hc
    · simp only [List.mem_cons, List.not_mem_nil, or_false] at hc
      rcases hc with rfl | rfl
      · decide
      · exact this
    · rw [List.mem_singleton.mp hc]; exact this
  cases b with
  | true =>
    simp only [if_true] at hd
    intro c hc
    obtain ⟨x, hx, hc⟩ := List.mem_flatMap.mp hc
    exact img_asc n.toNat (by lia) x (hl x hx) c hc
  | false =>
    intro c hc
    have hc : c ∈ dress n.toNat l := hc
    unfold dress at hc
    split at hc
    · simp only [List.mem_cons, List.mem_append, List.not_mem_nil, or_false] at hc
      rcases hc with rfl | hc | rfl
      · decide
      · exact hsl qs1 c hc
      · decide
    · exact hsl qs0 c hc
theorem fold_asc : ∀ (ds : List (Bool × Int)) (l : List Nat), (∀ d ∈ ds, DeedOk d) → (∀ c ∈ l, c < 128) → ∀ c ∈ foldL l ds, c < 128
  | [], _, _, hl => hl
  | d :: r, l, h, hl => fold_asc r (deedL d l) (fun e he => h e (List.mem_cons_of_mem _ he)) (deed_asc d (h d (List.mem_cons_self ..)) l hl)
theorem bare_asc {l : List Nat} (h : BareOk l) : ∀ c ∈ l, c < 128 := by
  intro c hc
  have := h.sg c hc
  have key : ∀ x ∈ signs12, x < 128 := by decide
  exact key c this
end Mine
end
section
example : True := by w_top off; trivial
open PySem PySem.W PyProof.Rows PyProof.Rows.LCg
set_option maxRecDepth 100000
namespace Mine
theorem DoesP.use {w : World} {f : Addr} {need : Nat} {Pre : Heap → Prop} {news : List (Addr × Obj)} {vs : List Value} {Post : Value → List (Addr × Obj) → Prop} (d : DoesP w f need Pre news vs Post)
    {mean : ExcName → Option Value} {mg mb : Str → Option Value} {dp un : Nat} {gd : Option (List Code)} {cn : Str} {cs : Scope} {a : Addr} {ccd : Value} {cl : List (Str × Addr)} {outer : List Env} {A₀ : Around} {base h₀ : Heap} {L : Addr} {m : Str → Option Value} {s : Shared} {Q E : Value → Shared → Prop}
    (hp : Pre h₀) (B : Below A₀ base outer h₀) (F : Fr h₀ L s.heap m) (X : (hd.heap_1 w.params).In h₀) (N : News h₀ L s.heap news) (T : Top topProg looseT mean mg mb h₀) (hk : cs.kind = .function)
    (hd : dp + need < recursionLimit) (hu : un + 8 * need < cLine)
    (ret : ∀ (r : Value) (tl : List (Addr × Obj)) (h' : Heap) (tk' : Nat), Post r tl → Fr h₀ L h' m → News h₀ L h' tl → Q r { s with heap := h', toks := tk' }) :
    wpAny (model PySem.Challenge.rw_sc0073_01.row.prog w) (ktrTop dp un gd cn cs L a ccd cl outer) (call (.ref f) vs) Q E s :=
  d mean mg mb dp un gd cn cs a ccd cl outer A₀ base h₀ L m s Q E hp B F X N T hk hd hu ret
/-- the bare text -/
theorem law_bare (w : World) (news : List (Addr × Obj)) (c : Int) (tc : Tok) (h0 : 0 ≤ c) (h1 : c < 2 ^ 40) : Does w 133 1 news [.int c tc] (fun r tl => tl = news ∧ ∃ x t, r = .str x t ∧ BareOk (sg x)) :=
  does_mono (does_bare w news c tc h0 h1) (Nat.le_refl _) fun r tl ⟨e, t, e2⟩ => ⟨e, _, t, e2, bare_ok c⟩
theorem law_deeds (w : World) (news : List (Addr × Obj)) (c d : Int) (tc td : Tok) : Does w 140 3 news [.int c tc, .int d td]
    (fun r tl => ∃ a k vs tu ds, r = .ref a ∧ tl = (a, W.listOf vs.toArray k) :: (tu ++ news) ∧ DsOk ds ∧ Deeds tu vs ds ∧ (∀ p ∈ news, p.1 < a) ∧ (∀ p ∈ tu, a < p.1) ∧ (∀ p ∈ tu, ∀ q ∈ news, q.1 < p.1)) :=
  does_mono (does_deeds w news c d tc td) (Nat.le_refl _) fun r tl ⟨a, k, vs, tu, e1, e2, e3, e4, e5, e6⟩ => ⟨a, k, vs, tu, _, e1, e2, ds_ok _ _ _ _ _ _, e3, e4, e5, e6⟩
theorem list_five {α β : Type} {f : Nat → α} {l : List (α × β)} (h : l.map (·.1) = (List.range 5).map f) : ∃ t0 t1 t2 t3 t4, l = [(f 0, t0), (f 1, t1), (f 2, t2), (f 3, t3), (f 4, t4)] := by
  have h : l.map (·.1) = [f 0, f 1, f 2, f 3, f 4] := h
  obtain ⟨p0, l1, rfl, e0, h1⟩ := List.map_eq_cons_iff.mp h
  obtain ⟨p1, l2, rfl, e1, h2⟩ := List.map_eq_cons_iff.mp h1
  obtain ⟨p2, l3, rfl, e2, h3⟩ := List.map_eq_cons_iff.mp h2
  obtain ⟨p3, l4, rfl, e3, h4⟩ := List.map_eq_cons_iff.mp h3
  obtain ⟨p4, l5, rfl, e4, h5⟩ := List.map_eq_cons_iff.mp h4
  rw [List.map_eq_nil_iff.mp h5, ← e0, ← e1, ← e2, ← e3, ← e4]
  exact ⟨p0.2, p1.2, p2.2, p3.2, p4.2, rfl⟩
/-- the five stages -/
noncomputable abbrev fiveO (x : Str) (ds : List (Bool × Int)) (t : Tok × Tok × Tok × Tok × Tok) (k : Nat) : Obj :=
  { cls := .type "list", data := .seq #[.str (foldS x (ds.take 0)) t.1, .str (foldS x (ds.take 1)) t.2.1, .str (foldS x (ds.take 2)) t.2.2.1, .str (foldS x (ds.take 3)) t.2.2.2.1, .str (foldS x (ds.take 4)) t.2.2.2.2] k }
theorem five_of {x : Str} {ds : List (Bool × Int)} (h4 : ds.length = 4) {l : List (Str × Tok)} (h : l.map (·.1) = stagesS x ds) : ∃ t0 t1 t2 t3 t4, l = [(foldS x (ds.take 0), t0), (foldS x (ds.take 1), t1), (foldS x (ds.take 2), t2), (foldS x (ds.take 3), t3), (foldS x (ds.take 4), t4)] := by
  unfold stagesS at h
  rw [h4] at h
  exact list_five (f := fun j => foldS x (ds.take j)) h
theorem law_write5 (w : World) (news : List (Addr × Obj)) (x : Str) (a : Addr) (tx : Tok) (vs : List Value) (k : Nat) (ds : List (Bool × Int)) (hm : (a, W.listOf vs.toArray k) ∈ news) (hD : Deeds news vs ds) (D : DsOk ds) (hx : BareOk (sg x)) : Does w 171 4 news [.str x tx, .ref a, .ref 159]
    (fun r tl => ∃ a' t k', r = .ref a' ∧ tl = (a', fiveO x ds t k') :: news ∧ (∀ p ∈ news, p.1 < a')) :=
  does_mono (does_stages_write w news x a tx vs k ds hm hD D.good.1 (Nat.le_of_eq D.len) (by rw [hx.len]; decide)) (Nat.le_refl _) fun r tl ⟨a', l, k', e1, e2, e3, e4⟩ => by
    obtain ⟨t0, t1, t2, t3, t4, rfl⟩ := five_of D.len e4
    exact ⟨a', (t0, t1, t2, t3, t4), k', e1, e2, e3⟩
theorem law_spell5 (w : World) (news : List (Addr × Obj)) (x : Str) (a : Addr) (tx : Tok) (vs : List Value) (k : Nat) (ds : List (Bool × Int)) (hm : (a, W.listOf vs.toArray k) ∈ news) (hD : Deeds news vs ds) (D : DsOk ds) (hx : BareOk (sg x)) : Does w 171 4 news [.str x tx, .ref a, .ref 152]
    (fun r tl => ∃ a' t k', r = .ref a' ∧ tl = (a', fiveO x ds t k') :: news ∧ (∀ p ∈ news, p.1 < a')) :=
  does_mono (does_stages_spell w news x a tx vs k ds hm hD D.good.1 (Nat.le_of_eq D.len) (by rw [hx.len]; decide)) (Nat.le_refl _) fun r tl ⟨a', l, k', e1, e2, e3, e4⟩ => by
    obtain ⟨t0, t1, t2, t3, t4, rfl⟩ := five_of D.len e4
    exact ⟨a', (t0, t1, t2, t3, t4), k', e1, e2, e3⟩
/-- the stages of fewer deeds: their last -/
theorem law_spellN (w : World) (news : List (Addr × Obj)) (x : Str) (a : Addr) (tx : Tok) (vs : List Value) (k : Nat) (ds : List (Bool × Int)) (hm : (a, W.listOf vs.toArray k) ∈ news) (hD : Deeds news vs ds) (hok : ∀ d ∈ ds, DeedOk d) (hl : ds.length ≤ 4) (hx : BareOk (sg x)) : Does w 171 4 news [.str x tx, .ref a, .ref 152]
    (fun r tl => ∃ a' l t k', r = .ref a' ∧ tl = (a', ({ cls := .type "list", data := .seq (strValues (l ++ [(foldS x ds, t)])).toArray k' } : Obj)) :: news ∧ (∀ p ∈ news, p.1 < a')) :=
  does_mono (does_stages_spell w news x a tx vs k ds hm hD hok hl (by rw [hx.len]; decide)) (Nat.le_refl _) fun r tl ⟨a', l, k', e1, e2, e3, e4⟩ => by
    unfold stagesS at e4
    rw [List.range_succ, List.map_append] at e4
    have hne : l ≠ [] := by
      rintro rfl
      simp at e4
    obtain ⟨l', p, rfl⟩ : ∃ l' p, l = l' ++ [p] := ⟨l.dropLast, l.getLast hne, (List.dropLast_concat_getLast hne).symm⟩
    rw [List.map_append] at e4
    have e5 := (List.append_inj' e4 rfl).2
    simp only [List.map_cons, List.map_nil, List.take_length, List.cons.injEq, and_true] at e5
    obtain ⟨z, t⟩ := p
    dsimp only at e5
    subst e5
    exact ⟨a', l', t, k', e1, e2, e3⟩
/-- a reading of a stage -/
noncomputable abbrev readO (x : Str) (ds : List (Bool × Int)) (k1 k2 k3 k4 : Tok) (k : Nat) : Obj :=
  { cls := .type "list", data := .seq #[.str (foldS x (undress ds)) k1, .str (Str.ofString "end") k2, .str (Str.ofString "") k3, .int (1 + ((sg (foldS x ds)).count 10 : Nat)) k4] k }
theorem end_sg (x : Str) : sg (x ++ Str.ofString " end") = sg x ++ endL := by
  have e : sg (Str.ofString " end") = endL := by decide +kernel
  rw [← e]; simp [sg, Str.cps_append]
theorem read_obj {x : Str} {ds : List (Bool × Int)} (g : Good ds) (hex : ∃ d ∈ ds, d.1 = false) (hx : BareOk (sg x)) {t1 t2 t3 : List Nat} {n : Int} (h : ReadOut (sg (foldS x ds ++ Str.ofString " end")) t1 t2 t3 n) (k1 k2 k3 k4 : Tok) (k : Nat) : outO t1 t2 t3 n k1 k2 k3 k4 k = readO x ds k1 k2 k3 k4 k := by
  rw [end_sg, foldS_sg] at h
  obtain ⟨rfl, rfl, rfl, rfl⟩ := read_is g hex (fun e => by have := hx.len; rw [e] at this; simp at this) h
  have e1 : ofL (foldL (sg x) (undress ds)) = foldS x (undress ds) := by rw [← foldS_sg, ofL_sg]
  have e2 : ofL [101, 110, 100] = Str.ofString "end" := by decide +kernel
  have e3 : ofL [] = Str.ofString "" := by decide +kernel
  unfold outO readO
  rw [e1, e2, e3, foldS_sg]
/-- what a reading of a stage leaves -/
inductive LRd (x : Str) (ds : List (Bool × Int)) (c' : Addr) (oc' : Obj) (news : List (Addr × Obj)) (r : Value) (tl : List (Addr × Obj)) : Prop
  | mk (D : Addr) (k : Nat) (k1 k2 k3 k4 : Tok) (e1 : r = .ref D) (e2 : tl = (D, readO x ds k1 k2 k3 k4 k) :: (178, nestAt c') :: (c', oc') :: news) (e3 : ∀ p ∈ (178, nestAt c') :: (c', oc') :: news, p.1 < D) : LRd x ds c' oc' news r tl
theorem lrd_of {x : Str} {ds : List (Bool × Int)} {c' : Addr} {oc' : Obj} {news tl : List (Addr × Obj)} {r : Value} (g : Good ds) (hex : ∃ d ∈ ds, d.1 = false) (hx : BareOk (sg x)) (h : RdP (sg (foldS x ds ++ Str.ofString " end")) c' oc' news r tl) : LRd x ds c' oc' news r tl := by
  obtain ⟨D, k, t1, t2, t3, n, k1, k2, k3, k4, e1, e2, e3, e4⟩ := h
  exact ⟨D, k, k1, k2, k3, k4, e1, by rw [e2, read_obj g hex hx e3], e4⟩
theorem law_read1 (w : World) (news : List (Addr × Obj)) (x : Str) (ds : List (Bool × Int)) (tx : Tok) (g : Good ds) (hex : ∃ d ∈ ds, d.1 = false) (hx : BareOk (sg x)) (hl : (sg (foldS x ds)).length ≤ 1000) (h178 : ∀ p ∈ news, p.1 ≠ 178) : Does w 183 10 ((178, tabObj #[]) :: news) [.str (foldS x ds) tx]
    (fun r tl => ∃ c' oc', LRd x ds c' oc' news r tl ∧ codeOk oc' ∧ (∀ p ∈ (178, nestAt c') :: news, p.1 < c')) :=
  does_mono (does_read1 w news (foldS x ds) tx (by rw [length_sg]; exact hl) h178) (Nat.le_refl _) fun _ _ ⟨c', oc', h, h1, h2⟩ => ⟨c', oc', lrd_of g hex hx h, h1, h2⟩
theorem law_read2 (w : World) (news : List (Addr × Obj)) (x : Str) (ds : List (Bool × Int)) (tx : Tok) (c' : Addr) (oc' : Obj) (hc : codeOk oc') (g : Good ds) (hex : ∃ d ∈ ds, d.1 = false) (hx : BareOk (sg x)) (hl : (sg (foldS x ds)).length ≤ 1000) (h178 : ∀ p ∈ news, p.1 ≠ 178) : Does w 183 10 ((178, nestAt c') :: (c', oc') :: news) [.str (foldS x ds) tx]
    (LRd x ds c' oc' news) :=
  does_mono (does_read2 w news (foldS x ds) tx c' oc' hc (by rw [length_sg]; exact hl) h178) (Nat.le_refl _) fun _ _ h => lrd_of g hex hx h
/-- the price of a stretch of the deeds -/
theorem five_at {x : Str} {ds : List (Bool × Int)} {t : Tok × Tok × Tok × Tok × Tok} (i : Int) (h0 : 0 ≤ i) (h4 : i ≤ 4) : ∃ u, [(foldS x (ds.take 0), t.1), (foldS x (ds.take 1), t.2.1), (foldS x (ds.take 2), t.2.2.1), (foldS x (ds.take 3), t.2.2.2.1), (foldS x (ds.take 4), t.2.2.2.2)][i.toNat]? = some (foldS x (ds.take i.toNat), u) := by
  have hc : i = 0 ∨ i = 1 ∨ i = 2 ∨ i = 3 ∨ i = 4 := by omega
  rcases hc with rfl | rfl | rfl | rfl | rfl <;> exact ⟨_, rfl⟩
theorem stage_len {x : Str} {ds : List (Bool × Int)} (D : DsOk ds) (hx : BareOk (sg x)) (i : Nat) : (sg (foldS x (ds.take i))).length ≤ 40 := by
  have h1 := (emb_fold (ds.drop i) (foldL (sg x) (ds.take i)) (fun d hd => D.good.1 d (List.mem_of_mem_drop hd))).len
  rw [← foldL_append, List.take_append_drop] at h1
  have h2 := D.small _ hx
  rw [foldS_sg]; omega
theorem law_price (w : World) (news : List (Addr × Obj)) (x : Str) (a b : Addr) (be en : Int) (tb te : Tok) (t : Tok × Tok × Tok × Tok × Tok) (kd k : Nat) (vs : List Value) (ds : List (Bool × Int)) (hdue : (a, fiveO x ds t kd) ∈ news) (hm : (b, W.listOf vs.toArray k) ∈ news) (hD : Deeds news vs ds) (D : DsOk ds) (hx : BareOk (sg x))
    (h0 : 0 ≤ be) (h1 : be ≤ en) (h2 : en ≤ 4) : Does w 188 4 news [.ref a, .ref b, .int be tb, .int en te]
    (fun r tl => tl = news ∧ ∃ t, r = .int (priceL (sg (foldS x (ds.take be.toNat))) (sg (foldS x (ds.take en.toNat))) ((ds.drop be.toNat).take (en.toNat - be.toNat))) t) := by
  obtain ⟨u1, e1⟩ := five_at (x := x) (ds := ds) (t := t) be h0 (by omega)
  obtain ⟨u2, e2⟩ := five_at (x := x) (ds := ds) (t := t) en (by omega) h2
  have hvl : vs.length = ds.length := hD.length
  refine does_mono (does_price w news a b be en tb te [(foldS x (ds.take 0), t.1), (foldS x (ds.take 1), t.2.1), (foldS x (ds.take 2), t.2.2.1), (foldS x (ds.take 3), t.2.2.2.1), (foldS x (ds.take 4), t.2.2.2.2)] kd k vs ds hdue hm hD D.good.1 (Nat.le_of_eq D.len) (by rw [hvl]; exact Nat.le_of_eq D.len) rfl ?_ h0 h1 h2 _ _ u1 u2 e1 e2) (Nat.le_refl _) ?_
  · intro p hp
    simp only [List.mem_cons, List.not_mem_nil, or_false] at hp
    rcases hp with rfl | rfl | rfl | rfl | rfl <;> exact Nat.le_trans (stage_len D hx _) (by decide)
  · rintro r tl ⟨e3, t', e4⟩
    exact ⟨e3, t', by rw [e4, price_eq]⟩
end Mine
end
section
example : True := by w_top off; trivial
open PySem PySem.W PyProof.Rows
namespace Mine
/-- the stages' signs -/
noncomputable abbrev stg (x : Str) (ds : List (Bool × Int)) (i : Nat) : Str := foldS x (ds.take i)
theorem stg_sg (x : Str) (ds : List (Bool × Int)) (i : Nat) : sg (stg x ds i) = foldL (sg x) (ds.take i) := foldS_sg _ _
noncomputable def near_ (x : Str) (ds : List (Bool × Int)) (m : Nat) : Int := priceL (sg (stg x ds 0)) (sg (stg x ds m)) ((ds.drop 0).take (m - 0))
noncomputable def far_ (x : Str) (ds : List (Bool × Int)) (m : Nat) : Int := priceL (sg (stg x ds m)) (sg (stg x ds 4)) ((ds.drop m).take (4 - m))
section
variable {x : Str} {ds : List (Bool × Int)} {m : Nat} {mc v : Int}
theorem stg0 : sg (stg x ds 0) = sg x := by rw [stg_sg, List.take_zero]; rfl
theorem stg_step (m : Nat) (hm : m ≤ 4) (D : DsOk ds) : sg (stg x ds 4) = foldL (sg (stg x ds m)) ((ds.drop m).take (4 - m)) := by
  have e : (ds.drop m).take (4 - m) = ds.drop m := List.take_of_length_le (by rw [List.length_drop, D.len]; exact Nat.le_refl _)
  rw [stg_sg, stg_sg, e, ← foldL_append, List.take_append_drop, List.take_of_length_le (Nat.le_of_eq D.len)]
theorem near_ge (D : DsOk ds) : 0 ≤ near_ x ds m := by
  have h := (emb_fold (ds.take m) (sg x) (fun d hd => D.good.1 d (List.mem_of_mem_take hd))).len
  unfold near_ priceL
  rw [stg0, stg_sg]
  lia
theorem fin_first (D : DsOk ds) (hx : BareOk (sg x)) (hm : m ≤ 4) (hmc : near_ x ds m ≤ mc + 1) (h : LevPost subA (sg (stg x ds 0)) (sg (stg x ds m)) mc v) : v = near_ x ds m := by
  have g : Good (ds.take m) := D.good.sub fun d hd => List.mem_of_mem_take hd
  have hl := stage_len D hx m
  unfold near_ at hmc ⊢
  rw [stg0, stg_sg, List.drop_zero, Nat.sub_zero] at *
  exact lev_stage subA_ok g hl hmc (.inl h)
theorem fin_second (D : DsOk ds) (hx : BareOk (sg x)) (hm : m ≤ 4) (hmc : far_ x ds m ≤ mc + 1) (h : LevPost subA (sg (stg x ds 4)) (sg (stg x ds m)) mc v) : v = far_ x ds m := by
  have g : Good ((ds.drop m).take (4 - m)) := D.good.sub fun d hd => List.mem_of_mem_drop (List.mem_of_mem_take hd)
  have hl := stage_len D hx 4
  unfold far_ at hmc ⊢
  have e := stg_step (x := x) m hm D
  change (sg (stg x ds 4)).length ≤ 40 at hl
  rw [e] at hl hmc h ⊢
  exact lev_stage subA_ok g hl hmc (.inr h)
theorem near_far (D : DsOk ds) (hm : m ≤ 4) : near_ x ds m + far_ x ds m = priceL (sg x) (foldL (sg x) ds) ds := by
  unfold near_ far_
  have e : (ds.drop m).take (4 - m) = ds.drop m := List.take_of_length_le (by rw [List.length_drop, D.len]; exact Nat.le_refl _)
  have e4 : ds.take 4 = ds := List.take_of_length_le (Nat.le_of_eq D.len)
  rw [stg0, stg_sg, stg_sg, List.drop_zero, Nat.sub_zero, e, e4]
  have g : Good (ds.take m ++ ds.drop m) := by rw [List.take_append_drop]; exact D.good
  have := price_add g (sg x)
  rwa [List.take_append_drop] at this
theorem stg4 (D : DsOk ds) : sg (stg x ds 4) = foldL (sg x) ds := by rw [stg_sg, List.take_of_length_le (Nat.le_of_eq D.len)]
theorem fin_whole (D : DsOk ds) (hx : BareOk (sg x)) (hm : m ≤ 4) (hmc : near_ x ds m + far_ x ds m ≤ mc + 1) (h : LevPost subA (sg (stg x ds 0)) (sg (stg x ds 4)) mc v) : v = near_ x ds m + far_ x ds m := by
  rw [near_far D hm] at *
  rw [stg0, stg4 D] at h
  exact lev_stage subA_ok D.good (D.small _ hx) hmc (.inl h)
/-- the text without a piece -/
noncomputable def pieceOut (x : Str) (ds : List (Bool × Int)) (k : Nat) : Bool :=
  Txt.slice (stg x ds 4) none (some (k : Int)) ++ Txt.slice (stg x ds 4) (some ((k : Int) + (((stg x ds 4).length : Int) - 3))) none == x
theorem len4 (D : DsOk ds) (hx : BareOk (sg x)) : 3 ≤ (stg x ds 4).length := by
  have h := (emb_fold ds (sg x) D.good.1).len
  rw [hx.len] at h
  rw [length_sg, stg4 D]
  exact h
theorem piece_iff (D : DsOk ds) (hx : BareOk (sg x)) (k : Nat) (hk : k < 4) : pieceOut x ds k = true ↔ (foldL (sg x) ds).take k ++ (foldL (sg x) ds).drop (k + ((foldL (sg x) ds).length - (sg x).length)) = sg x := by
  have h3 := len4 D hx
  have e4 := stg4 (x := x) D
  have hl : (stg x ds 4).length = (foldL (sg x) ds).length := by rw [length_sg, e4]
  unfold pieceOut
  rw [slice_to _ _ (by lia), slice_from _ _ (by lia) (by lia), e4]
  have ek : ((k : Int) + (((stg x ds 4).length : Int) - 3)).toNat = k + ((foldL (sg x) ds).length - (sg x).length) := by rw [hx.len]; lia
  rw [ek, Int.toNat_natCast]
  have es : ∀ a b : List Nat, sg (ofL a ++ ofL b) = a ++ b := fun a b => by simp [sg, ofL, Str.cps_append]
  constructor
  · intro h
    have := eq_of_beq h
    have := congrArg sg this
    rwa [es] at this
  · intro h
    refine beq_iff_eq.mpr (str_ext ?_)
    rw [es]; exact h
theorem fin_least (D : DsOk ds) (hx : BareOk (sg x)) (hm : m ≤ 4) (hmc : mc < 2 * (((stg x ds 4).length : Int) - 3)) (h : LevPost subA (sg (stg x ds 4)) (sg (stg x ds 0)) mc v) :
    v = if (List.range 4).filter (pieceOut x ds) ≠ [] then near_ x ds m + far_ x ds m else mc + 1 := by
  have h3 := len4 D hx
  have e4 := stg4 (x := x) D
  have hl : (stg x ds 4).length = (foldL (sg x) ds).length := by rw [length_sg, e4]
  rw [stg0, e4] at h
  split
  · rename_i hne
    obtain ⟨k, hk⟩ := List.exists_mem_of_ne_nil _ hne
    obtain ⟨hk1, hk2⟩ := List.mem_filter.mp hk
    have hk4 := List.mem_range.mp hk1
    rw [near_far D hm]
    exact lev_least_in D.good (by rw [hx.len]; lia) ((piece_iff D hx k hk4).mp hk2) h
  · rename_i hne
    have hne : (List.range 4).filter (pieceOut x ds) = [] := Decidable.not_not.mp hne
    refine lev_least_out (by rw [hx.len]; lia) (by rw [hx.len]; lia) (fun k hk e => ?_) h
    have hk4 : k < 4 := by rw [hx.len] at hk; lia
    have := (piece_iff D hx k hk4).mpr e
    have hmem : k ∈ (List.range 4).filter (pieceOut x ds) := List.mem_filter.mpr ⟨List.mem_range.mpr hk4, this⟩
    rw [hne] at hmem
    exact absurd hmem List.not_mem_nil
end
end Mine
end
section
example : True := by w_top off; trivial
open PySem PySem.W PyProof.Rows PyProof.Rows.LCg
set_option maxRecDepth 100000
namespace Mine
theorem ok_asc {x : Str} (h : ∀ c ∈ sg x, c < 128) : PyData.strOk x = true := by
  unfold PyData.strOk
  rw [Array.all_eq_true_iff_forall_mem]
  intro c hc
  have := h c (Array.mem_toList_iff.mpr hc)
  simp; omega
theorem shaped5 {a b c d e : Str} (oa : PyData.strOk a = true) (ob : PyData.strOk b = true) (oc : PyData.strOk c = true) (od : PyData.strOk d = true) (oe : PyData.strOk e = true) : PySem.SeqAt.shaped (.list [.str a, .str b, .str c, .str d, .str e]) = true := by
  simp [PySem.SeqAt.shaped, PyData.canLay0, PyData.canLayAll0, PyData.depth, PyData.depthAll, oa, ob, oc, od, oe]
theorem eqv5 (a b c d e : Str) : PyData.eqv (.list [.str a, .str b, .str c, .str d, .str e]) (.list [.str a, .str b, .str c, .str d, .str e]) = true := by
  simp [PyData.eqv, PyData.eqvAll]
theorem stage_asc {x : Str} {ds : List (Bool × Int)} (D : DsOk ds) (hx : BareOk (sg x)) (i : Nat) : ∀ c ∈ sg (foldS x (ds.take i)), c < 128 := by
  rw [foldS_sg]
  exact fold_asc _ _ (fun d hd => D.good.1 d (List.mem_of_mem_take hd)) (bare_asc hx)
section
variable {prog : Program} {w : World} {A : Around} {E : Value → Shared → Prop} {s : Shared} {h₀ : Heap} {L : Addr} {news : List (Addr × Obj)} {Q : Value → Shared → Prop}
theorem ne_stages {a b : Addr} {x : Str} {ds : List (Bool × Int)} {t t' : Tok × Tok × Tok × Tok × Tok} {k k' : Nat} (N : News h₀ L s.heap news) (h1 : (a, fiveO x ds t k) ∈ news) (h2 : (b, fiveO x ds t' k') ∈ news) (D : DsOk ds) (hx : BareOk (sg x)) (hu : A.units + 64 < cLine) (h : Q (.bool false) s) :
    wpAny (model prog w) A (compareOp .NotEq (.ref a) (.ref b)) Q E s := by
  have ok := fun i => ok_asc (stage_asc D hx i)
  have rd : ∀ (z : Addr) (t : Tok × Tok × Tok × Tok × Tok) (k : Nat), (z, fiveO x ds t k) ∈ news → Reads s.heap (.ref z) (.list [.str (foldS x (ds.take 0)), .str (foldS x (ds.take 1)), .str (foldS x (ds.take 2)), .str (foldS x (ds.take 3)), .str (foldS x (ds.take 4))]) _ :=
    fun z t k hz => reads_list_at (N _ hz).1 rfl rfl (.cons (.str _ _) (.cons (.str _ _) (.cons (.str _ _) (.cons (.str _ _) (.cons (.str _ _) .nil)))))
  have sh := shaped5 (ok 0) (ok 1) (ok 2) (ok 3) (ok 4)
  refine ne_dataH (rd a t k h1) (rd b t' k' h2) sh sh hu ?_
  rw [eqv5]
  exact h
theorem ne_read {a b : Addr} {x y z : Str} {n m : Int} {k1 k2 k3 k4 j1 j2 j3 j4 : Tok} {k k' : Nat} (N : News h₀ L s.heap news) (h1 : (a, ({ cls := .type "list", data := .seq #[.str x k1, .str y k2, .str z k3, .int n k4] k } : Obj)) ∈ news) (h2 : (b, ({ cls := .type "list", data := .seq #[.str x j1, .str y j2, .str z j3, .int m j4] k' } : Obj)) ∈ news)
    (ox : PyData.strOk x = true) (oy : PyData.strOk y = true) (oz : PyData.strOk z = true) (e : n = m) (hu : A.units + 64 < cLine) (h : Q (.bool false) s) :
    wpAny (model prog w) A (compareOp .NotEq (.ref a) (.ref b)) Q E s := by
  subst e
  have sh : PySem.SeqAt.shaped (.list [.str x, .str y, .str z, .int n]) = true := by
    simp [PySem.SeqAt.shaped, PyData.canLay0, PyData.canLayAll0, PyData.depth, PyData.depthAll, ox, oy, oz]
  refine ne_dataH (da := .list [.str x, .str y, .str z, .int n]) (db := .list [.str x, .str y, .str z, .int n]) (reads_list_at (N _ h1).1 rfl rfl (.cons (.str _ _) (.cons (.str _ _) (.cons (.str _ _) (.cons (.int _ _) .nil))))) (reads_list_at (N _ h2).1 rfl rfl (.cons (.str _ _) (.cons (.str _ _) (.cons (.str _ _) (.cons (.int _ _) .nil))))) sh sh hu ?_
  have e : PyData.eqv (.list [.str x, .str y, .str z, .int n]) (.list [.str x, .str y, .str z, .int n]) = true := by
    simp [PyData.eqv, PyData.eqvAll]
  rw [e]
  exact h
end
theorem take4 {ds : List (Bool × Int)} (D : DsOk ds) : ds.take 4 = ds := List.take_of_length_le (Nat.le_of_eq D.len)
theorem law_readA (w : World) (news : List (Addr × Obj)) (x : Str) (ds : List (Bool × Int)) (tx : Tok) (D : DsOk ds) (hx : BareOk (sg x)) (h178 : ∀ p ∈ news, p.1 ≠ 178) : Does w 183 10 ((178, tabObj #[]) :: news) [.str (foldS x (ds.take 4)) tx]
    (fun r tl => ∃ c' oc', LRd x ds c' oc' news r tl ∧ codeOk oc' ∧ (∀ p ∈ (178, nestAt c') :: news, p.1 < c')) := by
  rw [take4 D]
  exact law_read1 w news x ds tx D.good D.dd hx (by rw [foldS_sg]; exact Nat.le_trans (D.small _ hx) (by decide)) h178
theorem law_readB (w : World) (news : List (Addr × Obj)) (x : Str) (ds : List (Bool × Int)) (tx : Tok) (c' : Addr) (oc' : Obj) (hc : codeOk oc') (D : DsOk ds) (hx : BareOk (sg x)) (h178 : ∀ p ∈ news, p.1 ≠ 178) : Does w 183 10 ((178, nestAt c') :: (c', oc') :: news) [.str (foldS x (undress ds)) tx]
    (LRd x (undress ds) c' oc' news) :=
  law_read2 w news x (undress ds) tx c' oc' hc D.ugood D.dd2 hx (by rw [foldS_sg]; exact Nat.le_trans (D.usmall _ hx) (by decide)) h178
theorem mem_mid {α : Type} {t : α} {ps r : List α} : ∀ y ∈ t :: (ps ++ r), y ∈ ps ++ (t :: r) := by
  intro y hy
  simp only [List.mem_append, List.mem_cons] at hy ⊢
  rcases hy with h | h | h <;> simp [h]
theorem mem_mid2 {α : Type} {t u : α} {ps r : List α} : ∀ y ∈ t :: u :: (ps ++ r), y ∈ ps ++ (t :: u :: r) := by
  intro y hy
  simp only [List.mem_append, List.mem_cons] at hy ⊢
  rcases hy with h | h | h | h <;> simp [h]
theorem mem_pick {α : Type} {c : α} {ps ms qs r : List α} : ∀ y ∈ qs ++ (c :: r), y ∈ ps ++ (c :: (ms ++ (qs ++ r))) := by
  intro y hy
  simp only [List.mem_append, List.mem_cons] at hy ⊢
  rcases hy with h | h | h <;> simp [h]
theorem mem_keep {α : Type} {ps ms qs r : List α} : ∀ y ∈ ps ++ qs, y ∈ ps ++ (ms ++ (qs ++ r)) := by
  intro y hy
  simp only [List.mem_append] at hy ⊢
  rcases hy with h | h <;> simp [h]
theorem bring9 {g h : Heap} {L : Addr} {a b c d e f i j k t : Addr × Obj} {tu : List (Addr × Obj)} (N : News g L h (a :: b :: c :: d :: e :: f :: i :: j :: k :: t :: tu)) : News g L h (t :: a :: b :: c :: d :: e :: f :: i :: j :: k :: tu) := cb_drop N (mem_mid (ps := [_, _, _, _, _, _, _, _, _]))
theorem ok_undress {x : Str} {ds : List (Bool × Int)} (D : DsOk ds) (hx : BareOk (sg x)) : PyData.strOk (foldS x (undress ds)) = true := ok_asc (by rw [foldS_sg]; exact fold_asc _ _ D.ugood.1 (bare_asc hx))
theorem undress_ok {ds : List (Bool × Int)} (h : ∀ d ∈ ds, DeedOk d) : ∀ d ∈ undress ds, DeedOk d := by
  induction ds with
  | nil => exact h
  | cons e r ih =>
    intro d hd
    unfold undress at hd
    split at hd
    · exact h d (List.mem_cons_of_mem _ hd)
    · rcases List.mem_cons.mp hd with q | hd
      · rw [q]; exact h e (List.mem_cons_self ..)
      · exact ih (fun d hd => h d (List.mem_cons_of_mem _ hd)) d hd
theorem ok_undress2 {x : Str} {ds : List (Bool × Int)} (D : DsOk ds) (hx : BareOk (sg x)) : PyData.strOk (foldS x (undress (undress ds))) = true := ok_asc (by rw [foldS_sg]; exact fold_asc _ _ (undress_ok D.ugood.1) (bare_asc hx))
theorem undress_len (ds : List (Bool × Int)) : (undress ds).length ≤ ds.length := by
  induction ds with
  | nil => exact Nat.le_refl _
  | cons e r ih =>
    unfold undress
    split
    · simp
    · simp only [List.length_cons]; omega
theorem ok_end : PyData.strOk (Str.ofString "end") = true := by decide +kernel
theorem ok_nil : PyData.strOk (Str.ofString "") = true := by decide +kernel
theorem cnt_count (c : Nat) : ∀ l : List Nat, Spec.countIn (.str ⟨#[c]⟩) (l.map fun n => PyData.str ⟨#[n]⟩) = ((l.count c : Nat) : Int)
  | [] => rfl
  | a :: r => by
    have ih := cnt_count c r
    rw [List.map_cons, List.count_cons]
    unfold Spec.countIn
    rw [ih]
    by_cases h : a = c
    · subst h; simp [PyData.eqv, PySem.Spec.same]; try omega
    · have h' : ¬ c = a := fun e => h e.symm
      simp [PyData.eqv, PySem.Spec.same, h, h']
theorem count10 (x : Str) : Txt.count x (Str.ofString "\n") = ((sg x).count 10 : Nat) := by
  have e : Str.ofString "\n" = ⟨#[10]⟩ := by decide +kernel
  rw [e, count_cnt]
  exact cnt_count 10 (sg x)
theorem bring4 {g h : Heap} {L : Addr} {a b c d t u : Addr × Obj} {rest : List (Addr × Obj)} (N : News g L h (a :: b :: c :: d :: t :: u :: rest)) : News g L h (t :: u :: a :: b :: c :: d :: rest) := cb_drop N (mem_mid2 (ps := [_, _, _, _]))
end Mine
end
section
example : True := by w_top off; trivial
open PySem PySem.W PyProof.Rows PyProof.Rows.LCg
set_option maxRecDepth 100000
namespace Mine
theorem law_lev (w : World) (news : List (Addr × Obj)) (x : Str) (ds : List (Bool × Int)) (i j : Nat) (mc : Int) (ti tj tm : Tok) (D : DsOk ds) (hx : BareOk (sg x)) (hm : -1000000000000 ≤ mc ∧ mc ≤ 1000000000000) :
    Does w 35 3 news [.str (foldS x (ds.take i)) ti, .str (foldS x (ds.take j)) tj, .int mc tm] (fun r tl => tl = news ∧ ∃ v t, r = .int v t ∧ LevPost subA (sg (stg x ds i)) (sg (stg x ds j)) mc v) :=
  does_lev w news _ _ mc ti tj tm (by rw [length_sg]; exact Nat.le_trans (stage_len D hx i) (by decide)) (by rw [length_sg]; exact Nat.le_trans (stage_len D hx j) (by decide)) hm (stage_asc D hx i) (stage_asc D hx j)
theorem price_bound {a b : List Nat} (ha : a.length ≤ 40) (hb : b.length ≤ 40) (ds : List (Bool × Int)) : -80 ≤ priceL a b ds ∧ priceL a b ds ≤ 80 := by
  have h := List.countP_le_length (p := lamB ds) (l := a)
  unfold priceL
  lia
section
variable {x : Str} {ds : List (Bool × Int)} {m : Nat}
theorem near_bound (D : DsOk ds) (hx : BareOk (sg x)) : -80 ≤ near_ x ds m ∧ near_ x ds m ≤ 80 := price_bound (stage_len D hx 0) (stage_len D hx m) _
theorem far_bound (D : DsOk ds) (hx : BareOk (sg x)) : -80 ≤ far_ x ds m ∧ far_ x ds m ≤ 80 := price_bound (stage_len D hx m) (stage_len D hx 4) _
end
theorem law_first (w : World) (news : List (Addr × Obj)) (x : Str) (ds : List (Bool × Int)) (m : Nat) (b : Int) (ti tj tm : Tok) (D : DsOk ds) (hx : BareOk (sg x)) (hm : m ≤ 4) (h0 : 0 ≤ b) (h3 : b < 3) :
    Does w 35 3 news [.str (foldS x (ds.take 0)) ti, .str (foldS x (ds.take m)) tj, .int (near_ x ds m + b - 1) tm] (fun r tl => tl = news ∧ ∃ t, r = .int (near_ x ds m) t) := by
  have h := near_bound (m := m) D hx
  refine does_mono (law_lev w news x ds 0 m _ ti tj tm D hx (by lia)) (Nat.le_refl _) ?_
  rintro r tl ⟨e, v, t, e2, hl⟩
  exact ⟨e, t, by rw [e2, fin_first D hx hm (by lia) hl]⟩
theorem law_second (w : World) (news : List (Addr × Obj)) (x : Str) (ds : List (Bool × Int)) (m : Nat) (b : Int) (ti tj tm : Tok) (D : DsOk ds) (hx : BareOk (sg x)) (hm : m ≤ 4) (h0 : 0 ≤ b) (h3 : b < 3) :
    Does w 35 3 news [.str (foldS x (ds.take 4)) ti, .str (foldS x (ds.take m)) tj, .int (far_ x ds m + b - 1) tm] (fun r tl => tl = news ∧ ∃ t, r = .int (far_ x ds m) t) := by
  have h := far_bound (m := m) D hx
  refine does_mono (law_lev w news x ds 4 m _ ti tj tm D hx (by lia)) (Nat.le_refl _) ?_
  rintro r tl ⟨e, v, t, e2, hl⟩
  exact ⟨e, t, by rw [e2, fin_second D hx hm (by lia) hl]⟩
theorem law_whole (w : World) (news : List (Addr × Obj)) (x : Str) (ds : List (Bool × Int)) (m : Nat) (b : Int) (ti tj tm : Tok) (D : DsOk ds) (hx : BareOk (sg x)) (hm : m ≤ 4) (h0 : 0 ≤ b) (h3 : b < 3) :
    Does w 35 3 news [.str (foldS x (ds.take 0)) ti, .str (foldS x (ds.take 4)) tj, .int (near_ x ds m + far_ x ds m + b - 1) tm] (fun r tl => tl = news ∧ ∃ t, r = .int (near_ x ds m + far_ x ds m) t) := by
  have h := near_bound (m := m) D hx
  have h' := far_bound (m := m) D hx
  refine does_mono (law_lev w news x ds 0 4 _ ti tj tm D hx (by lia)) (Nat.le_refl _) ?_
  rintro r tl ⟨e, v, t, e2, hl⟩
  exact ⟨e, t, by rw [e2, fin_whole D hx hm (by lia) hl]⟩
/-- what the last one tells -/
noncomputable def leastV (x : Str) (ds : List (Bool × Int)) (m : Nat) (low : Int) : Int := if (List.range 4).filter (pieceOut x ds) ≠ [] then near_ x ds m + far_ x ds m else low + 1
theorem law_least (w : World) (news : List (Addr × Obj)) (x : Str) (ds : List (Bool × Int)) (m : Nat) (low : Int) (ti tj tm : Tok) (D : DsOk ds) (hx : BareOk (sg x)) (hm : m ≤ 4) (h0 : -1000000000000 ≤ low) (h3 : low < 2 * (((foldS x (ds.take 4)).length : Int) - 3)) :
    Does w 35 3 news [.str (foldS x (ds.take 4)) ti, .str (foldS x (ds.take 0)) tj, .int low tm] (fun r tl => tl = news ∧ ∃ t, r = .int (leastV x ds m low) t) := by
  have hl4 := stage_len D hx 4
  rw [← length_sg] at hl4
  refine does_mono (law_lev w news x ds 4 0 _ ti tj tm D hx (by lia)) (Nat.le_refl _) ?_
  rintro r tl ⟨e, v, t, e2, hl⟩
  exact ⟨e, t, by rw [e2, fin_least D hx hm h3 hl]; rfl⟩
end Mine
end
section
example : True := by w_top off; trivial
open PySem PySem.W PyProof.Rows PyProof.Rows.LCg
namespace Mine
theorem mid0 {f : Int} (h : 0 ≤ f) : 0 ≤ 1 + f := by omega
theorem mid4 {f : Int} (h : f < 3) : 1 + f ≤ 4 := by omega
theorem rotTu {g h : Heap} {L : Addr} {x : Addr × Obj} {tu l : List (Addr × Obj)} (N : News g L h (x :: (tu ++ l))) : News g L h (x :: (l ++ tu)) := cb_drop N (by
  intro p hp
  simp only [List.mem_cons, List.mem_append] at hp ⊢
  rcases hp with h | h | h <;> simp [h])
theorem drop10 {g h : Heap} {L : Addr} {a b c d e f i j k t p1 p2 p3 p4 p5 p6 p7 : Addr × Obj} {tu : List (Addr × Obj)} (N : News g L h (a :: b :: c :: d :: e :: f :: i :: j :: k :: t :: p1 :: p2 :: p3 :: p4 :: p5 :: p6 :: p7 :: tu)) : News g L h (p1 :: p2 :: p3 :: p4 :: p5 :: p6 :: p7 :: c :: tu) := cb_drop N (mem_pick (ps := [_, _]) (ms := [_, _, _, _, _, _, _]) (qs := [_, _, _, _, _, _, _]))
theorem fr_few {g h : Heap} {L : Addr} {m : Str → Option Value} (F : Fr g L h m) {x1 x2 x3 x4 : Str} {v1 v2 v3 v4 : Option Value} (e1 : m x1 = v1) (e2 : m x2 = v2) (e3 : m x3 = v3) (e4 : m x4 = v4) : ∃ m0 : Str → Option Value, Fr g L h (fun z => if z = x1 then v1 else if z = x2 then v2 else if z = x3 then v3 else if z = x4 then v4 else m0 z) := by
  have : (fun z => if z = x1 then v1 else if z = x2 then v2 else if z = x3 then v3 else if z = x4 then v4 else m z) = m := by
    funext z
    split
    · rename_i h; rw [h, e1]
    split
    · rename_i h; rw [h, e2]
    split
    · rename_i h; rw [h, e3]
    split
    · rename_i h; rw [h, e4]
    rfl
  exact ⟨m, by rw [this]; exact F⟩
theorem off_tu {tu l : List (Addr × Obj)} {a : Addr} {o : Obj} (h : ∀ p ∈ tu, ∀ q ∈ l, q.1 < p.1) (hm : (a, o) ∈ l) : ∀ p ∈ tu, p.1 ≠ a := fun p hp => Nat.ne_of_gt (h p hp (a, o) hm)
theorem five_val {x : Str} {ds : List (Bool × Int)} {t : Tok × Tok × Tok × Tok × Tok} (i : Int) (h0 : 0 ≤ i) (h4 : i ≤ 4) : ∃ u, [Value.str (foldS x (ds.take 0)) t.1, Value.str (foldS x (ds.take 1)) t.2.1, Value.str (foldS x (ds.take 2)) t.2.2.1, Value.str (foldS x (ds.take 3)) t.2.2.2.1, Value.str (foldS x (ds.take 4)) t.2.2.2.2][i.toNat]? = some (.str (foldS x (ds.take i.toNat)) u) := by
  have hc : i = 0 ∨ i = 1 ∨ i = 2 ∨ i = 3 ∨ i = 4 := by omega
  rcases hc with rfl | rfl | rfl | rfl | rfl <;> exact ⟨_, rfl⟩
theorem keep5 {g h : Heap} {L : Addr} {a b c d e f i j : Addr × Obj} {tu : List (Addr × Obj)} (N : News g L h (a :: b :: c :: d :: e :: f :: i :: j :: tu)) : News g L h [a, b, e, f, i, j] := cb_drop N (mem_keep (ps := [_, _]) (ms := [_, _]) (qs := [_, _, _, _]))
theorem restT_none {prog : Program} {w : World} {A : Around} {s : Shared} {h₀ : Heap} {L : Addr} {m : Str → Option Value} {env : Env} {ct elt : Expr} {x : Str} {scope : Scope} {cl : List (Str × Addr)} {S : List (Addr × Obj) → Prop} {P : Nat → Value → Prop} {news : List (Addr × Obj)} {Fin : List Value → List (Addr × Obj) → Prop} (n : Nat) (hS : S news)
    (turn : ∀ i v I oI C oC D m₂ h tk (E' : Value → Shared → Prop), P i v → NsObj oC m₂ → m₂ x = some v → Fr h₀ L h m → News h₀ L h ((I, oI) :: (C, oC) :: (D, lst []) :: news) → Off3 I C D news → ((@Ne Nat I C) ∧ (@Ne Nat I D) ∧ (@Ne Nat C D)) →
      wpAny (model prog w) A (isTrue ct (compEnvC scope cl C env) (eval ct (compEnvC scope cl C env))) (fun ok s' => ok = false ∧ CompEnd h₀ L m { s with heap := h, toks := tk } I oI C oC D (lst []) S (fun _ news' => news' = news) Value.none s') E' { s with heap := h, toks := tk })
    (fin : Fin [] news) : LCt.CompRestT prog w A h₀ L m env ct elt x scope cl s S P Fin n 0 [] news := by
  have key : ∀ (j i : Nat), LCt.CompRestT prog w A h₀ L m env ct elt x scope cl s S P Fin j i [] news := by
    intro j
    induction j with
    | zero => exact fun i => LCt.CompRestT.zero fin
    | succ j ih =>
      intro i
      refine LCt.CompRestT.succ ?_
      intro v I oI C oC D m₂ h tk E' hv hC hx F N off ne
      refine wpAny_mono (turn i v I oI C oC D m₂ h tk E' hv hC hx F N off ne) (fun ok s₂ hq => ?_) fun _ _ e => e
      obtain ⟨rfl, hq⟩ := hq
      simp only [Bool.false_eq_true, if_false]
      obtain ⟨h', tk', nw, e, F', N', off', hS', hnw⟩ := hq
      rw [hnw] at N' off' hS'
      exact ⟨h', tk', news, e, F', N', off', hS', ih (i + 1)⟩
  exact key n 0
theorem four_int {a b c d : Int} {t1 t2 t3 t4 : Tok} {i : Nat} {v : Value} (h : (#[Value.int a t1, Value.int b t2, Value.int c t3, Value.int d t4] : Array Value)[i]? = some v) : ∃ n t, v = .int n t := by
  have hm := Array.mem_of_getElem? h
  simp only [List.mem_toArray, List.mem_cons, List.not_mem_nil, or_false] at hm
  rcases hm with h | h | h | h <;> exact ⟨_, _, h⟩
theorem eq_four {prog : Program} {w : World} {A : Around} {E : Value → Shared → Prop} {s : Shared} {h₀ : Heap} {L : Addr} {news : List (Addr × Obj)} {Q : Value → Shared → Prop} {a b : Addr} {p1 p2 p3 p4 q4 : Int} {u1 u2 u3 u4 v1 v2 v3 v4 : Tok} {k k' : Nat} (N : News h₀ L s.heap news)
    (h1 : (a, W.listOf #[Value.int p1 u1, Value.int p2 u2, Value.int p3 u3, Value.int p4 u4] k) ∈ news) (h2 : (b, W.listOf #[Value.int p1 v1, Value.int p2 v2, Value.int p3 v3, Value.int q4 v4] k') ∈ news) (e : p4 = q4) (hu : A.units + 64 < cLine) (h : Q (.bool true) s) :
    wpAny (model prog w) A (compareOp .Eq (.ref a) (.ref b)) Q E s := by
  subst e
  have sh : PySem.SeqAt.shaped (.list [.int p1, .int p2, .int p3, .int p4]) = true := by
    simp [PySem.SeqAt.shaped, PyData.canLay0, PyData.canLayAll0, PyData.depth, PyData.depthAll]
  refine eq_dataH (da := .list [.int p1, .int p2, .int p3, .int p4]) (db := .list [.int p1, .int p2, .int p3, .int p4]) (reads_list_at (N _ h1).1 rfl rfl (.cons (.int _ _) (.cons (.int _ _) (.cons (.int _ _) (.cons (.int _ _) .nil))))) (reads_list_at (N _ h2).1 rfl rfl (.cons (.int _ _) (.cons (.int _ _) (.cons (.int _ _) (.cons (.int _ _) .nil))))) sh sh hu ?_
  have e : PyData.eqv (.list [.int p1, .int p2, .int p3, .int p4]) (.list [.int p1, .int p2, .int p3, .int p4]) = true := by
    simp [PyData.eqv, PyData.eqvAll]
  rw [e]
  exact h
theorem least_no {x : Str} {ds : List (Bool × Int)} {m : Nat} {low : Int} (h : decide (List.map (fun i : Nat => (i : Int)) (List.filter (pieceOut x ds) (List.range 4)) = []) = true) : leastV x ds m low = low + 1 := by
  unfold leastV
  rw [if_neg]
  simpa using of_decide_eq_true h
theorem least_yes {x : Str} {ds : List (Bool × Int)} {m : Nat} {low : Int} (h : decide (List.map (fun i : Nat => (i : Int)) (List.filter (pieceOut x ds) (List.range 4)) = []) = false) : leastV x ds m low = near_ x ds m + far_ x ds m := by
  unfold leastV
  rw [if_pos]
  intro e
  rw [e] at h
  simp at h
local macro_rules | `(tactic| k_all) => `(tactic| exact off_tu (by assumption) (by k_mem))
local macro_rules | `(tactic| walk_at "compareOp NotEq ref ref") => `(tactic| (k_here; k_dflt (refine' ne_stages ?y1 ?y2 ?y3 (by assumption) (by assumption) ?y4 ?_; (case y1 => k_asm); (case y2 => k_mem); (case y3 => k_mem); (case y4 => ke_room))))
local macro_rules | `(tactic| walk_at "compareOp NotEq ref ref") => `(tactic| (k_here; k_dflt (refine' ne_read ?w1 ?w2 ?w3 ?w4 ?w5 ?w6 ?w7 ?w8 ?_; (case w1 => k_asm); (case w2 => k_mem); (case w3 => k_mem); (case w4 => (with_reducible assumption)); (case w5 => (with_reducible assumption)); (case w6 => (with_reducible assumption)); (case w8 => ke_room); (case w7 => first | (rw [count10, take4 (by assumption)]) | (rw [count10])))))
local macro_rules | `(tactic| walk_at "subscriptTail") => `(tactic| (k_here; k_dflt ((refine' last_text ?q1 ?q2 ?q3 ?_ ?q4); (case q1 => k_asm); (case q2 => k_mem); (case q3 => decide); (case q4 => with_unfolding_all rfl))))
local macro_rules | `(tactic| walk_at "call ref") => `(tactic| (k_here; (with_reducible show wpAny _ _ (call (Value.ref _) _) _ _ _); refine Mark.out ?_))
local macro_rules | `(tactic| walk_at "subscriptTail Name Constant ref int") => `(tactic| (k_here; k_dflt ((refine' item_any ?q1 ?q2 ?q3 ?q5 ?q6 ?_ ?q4); (case q1 => k_asm); (case q2 => k_mem); (case q3 => exact rfl); (case q5 => decide); (case q6 => decide); (case q4 => with_unfolding_all rfl))))
local macro_rules | `(tactic| walk_at "exec Assign cons ListComp") => `(tactic| (k_here; k_dflt (refine LCt.Assign_ListComp_T (F₀ := by k_asm) (by rfl) (by with_unfolding_all rfl) (by with_unfolding_all rfl) (by decide) (by rfl) (by decide) (by rfl) (by rfl) (by rfl) ?_)))
local macro_rules | `(tactic| walk_at "subscriptTail Name Name ref int") => `(tactic| (k_here; k_dflt ((refine' item_any ?q1 ?q2 ?q3 ?q5 ?q6 ?_ ?q4); (case q1 => k_asm); (case q2 => k_mem); (case q3 => (with_reducible assumption)); (case q5 => omega); (case q6 => omega); (case q4 => with_unfolding_all rfl))))
local macro_rules | `(tactic| walk_at "compareOp Eq ref ref") => `(tactic| (k_here; refine Mark.out ?_))

set_option maxRecDepth 100000 in
set_option maxHeartbeats 8000000 in
theorem law_walk : PySem.Challenge.rw_sc0073_01.Holds := hd (by
  k_go0
  all_goals try k_fold
  refine no_raise ?_
  refine wp_hideQ ?_
  intro R0 hR0
  rename Shared => s1
  have fin : ∀ (h' : Heap) (tk' : Nat) (m' : Str → Option Value) (nws : List (Addr × Obj)) (c' : Addr), Fr (ghostOf s1.heap [(182, 178)]) s1.heap.objs.size h' m' → News (ghostOf s1.heap [(182, 178)]) s1.heap.objs.size h' nws → (178, nestAt c') ∈ nws → R0 (Flow.ret (Value.bool true)) { heap := h', gens := s1.gens, drawn := s1.drawn, toks := tk', os := s1.os } := by
    intro h' tk' m' nws c' F' N' hm
    refine hR0 _ _ ?_
    k_steps
  clear hR0
  rename IntsAre _ _ => hI9
  have hl9 := hI9.length
  have hlen9 := Nat.le_trans (Nat.le_of_eq hl9) (show _ ≤ 63 by omega)
  k_steps
  refine Mark.intro ?_
  k_dflt (refine' DoesP.use (does_cells _ _ _ _ _ hI9 ?zl) ?z0 ?z1 ?z2 ?z3 ?z4 ?z5 ?z6 ?z7 ?z8 ?_; (case z1 => k_asm); (case z2 => k_asm); (case z3 => k_asm); (case z4 => k_asm); (case z5 => k_asm); (case z6 => first | exact rfl | assumption); (case z7 => ktr_room); (case z8 => ktr_units); (case zl => exact hlen9); (case z0 => (with_reducible assumption)); skip)
  intro r9 tl9 h9 tk9 P9 F9 N9
  obtain ⟨a1, k1, c0, c1, c2, c3, t0, t1, t2, t3, e9, e8, lt1, g0, g1, g2, g3⟩ := P9
  subst e9; subst e8
  try dsimp only
  try k_fold
  try k_lt lt1
  k_steps
  refine Mark.intro ?_
  k_dflt (refine' Does.use (law_bare _ _ _ _ ?za ?zb) ?z1 ?z2 ?z3 ?z4 ?z5 ?z6 ?z7 ?z8 ?_; (case z1 => k_asm); (case z2 => k_asm); (case z3 => k_asm); (case z4 => k_asm); (case z5 => k_asm); (case z6 => first | exact rfl | assumption); (case z7 => ktr_room); (case z8 => ktr_units); (case za => exact g0.1); (case zb => (have g0' : c0 < 2 ^ 40 := by omega); exact g0'); skip)
  intro r9 tl9 h9 tk9 P9 F9 N9
  obtain ⟨e9, x, tx, e8, hx⟩ := P9
  subst e9; subst e8
  try dsimp only
  try k_fold
  k_steps
  refine Mark.intro ?_
  k_dflt (refine' Does.use (law_deeds _ _ _ _ _ _) ?z1 ?z2 ?z3 ?z4 ?z5 ?z6 ?z7 ?z8 ?_; (case z1 => k_asm); (case z2 => k_asm); (case z3 => k_asm); (case z4 => k_asm); (case z5 => k_asm); (case z6 => first | exact rfl | assumption); (case z7 => ktr_room); (case z8 => ktr_units); skip)
  intro r9 tl9 h9 tk9 P9 F9 N9
  obtain ⟨a2, k2, vs, tu, ds, e9, e8, D, hD, lt2, lt3, lt4⟩ := P9
  subst e9; subst e8
  try dsimp only
  try k_fold
  have N8 := rotTu N9
  clear N9
  simp only [List.cons_append, List.nil_append] at N8
  try k_lt lt2
  k_steps
  refine Mark.intro ?_
  k_dflt (refine' Does.use (law_write5 _ _ _ _ _ _ _ _ ?zm ?zD D hx) ?z1 ?z2 ?z3 ?z4 ?z5 ?z6 ?z7 ?z8 ?_; (case z1 => k_asm); (case z2 => k_asm); (case z3 => k_asm); (case z4 => k_asm); (case z5 => k_asm); (case z6 => first | exact rfl | assumption); (case z7 => ktr_room); (case z8 => ktr_units); (case zm => k_mem); (case zD => exact hD.mono (by intro p hp; repeat (first | exact hp | apply List.mem_cons_of_mem))); skip)
  intro r9 tl9 h9 tk9 P9 F9 N9
  obtain ⟨a3, t5, k3, e9, e8, lt5⟩ := P9
  subst e9; subst e8
  try dsimp only
  try k_fold
  try k_lt lt5
  k_steps
  refine Mark.intro ?_
  k_dflt (refine' Does.use (law_spell5 _ _ _ _ _ _ _ _ ?zm ?zD D hx) ?z1 ?z2 ?z3 ?z4 ?z5 ?z6 ?z7 ?z8 ?_; (case z1 => k_asm); (case z2 => k_asm); (case z3 => k_asm); (case z4 => k_asm); (case z5 => k_asm); (case z6 => first | exact rfl | assumption); (case z7 => ktr_room); (case z8 => ktr_units); (case zm => k_mem); (case zD => exact hD.mono (by intro p hp; repeat (first | exact hp | apply List.mem_cons_of_mem))); skip)
  intro r9 tl9 h9 tk9 P9 F9 N9
  obtain ⟨a4, t6, k4, e9, e8, lt6⟩ := P9
  subst e9; subst e8
  try dsimp only
  try k_fold
  try k_lt lt6
  k_steps
  refine Mark.intro ?_
  k_dflt (refine' Does.use (does_undressed _ _ _ _ _ _ ?zm _ hD ?zt (Nat.le_of_eq D.len) ?zv D.dd) ?z1 ?z2 ?z3 ?z4 ?z5 ?z6 ?z7 ?z8 ?_; (case z1 => k_asm); (case z2 => k_asm); (case z3 => k_asm); (case z4 => k_asm); (case z5 => k_asm); (case z6 => first | exact rfl | assumption); (case z7 => ktr_room); (case z8 => ktr_units); (case zm => k_mem); (case zt => intro p hp; repeat (first | exact hp | apply List.mem_cons_of_mem)); (case zv => exact Nat.le_of_eq (hD.length.trans D.len)); skip)
  intro r9 tl9 h9 tk9 P9 F9 N9
  obtain ⟨a5, k5, vs5, e9, e8, lt7, hD5⟩ := P9
  subst e9; subst e8
  try dsimp only
  try k_fold
  try k_lt lt7
  k_steps
  refine Mark.intro ?_
  k_dflt (refine' Does.use (law_spellN _ _ _ _ _ _ _ _ ?zm ?zD D.ugood.1 ?zl hx) ?z1 ?z2 ?z3 ?z4 ?z5 ?z6 ?z7 ?z8 ?_; (case z1 => k_asm); (case z2 => k_asm); (case z3 => k_asm); (case z4 => k_asm); (case z5 => k_asm); (case z6 => first | exact rfl | assumption); (case z7 => ktr_room); (case z8 => ktr_units); (case zm => k_mem); (case zD => exact hD5.mono (by intro p hp; repeat (first | exact hp | apply List.mem_cons_of_mem))); (case zl => (rw [D.ulen]; decide)); skip)
  intro r9 tl9 h9 tk9 P9 F9 N9
  obtain ⟨a6, l6, t6', k6, e9, e8, lt8⟩ := P9
  subst e9; subst e8
  try dsimp only
  try k_fold
  try k_lt lt8
  k_steps
  have oku := ok_undress D hx
  have oku2 := ok_undress2 D hx
  have oke := ok_end
  have okn := ok_nil
  rename News _ _ _ _ => N7
  have N6 := bring9 N7
  clear N7
  refine Mark.intro ?_
  k_dflt (refine' Does.use (law_readA _ _ _ _ _ D hx ?zh) ?z1 ?z2 ?z3 ?z4 ?z5 ?z6 ?z7 ?z8 ?_; (case z1 => k_asm); (case z2 => k_asm); (case z3 => k_asm); (case z4 => exact N6); (case z5 => k_asm); (case z6 => first | exact rfl | assumption); (case z7 => ktr_room); (case z8 => ktr_units); (case zh => ((repeat (refine List.forall_mem_cons.mpr ⟨?_, ?_⟩; focus (first | k_ne | (dsimp only; omega)))); exact off_tu lt4 (o := tabObj #[]) (by k_mem))); skip)
  intro r9 tl9 h9 tk9 P9 F9 N9
  obtain ⟨c9, oc9, ⟨a7, k7, u1, u2, u3, u4, e9, e8, lt9⟩, hcode, lt9'⟩ := P9
  subst e9; subst e8
  try dsimp only
  try k_fold
  try k_lt lt9
  try k_lt lt9'
  k_steps
  refine Mark.intro ?_
  k_dflt (refine' Does.use (does_undressed _ _ _ _ _ _ ?zm _ hD5 ?zt ?zl ?zv D.dd2) ?z1 ?z2 ?z3 ?z4 ?z5 ?z6 ?z7 ?z8 ?_; (case z1 => k_asm); (case z2 => k_asm); (case z3 => k_asm); (case z4 => k_asm); (case z5 => k_asm); (case z6 => first | exact rfl | assumption); (case z7 => ktr_room); (case z8 => ktr_units); (case zm => k_mem); (case zt => intro p hp; repeat (first | exact hp | apply List.mem_cons_of_mem)); (case zl => (rw [D.ulen]; decide)); (case zv => (rw [hD5.length, D.ulen]; decide)); skip)
  intro r9 tl9 h9 tk9 P9 F9 N9
  obtain ⟨a8, k8, vs8, e9, e8, ltA, hD8⟩ := P9
  subst e9; subst e8
  try dsimp only
  try k_fold
  try k_lt ltA
  k_steps
  refine Mark.intro ?_
  k_dflt (refine' Does.use (law_spellN _ _ _ _ _ _ _ _ ?zm ?zD (undress_ok D.ugood.1) ?zl hx) ?z1 ?z2 ?z3 ?z4 ?z5 ?z6 ?z7 ?z8 ?_; (case z1 => k_asm); (case z2 => k_asm); (case z3 => k_asm); (case z4 => k_asm); (case z5 => k_asm); (case z6 => first | exact rfl | assumption); (case z7 => ktr_room); (case z8 => ktr_units); (case zm => k_mem); (case zD => exact hD8.mono (by intro p hp; repeat (first | exact hp | apply List.mem_cons_of_mem))); (case zl => exact Nat.le_trans (undress_len _) (by rw [D.ulen]; decide)); skip)
  intro r9 tl9 h9 tk9 P9 F9 N9
  obtain ⟨aA, lA, tA, kA, e9, e8, ltB⟩ := P9
  subst e9; subst e8
  try dsimp only
  try k_fold
  try k_lt ltB
  k_steps
  rename News _ _ _ _ => N7
  have N6 := bring4 N7
  clear N7
  refine Mark.intro ?_
  k_dflt (refine' Does.use (law_readB _ _ _ _ _ _ _ hcode D hx ?zh) ?z1 ?z2 ?z3 ?z4 ?z5 ?z6 ?z7 ?z8 ?_; (case z1 => k_asm); (case z2 => k_asm); (case z3 => k_asm); (case z4 => exact N6); (case z5 => k_asm); (case z6 => first | exact rfl | assumption); (case z7 => ktr_room); (case z8 => ktr_units); (case zh => ((repeat (refine List.forall_mem_cons.mpr ⟨?_, ?_⟩; focus (first | k_ne | (dsimp only; omega)))); exact off_tu lt4 (o := tabObj #[]) (by k_mem))); skip)
  intro r9 tl9 h9 tk9 P9 F9 N9
  obtain ⟨aB, kB, v1, v2, v3, v4, e9, e8, ltC⟩ := P9
  subst e9; subst e8
  try dsimp only
  try k_fold
  try k_lt ltC
  have q1 := Int.fmod_nonneg_of_pos (c1.fdiv 12) (by decide : (0 : Int) < 3)
  have q2 := Int.fmod_lt_of_pos (c1.fdiv 12) (by decide : (0 : Int) < 3)
  k_steps
  refine Mark.intro ?_
  rename Fr _ _ _ _ => FF
  rename News _ _ _ _ => NN
  (try dsimp +zetaDelta only at FF)
  obtain ⟨m0, F1⟩ := fr_few FF (x1 := Str.ofString "stages") (x2 := Str.ofString "deeds") (x3 := Str.ofString "cells") (x4 := Str.ofString "middle") (v1 := some (.ref a3)) (v2 := some (.ref a2)) (v3 := some (.ref a1)) (v4 := some (.int _ _)) rfl rfl rfl rfl
  clear FF
  have N1 := drop10 NN
  rename @LT.lt Nat _ aB _ ∧ _ => z9
  clear z9
  rename @LT.lt Nat _ a7 _ ∧ _ => z9
  clear z9
  clear NN ltC ltB ltA lt9' lt9 lt8 lt7 hD5 hD8 oku oku2 oke okn hcode
  refine Mark.out ?_
  rename Deeds _ _ _ => hDe
  generalize hmid : 1 + (c1.fdiv 12).fmod 3 = mid at F1 ⊢
  have m1 : 1 ≤ mid := by omega
  have m3 : mid ≤ 3 := by omega
  have m0' : 0 ≤ mid := by omega
  have m4' : mid ≤ 4 := by omega
  clear hmid q1 q2
  obtain ⟨um, hum⟩ := five_val (x := x) (ds := ds) (t := t5) mid m0' m4'
  have hl4 : (foldS x (List.take 4 ds)).length ≤ 40 := by rw [length_sg]; exact stage_len D hx 4
  refine Mark.intro ?_
  k_dflt (refine' Does.use (law_price _ _ _ _ _ _ _ _ _ _ _ _ _ _ ?zu ?zm ?zD D hx ?za ?zb ?zc) ?z1 ?z2 ?z3 ?z4 ?z5 ?z6 ?z7 ?z8 ?_; (case z1 => k_asm); (case z2 => k_asm); (case z3 => k_asm); (case z4 => k_asm); (case z5 => k_asm); (case z6 => first | exact rfl | assumption); (case z7 => ktr_room); (case z8 => ktr_units);  (case zu => k_mem); (case zm => k_mem); (case zD => exact hDe.mono (by intro p hp; repeat (first | exact hp | apply List.mem_cons_of_mem))); (case za => exact Int.le_refl _); (case zb => exact m0'); (case zc => exact m4'); skip)
  intro r9 tl9 h9 tk9 P9 F9 N9
  obtain ⟨e9, tn, e8⟩ := P9
  replace e8 : r9 = .int (near_ x ds mid.toNat) tn := e8; subst e9; subst e8
  try dsimp only
  try k_fold
  clear F1 N1
  k_steps
  refine Mark.intro ?_
  k_dflt (refine' Does.use (law_price _ _ _ _ _ _ _ _ _ _ _ _ _ _ ?zu ?zm ?zD D hx ?za ?zb ?zc) ?z1 ?z2 ?z3 ?z4 ?z5 ?z6 ?z7 ?z8 ?_; (case z1 => k_asm); (case z2 => k_asm); (case z3 => k_asm); (case z4 => k_asm); (case z5 => k_asm); (case z6 => first | exact rfl | assumption); (case z7 => ktr_room); (case z8 => ktr_units);  (case zu => k_mem); (case zm => k_mem); (case zD => exact hDe.mono (by intro p hp; repeat (first | exact hp | apply List.mem_cons_of_mem))); (case za => exact m0'); (case zb => exact m4'); (case zc => exact Int.le_refl _); skip)
  intro r9 tl9 h9 tk9 P9 F9 N9
  obtain ⟨e9, tf, e8⟩ := P9
  replace e8 : r9 = .int (far_ x ds mid.toNat) tf := e8; subst e9; subst e8
  try dsimp only
  try k_fold
  k_steps
  refine Mark.intro ?_
  rename Fr _ _ _ _ => FF
  rename News _ _ _ _ => NN
  (try dsimp +zetaDelta only at FF)
  generalize hbnd : c3 = bnd at FF ⊢
  have b0 : 0 ≤ bnd ∧ bnd < 2 ^ 30 := by rw [← hbnd]; exact g3
  clear hbnd
  have N2 := keep5 NN
  clear NN lt3 lt4 hDe
  have u0 := Int.fmod_nonneg_of_pos bnd (by decide : (0 : Int) < 3)
  have u3 := Int.fmod_lt_of_pos bnd (by decide : (0 : Int) < 3)
  have v0 := Int.fmod_nonneg_of_pos (bnd.fdiv 3) (by decide : (0 : Int) < 3)
  have v3 := Int.fmod_lt_of_pos (bnd.fdiv 3) (by decide : (0 : Int) < 3)
  have w0 := Int.fmod_nonneg_of_pos (bnd.fdiv 9) (by decide : (0 : Int) < 3)
  have w3 := Int.fmod_lt_of_pos (bnd.fdiv 9) (by decide : (0 : Int) < 3)
  have z0 : 0 ≤ bnd.fdiv 27 := Int.fdiv_nonneg b0.1 (by decide)
  have z1 : bnd.fdiv 27 ≤ bnd := by have := Int.mul_fdiv_add_fmod bnd 27; have := Int.fmod_nonneg_of_pos bnd (by decide : (0 : Int) < 27); omega
  have mN : mid.toNat ≤ 4 := by omega
  refine Mark.out ?_
  refine Mark.intro ?_
  k_dflt (refine' Does.use (law_first _ _ _ _ _ _ _ _ _ D hx mN u0 u3) ?z1 ?z2 ?z3 ?z4 ?z5 ?z6 ?z7 ?z8 ?_; (case z1 => k_asm); (case z2 => k_asm); (case z3 => k_asm); (case z4 => k_asm); (case z5 => k_asm); (case z6 => first | exact rfl | assumption); (case z7 => ktr_room); (case z8 => ktr_units); skip)
  intro r9 tl9 h9 tk9 P9 F9 N9
  obtain ⟨e9, t1', e8⟩ := P9
  subst e9; subst e8
  try dsimp only
  try k_fold
  k_steps
  refine Mark.intro ?_
  k_dflt (refine' Does.use (law_second _ _ _ _ _ _ _ _ _ D hx mN v0 v3) ?z1 ?z2 ?z3 ?z4 ?z5 ?z6 ?z7 ?z8 ?_; (case z1 => k_asm); (case z2 => k_asm); (case z3 => k_asm); (case z4 => k_asm); (case z5 => k_asm); (case z6 => first | exact rfl | assumption); (case z7 => ktr_room); (case z8 => ktr_units); skip)
  intro r9 tl9 h9 tk9 P9 F9 N9
  obtain ⟨e9, t2', e8⟩ := P9
  subst e9; subst e8
  try dsimp only
  try k_fold
  k_steps
  refine Mark.intro ?_
  k_dflt (refine' Does.use (law_whole _ _ _ _ _ _ _ _ _ D hx mN w0 w3) ?z1 ?z2 ?z3 ?z4 ?z5 ?z6 ?z7 ?z8 ?_; (case z1 => k_asm); (case z2 => k_asm); (case z3 => k_asm); (case z4 => k_asm); (case z5 => k_asm); (case z6 => first | exact rfl | assumption); (case z7 => ktr_room); (case z8 => ktr_units); skip)
  intro r9 tl9 h9 tk9 P9 F9 N9
  obtain ⟨e9, t3', e8⟩ := P9
  subst e9; subst e8
  try dsimp only
  try k_fold
  k_steps
  refine Mark.intro ?_
  k_dflt (refine' Does.use (law_least _ _ _ _ mid.toNat _ _ _ _ D hx mN ?y1 ?y2) ?z1 ?z2 ?z3 ?z4 ?z5 ?z6 ?z7 ?z8 ?_; (case z1 => k_asm); (case z2 => k_asm); (case z3 => k_asm); (case z4 => k_asm); (case z5 => k_asm); (case z6 => first | exact rfl | assumption); (case z7 => ktr_room); (case z8 => ktr_units); (case y1 => omega); (case y2 => omega); skip)
  intro r9 tl9 h9 tk9 P9 F9 N9
  obtain ⟨e9, t4', e8⟩ := P9
  subst e9; subst e8
  try dsimp only
  try k_fold
  k_steps
  refine Mark.intro ?_
  refine LCt.CompSrcT.ledger (by rfl) (by k_asm) (by k_asm) (by k_mem) (by rw [sizeLine_eq]; show 4 ≤ _; decide) (fun g => restT_none _ ?srcS ?turn ?fin)
  case srcS => exact .inr ⟨_, List.mem_cons_self .., rfl, _, rfl⟩
  case turn =>
    intro i v I oI C oC D' m₂ h tk E' hv hC hx F N off ne
    obtain ⟨n, t, rfl⟩ := four_int hv
    k_steps
    exact CompEnd.intro (by assumption) (by assumption) _ (fun p hp => hp) off (.inr ⟨_, List.mem_cons_self .., rfl, _, rfl⟩) rfl
  intro D' h tk F N off
  dsimp only
  k_steps
  refine Mark.intro ?_
  refine LCt.CompSrcT.range (n := 4) (by rfl) (by k_asm) (by k_asm) (by assumption) (by decide +kernel) (by decide +kernel) (by rw [sizeLine_eq]; decide) (fun g => restT_ints (pieceOut x ds) 4 trivial ?turn2 ?fin2)
  case turn2 =>
    intro i t I oI C oC D' m₂ ys h tk E' hi hC hx F N off ne
    k_steps
    · exact CompEnd.intro (by assumption) (by assumption) _ (fun p hp => hp) off trivial ⟨by unfold pieceOut; assumption, rfl, _, rfl⟩
    · exact CompEnd.intro (by assumption) (by assumption) _ (fun p hp => hp) off trivial ⟨by unfold pieceOut; assumption, rfl⟩
  intro ys hys D' h tk F N off
  dsimp only
  k_steps
  · refine Mark.intro ?_
    refine eq_four (by k_asm) (by k_mem) (by k_mem) (least_no (by assumption)) (by ke_room) ?_
    k_steps
    exact fin _ _ _ _ _ (by k_asm) (by k_asm) (by k_mem)
  · refine Mark.intro ?_
    refine eq_four (by k_asm) (by k_mem) (by k_mem) (least_yes (by assumption)) (by ke_room) ?_
    k_steps
    exact fin _ _ _ _ _ (by k_asm) (by k_asm) (by k_mem))
end Mine
end
end
end
end
end
end
end
theorem PySem.Challenge.cw_sc0073_01_holds : PySem.Challenge.rw_sc0073_01.Holds :=
  Mine.law_walk
