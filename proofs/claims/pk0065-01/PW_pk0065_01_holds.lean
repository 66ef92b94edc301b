import PyProof.Rows.All
import Wide.All
import OpenK.AllK
import Wide.FinOn
import Lean
import PySem.Challenge.RW_pk0065_01
open PySem PySem.W PyProof.Rows
set_option Elab.async false
set_option maxRecDepth 100000
set_option maxHeartbeats 8000000
set_option compiler.extract_closed false
namespace Mine
section
/-- a numeral of the head alone, equal to the usual one by rfl: with it the head is shown in one step; its pieces would take 13 MB of the compiled file -/
local instance (priority := 10000) fuel : OfNat Nat 2758 := ⟨2758⟩
open_top hd for PySem.Challenge.rw_pk0065_01
theorem off_now : True := by
  w_top off
  trivial
end
local macro_rules | `(tactic| walk_at $s:str) => `(tactic| k_extra $s)
local macro_rules | `(tactic| k_mem) => `(tactic| first | exact List.mem_cons_self | with_reducible assumption | (refine' List.mem_cons_of_mem _ ?_; k_mem))
local macro_rules | `(tactic| ktr_room) => `(tactic| ((try simp only [depth_under_make, depth_under_kw, depth_in1, depth_deeper, depth_caller] at *); (try dsimp only [ktrTop] at *); (simp only [recursionLimit] at *); omega))
local macro_rules | `(tactic| k_room) => `(tactic| ktr_room)
local macro_rules | `(tactic| k_units) => `(tactic| (have hcL9 := cLine_is; ((try simp only [units_in1, units_deeper, Around.mark_units, units_caller] at *); (try dsimp only [ktrTop] at *); omega)))
local macro_rules | `(tactic| kf1_first) => `(tactic| exact ⟨by k_asm, by k_asm, by k_asm, by k_asm, by k_asm, by k_asm, by k_asm, rfl, by ((try simp only [depth_in1, depth_deeper, depth_caller]); (try dsimp only [ktrTop]); omega), by ((try simp only [units_in1, units_deeper, Around.mark_units, units_caller]); (try dsimp only [ktrTop]); omega)⟩)
local macro_rules | `(tactic| kpr_short) => `(tactic| (intro l1; (try k_lt l1)))
section
abbrev Led := List (Addr × Obj)
abbrev sg (l : List Nat) : Str := ⟨l.toArray⟩
abbrev PG : Program := PySem.Challenge.rw_pk0065_01.row.prog
/-- a call keeps its word: from a ledger with Pre it comes back with a value and a ledger with Post -/
def Sp (w : World) (need : Nat) (f : Value) (args : List Value) (Pre : Led → Prop) (Post : Led → Value → Led → Prop) : Prop :=
  ∀ (p : Program) (loose : List Str) (mean : ExcName → Option Value) (mg mb : Str → Option Value) (dp un : Nat) (gd : Option (List Code)) (cn : Str) (cs : Scope) (a : Addr) (ccd : Value) (cl : List (Str × Addr)) (outer : List Env) (A₀ : Around) (base h₀ : Heap) (L : Addr) (m : Str → Option Value) (news : Led) (s : Shared)
    (Q E : Value → Shared → Prop), Below A₀ base outer h₀ → Fr h₀ L s.heap m → (hd.heap_39 w.params).In h₀ → News h₀ L s.heap news → Top p loose mean mg mb h₀ → CodeHd h₀ 185 181 → CodeHd h₀ 128 124 → cs.kind = .function →
    dp + need < 900 → un + 8 * need < 900 → Pre news →
    (∀ r news' h' tk', Fr h₀ L h' m → News h₀ L h' news' → Post news r news' → Q r { s with heap := h', toks := tk' }) →
    wpAny (model PySem.Challenge.rw_pk0065_01.row.prog w) (ktrTop dp un gd cn cs L a ccd cl outer) (call f args) Q E s
theorem sp_use {w : World} {need : Nat} {f : Value} {args : List Value} {Pre : Led → Prop} {Post : Led → Value → Led → Prop}
    {p : Program} {loose : List Str} {mean : ExcName → Option Value} {mg mb : Str → Option Value} {dp un : Nat} {gd : Option (List Code)} {cn : Str} {cs : Scope} {a : Addr} {ccd : Value} {cl : List (Str × Addr)} {outer : List Env} {A₀ : Around} {base h₀ : Heap} {L : Addr} {m : Str → Option Value} {news : Led} {s : Shared}
    {Q E : Value → Shared → Prop} (C : Sp w need f args Pre Post) (B : Below A₀ base outer h₀) (F : Fr h₀ L s.heap m) (X : (hd.heap_39 w.params).In h₀) (N : News h₀ L s.heap news) (T : Top p loose mean mg mb h₀) (c1 : CodeHd h₀ 185 181) (c2 : CodeHd h₀ 128 124) (hk : cs.kind = .function)
    (hdp : dp + need < 900) (hu : un + 8 * need < 900) (pre : Pre news)
    (ret : ∀ r news' h' tk', Fr h₀ L h' m → News h₀ L h' news' → Post news r news' → Q r { s with heap := h', toks := tk' }) :
    wpAny (model PySem.Challenge.rw_pk0065_01.row.prog w) (ktrTop dp un gd cn cs L a ccd cl outer) (call f args) Q E s := C _ _ _ _ _ _ _ _ _ _ _ _ _ _ _ _ _ _ _ _ _ _ _ B F X N T c1 c2 hk hdp hu pre ret
/-- what a call of a contract asks of the place where it stands -/
structure Rdy (w : World) (need : Nat) (p : Program) (loose : List Str) (mean : ExcName → Option Value) (mg mb : Str → Option Value) (dp un : Nat) (cs : Scope) (outer : List Env) (A₀ : Around) (base h₀ : Heap) (L : Addr) (m : Str → Option Value) (news : Led) (s : Shared) : Prop where
  B : Below A₀ base outer h₀
  F : Fr h₀ L s.heap m
  X : (hd.heap_39 w.params).In h₀
  N : News h₀ L s.heap news
  T : Top p loose mean mg mb h₀
  c1 : CodeHd h₀ 185 181
  c2 : CodeHd h₀ 128 124
  hk : cs.kind = .function
  hdp : dp + need < 900
  hu : un + 8 * need < 900
theorem sp_at {w : World} {need : Nat} {f : Value} {args : List Value} {Pre : Led → Prop} {Post : Led → Value → Led → Prop}
    {p : Program} {loose : List Str} {mean : ExcName → Option Value} {mg mb : Str → Option Value} {dp un : Nat} {gd : Option (List Code)} {cn : Str} {cs : Scope} {a : Addr} {ccd : Value} {cl : List (Str × Addr)} {outer : List Env} {A₀ : Around} {base h₀ : Heap} {L : Addr} {m : Str → Option Value} {news : Led} {s : Shared}
    {Q E : Value → Shared → Prop} (C : Sp w need f args Pre Post) (K : Rdy w need p loose mean mg mb dp un cs outer A₀ base h₀ L m news s) (pre : Pre news)
    (ret : ∀ r news' h' tk', Fr h₀ L h' m → News h₀ L h' news' → Post news r news' → Q r { s with heap := h', toks := tk' }) :
    wpAny (model PySem.Challenge.rw_pk0065_01.row.prog w) (ktrTop dp un gd cn cs L a ccd cl outer) (call f args) Q E s := sp_use C K.B K.F K.X K.N K.T K.c1 K.c2 K.hk K.hdp K.hu pre ret
/-- a call that tells a value and leaves the ledger as it was -/
theorem sp_pure {w : World} {need : Nat} {f : Value} {args : List Value} {Pre : Led → Prop} {g : Tok → Value}
    {p : Program} {loose : List Str} {mean : ExcName → Option Value} {mg mb : Str → Option Value} {dp un : Nat} {gd : Option (List Code)} {cn : Str} {cs : Scope} {a : Addr} {ccd : Value} {cl : List (Str × Addr)} {outer : List Env} {A₀ : Around} {base h₀ : Heap} {L : Addr} {m : Str → Option Value} {news : Led} {s : Shared}
    {Q E : Value → Shared → Prop} (C : Sp w need f args Pre (fun news r news' => news' = news ∧ ∃ t, r = g t)) (K : Rdy w need p loose mean mg mb dp un cs outer A₀ base h₀ L m news s) (pre : Pre news)
    (ret : ∀ h' tk', Fr h₀ L h' m → News h₀ L h' news → ∀ t, Q (g t) { s with heap := h', toks := tk' }) :
    wpAny (model PySem.Challenge.rw_pk0065_01.row.prog w) (ktrTop dp un gd cn cs L a ccd cl outer) (call f args) Q E s := sp_at C K pre (by rintro r nw h' tk' F N ⟨rfl, t, rfl⟩; exact ret h' tk' F N t)
theorem sp_val {w : World} {need : Nat} {f : Value} {args : List Value} {Pre : Led → Prop} {v : Value} {P : Led → Prop}
    {p : Program} {loose : List Str} {mean : ExcName → Option Value} {mg mb : Str → Option Value} {dp un : Nat} {gd : Option (List Code)} {cn : Str} {cs : Scope} {a : Addr} {ccd : Value} {cl : List (Str × Addr)} {outer : List Env} {A₀ : Around} {base h₀ : Heap} {L : Addr} {m : Str → Option Value} {news : Led} {s : Shared}
    {Q E : Value → Shared → Prop} (C : Sp w need f args Pre (fun _ r news' => r = v ∧ P news')) (K : Rdy w need p loose mean mg mb dp un cs outer A₀ base h₀ L m news s) (pre : Pre news)
    (ret : ∀ nw h' tk', Fr h₀ L h' m → News h₀ L h' nw → P nw → Q v { s with heap := h', toks := tk' }) :
    wpAny (model PySem.Challenge.rw_pk0065_01.row.prog w) (ktrTop dp un gd cn cs L a ccd cl outer) (call f args) Q E s := sp_at C K pre (by rintro r nw h' tk' F N ⟨rfl, q⟩; exact ret nw h' tk' F N q)
theorem sp_str {w : World} {need : Nat} {f : Value} {args : List Value} {Pre : Led → Prop} {g : Tok → Value} {P : Led → Prop}
    {p : Program} {loose : List Str} {mean : ExcName → Option Value} {mg mb : Str → Option Value} {dp un : Nat} {gd : Option (List Code)} {cn : Str} {cs : Scope} {a : Addr} {ccd : Value} {cl : List (Str × Addr)} {outer : List Env} {A₀ : Around} {base h₀ : Heap} {L : Addr} {m : Str → Option Value} {news : Led} {s : Shared}
    {Q E : Value → Shared → Prop} (C : Sp w need f args Pre (fun _ r news' => ∃ t, r = g t ∧ P news')) (K : Rdy w need p loose mean mg mb dp un cs outer A₀ base h₀ L m news s) (pre : Pre news)
    (ret : ∀ nw h' tk', Fr h₀ L h' m → News h₀ L h' nw → ∀ t, P nw → Q (g t) { s with heap := h', toks := tk' }) :
    wpAny (model PySem.Challenge.rw_pk0065_01.row.prog w) (ktrTop dp un gd cn cs L a ccd cl outer) (call f args) Q E s := sp_at C K pre (by rintro r nw h' tk' F N ⟨t, rfl, q⟩; exact ret nw h' tk' F N t q)
theorem sp_new {w : World} {need : Nat} {f : Value} {args : List Value} {Pre : Led → Prop} {P1 : List Value → Prop} {P2 : Led → Addr → Prop}
    {p : Program} {loose : List Str} {mean : ExcName → Option Value} {mg mb : Str → Option Value} {dp un : Nat} {gd : Option (List Code)} {cn : Str} {cs : Scope} {a : Addr} {ccd : Value} {cl : List (Str × Addr)} {outer : List Env} {A₀ : Around} {base h₀ : Heap} {L : Addr} {m : Str → Option Value} {news : Led} {s : Shared}
    {Q E : Value → Shared → Prop} (C : Sp w need f args Pre (fun news r news' => ∃ lr vs k, r = .ref lr ∧ news' = (lr, PySem.W.listOf (List.toArray vs) k) :: news ∧ P1 vs ∧ P2 news lr)) (K : Rdy w need p loose mean mg mb dp un cs outer A₀ base h₀ L m news s) (pre : Pre news)
    (ret : ∀ h' tk', Fr h₀ L h' m → ∀ lr vs k, P1 vs → P2 news lr → News h₀ L h' ((lr, PySem.W.listOf (List.toArray vs) k) :: news) → Q (.ref lr) { s with heap := h', toks := tk' }) :
    wpAny (model PySem.Challenge.rw_pk0065_01.row.prog w) (ktrTop dp un gd cn cs L a ccd cl outer) (call f args) Q E s := sp_at C K pre (by rintro r nw h' tk' F N ⟨lr, vs, k, rfl, rfl, p, q⟩; exact ret h' tk' F lr vs k p q N)
theorem gen_toks {α : Type} {M : Model} {A : Around} {t : Sem α} {Q : α → Shared → Prop} {E : Value → Shared → Prop} {h : Heap} {g : Array GenState} {d : Drawn} {os : OsState} {n : Nat} (h0 : 0 < n)
    (x : ∀ tk, 0 < tk → wpAny M A t Q E ⟨h, g, d, tk, os⟩) : wpAny M A t Q E ⟨h, g, d, n, os⟩ := x n h0
section
variable {prog : Program} {w : World} {A : Around} {E : Value → Shared → Prop} {s : Shared} {h₀ : Heap} {L : Addr} {news : Led}
theorem item_led {value slice : PySem.Expr} {l : Addr} {vs : Array Value} {n : Nat} {k : Int} {u : Tok} {v : Value} {Q : Value → Shared → Prop} (N : News h₀ L s.heap news) (hm : (l, PySem.W.listOf vs n) ∈ news)
    (h0 : 0 ≤ k) (hhi : k < 2 ^ 63) (hx : vs[k.toNat]? = some v) (h : Q v s)
    (hs : subscripted slice false (.ref l) (.int k u) = operate [.ref l, .int k u] (getItem (.ref l) (.int k u)) := by with_unfolding_all rfl) :
    wpAny (model prog w) A (subscriptTail value slice (.ref l) (.int k u)) Q E s :=
  have hl : s.heap.IsList l vs := ⟨_, (N _ hm).1, rfl, _, rfl⟩
  tail_any hl.typeIs slot_list_getitem.lookup (wpAny_getItem_list hl h0 hhi hx h) hs
theorem replace_t {x y z : Str} {t u v : Tok} {Q : Value → Shared → Prop} (hu : u ≠ 0) (hv : v ≠ 0) (huv : u ≠ v) (hyz : (y == z) = false) (hx : x.length ≤ 1048576) (hz : z.length ≤ 14)
    (hq : ∀ t' k, s.toks ≤ k → Q (.str (Txt.replace x y z) t') { s with toks := k }) : wpAny (model prog w) A (call (.builtin "str.replace") [.str x t, .str y u, .str z v]) Q E s :=
  wpAny_with_toks (Nat.le_refl _) (wpAny_mono (SC.replaceW (E := E) (Q := fun r s' => s.toks ≤ s'.toks → Q r s') hu hv huv hyz hx hz fun t' k hk => hq t' k hk) (fun _ _ q => q) fun _ _ q _ => q)
end
end
section
theorem sub_cons {α : Type} {a : α} {l l' : List α} (h : a ∈ l') (t : ∀ q ∈ l, q ∈ l') : ∀ q ∈ a :: l, q ∈ l'
  | _, .head _ => h
  | q, .tail _ m => t q m
theorem sub_nil {α : Type} {l' : List α} : ∀ q ∈ ([] : List α), q ∈ l' := fun _ h => nomatch h
theorem all_cons {α : Type} {P : α → Prop} {a : α} {l : List α} (h : P a) (t : ∀ q ∈ l, P q) : ∀ q ∈ a :: l, P q
  | _, .head _ => h
  | q, .tail _ m => t q m
theorem news_sub {h₀ h : Heap} {L : Addr} {l l' : Led} (N : News h₀ L h l') (s : ∀ q ∈ l, q ∈ l') : News h₀ L h l := fun q hq => N q (s q hq)
end
section
def order (n : Int) : Int := ([500, 1000, 499, 501, Int.fdiv n 60] : List Int).getD (Int.fmod n 5).toNat 0
theorem order_c (w : World) (n : Int) (t : Tok) : Sp w 2 (.ref 143) [.int n t] (fun _ => True) (fun news r news' => news' = news ∧ ∃ t', r = .int (order n) t') := by
  intro p loose mean mg mb dp un gd cn cs a ccd cl outer A₀ base h₀ L m news s Q E B F X N T c1 c2 hk hdp hu pre hret
  revert X; k_fill; intro X
  refine wpAny_call ?_
  k_dflt ktr_enter
  k_steps
  (try k_unfold)
  exact hret _ news _ _ (by assumption) (fun p hp => by rename_i kN _ _; exact kN p (List.mem_cons_of_mem _ hp)) ⟨rfl, _, rfl⟩
def pre6 : List (List Nat) := [[], [44, 32], [92], [34], [61, 9], [92, 34]]
def textL (n i : Int) : List Nat := pre6.getD (Int.fmod (Int.fdiv n 5) 6).toNat [] ++ [(65 + Int.fmod i 5).toNat]
theorem pick6 {k : Int} (h0 : 0 ≤ k) (h6 : k < 6) {a b c d e f : Tok} : ∃ t, (#[Value.str (Str.ofString "") a, Value.str (Str.ofString ", ") b, Value.str (Str.ofString "\\") c, Value.str (Str.ofString "\"") d, Value.str (Str.ofString "=\t") e, Value.str (Str.ofString "\\\"") f] : Array Value)[k.toNat]? = some (Value.str (sg (pre6.getD k.toNat [])) t) := by
  have : k = 0 ∨ k = 1 ∨ k = 2 ∨ k = 3 ∨ k = 4 ∨ k = 5 := by omega
  have e0 : Str.ofString "" = sg [] := by decide +kernel
  have e1 : Str.ofString ", " = sg [44, 32] := by decide +kernel
  have e2 : Str.ofString "\\" = sg [92] := by decide +kernel
  have e3 : Str.ofString "\"" = sg [34] := by decide +kernel
  have e4 : Str.ofString "=\t" = sg [61, 9] := by decide +kernel
  have e5 : Str.ofString "\\\"" = sg [92, 34] := by decide +kernel
  rw [e0, e1, e2, e3, e4, e5]
  rcases this with rfl | rfl | rfl | rfl | rfl | rfl <;> exact ⟨_, rfl⟩
theorem pre6_len (k : Nat) : (pre6.getD k []).length ≤ 2 := by
  match k with
  | 0 => decide
  | 1 => decide
  | 2 => decide
  | 3 => decide
  | 4 => decide
  | 5 => decide
  | k + 6 => simp [pre6, List.getD]
theorem c34 : Str.ofString "\"" = sg [34] := by decide +kernel
section
variable {prog : Program} {w : World} {A : Around} {E : Value → Shared → Prop} {s : Shared}
theorem addL {x y : Str} {a b : List Nat} {t u : Tok} {Q : Value → Shared → Prop} (hx : x = sg a) (hy : y = sg b) (hsz : a.length + b.length ≤ 1000000) (h : ∀ t' tk, Q (.str (sg (a ++ b)) t') { s with toks := tk }) : wpAny (model prog w) A (binaryOp .Add (.str x t) (.str y u)) Q E s := by
  subst hx hy
  refine add_str (fun t' tk => ?_) ?_
  · have e : (sg a ++ sg b : Str) = sg (a ++ b) := Str.ext' (by simp [Str.cps_append])
    rw [e]; exact h t' tk
  · show (sg a).cps.size + (sg b).cps.size ≤ sizeLine
    simp only [List.size_toArray, sizeLine]; omega
end
theorem textL_len (n i : Int) : (textL n i).length ≤ 3 := by
  have := pre6_len (Int.fmod (Int.fdiv n 5) 6).toNat
  simp only [textL, List.length_append, List.length_cons, List.length_nil]; omega
section
theorem wds_F1a : True := by
  k_with_none
  (k_with "subscriptTail" => (k_here; (with_reducible show wpAny _ _ (subscriptTail _ _ (Value.ref _) (Value.int _ _)) _ _ _); (with_unfolding_all refine' item_led (by k_asm) (by k_mem) (fmod_lo _ (by decide)) (Int.lt_trans (fmod_hi _ (by decide)) (by decide)) (pick6 (fmod_lo _ (by decide)) (fmod_hi _ (by decide))).choose_spec ?_)))
  (k_with "binaryOp Add str str" => (k_here; (with_unfolding_all refine' addL (by (exact rfl)) (by (exact rfl)) (by ((simp only [List.length_append, List.length_cons, List.length_nil]; omega))) ?_); intro _ _))
  trivial
theorem text_c (w : World) (n i : Int) (t t2 : Tok) : Sp w 2 (.ref 157) [.int n t, .int i t2] (fun _ => True) (fun news r news' => news' = news ∧ ∃ t', r = .str (sg (textL n i)) t') := by
  intro p loose mean mg mb dp un gd cn cs a ccd cl outer A₀ base h₀ L m news s Q E B F X N T c1 c2 hk hdp hu pre hret
  have hp6 := pre6_len ((n.fdiv 5).fmod 6).toNat
  revert X; k_fill; intro X
  refine wpAny_call ?_
  k_dflt ktr_enter
  k_steps
  (try k_unfold)
  exact hret _ news _ _ (by assumption) (fun p hp => by rename_i kN _ _; exact kN p (List.mem_cons_of_mem _ hp)) ⟨rfl, _, rfl⟩
end
theorem c92 : Str.ofString "\\" = sg [92] := by decide +kernel
theorem c9292 : Str.ofString "\\\\" = sg [92, 92] := by decide +kernel
theorem c9234 : Str.ofString "\\\"" = sg [92, 34] := by decide +kernel
def esc : List Nat → List Nat
  | [] => []
  | c :: r => (if c = 92 ∨ c = 34 then [92, c] else [c]) ++ esc r
def rep (c : Nat) (z l : List Nat) : List Nat := l.flatMap fun k => if k = c then z else [k]
theorem rep_free (c : Nat) (z : List Nat) : ∀ l : List Nat, c ∉ l → rep c z l = l
  | [], _ => rfl
  | k :: r, h => by
    have h1 : ¬ k = c := fun e => h (e ▸ List.mem_cons_self ..)
    have h2 := rep_free c z r fun m => h (List.mem_cons_of_mem _ m)
    unfold rep at h2 ⊢
    rw [List.flatMap_cons, if_neg h1, h2]; rfl
theorem rep_join (c : Nat) (z : List Nat) : ∀ parts : List Str, (∀ p ∈ parts, c ∉ p.cps.toList) → rep c z (Str.join ⟨#[c]⟩ parts).cps.toList = (Str.join ⟨z.toArray⟩ parts).cps.toList
  | [], _ => rfl
  | [p], h => rep_free c z _ (h p (List.mem_singleton.mpr rfl))
  | p :: q :: r, h => by
    have ih := rep_join c z (q :: r) fun a ha => h a (List.mem_cons_of_mem _ ha)
    have hp := rep_free c z _ (h p (List.mem_cons_self ..))
    show rep c z (p ++ ⟨#[c]⟩ ++ Str.join ⟨#[c]⟩ (q :: r)).cps.toList = (p ++ ⟨z.toArray⟩ ++ Str.join ⟨z.toArray⟩ (q :: r)).cps.toList
    simp only [Str.cps_append, Array.toList_append]
    rw [← ih]
    unfold rep at hp ⊢
    simp only [List.flatMap_append, hp, List.flatMap_cons, List.flatMap_nil, if_true, List.append_nil]
theorem replL (a z : List Nat) (c : Nat) : Txt.replace (sg a) (sg [c]) (sg z) = sg (rep c z a) := by
  have h := rep_join c z _ (StrLaws.split_free (sg a) c)
  rw [StrLaws.join_split, ← StrLaws.replace_one] at h
  have h' : rep c z a = (Txt.replace (sg a) (sg [c]) (sg z)).cps.toList := h
  rw [h']
theorem esc_rep : ∀ x : List Nat, esc x = rep 34 [92, 34] (rep 92 [92, 92] x)
  | [] => rfl
  | c :: r => by
    have ih := esc_rep r
    unfold rep at ih ⊢
    unfold esc
    rw [List.flatMap_cons, List.flatMap_append, ← ih]
    by_cases h : c = 92
    · subst h; rfl
    · by_cases h2 : c = 34
      · subst h2; rfl
      · simp [h, h2]
theorem esc_len : ∀ x : List Nat, (esc x).length ≤ 2 * x.length
  | [] => Nat.le_refl _
  | c :: r => by
    have ih := esc_len r
    unfold esc
    split <;> simp only [List.length_append, List.length_cons, List.length_nil] <;> omega
theorem rep_len (c a b : Nat) : ∀ x : List Nat, (rep c [a, b] x).length ≤ 2 * x.length
  | [] => Nat.le_refl _
  | k :: r => by
    have ih := rep_len c a b r
    unfold rep at ih ⊢
    rw [List.flatMap_cons]
    split <;> simp only [List.length_append, List.length_cons, List.length_nil] <;> omega
section
variable {prog : Program} {w : World} {A : Around} {E : Value → Shared → Prop} {s : Shared}
theorem replaceL {y z : Str} {a b : List Nat} {c : Nat} {t u v : Tok} {Q : Value → Shared → Prop} (hu : @Ne Nat u 0) (hv : @Ne Nat v 0) (huv : @Ne Nat u v) (hy : y = sg [c]) (hz : z = sg b) (hyz : (y == z) = false) (hx : a.length ≤ 100000) (hb : b.length ≤ 14)
    (hq : ∀ t' k, s.toks ≤ k → Q (.str (sg (rep c b a)) t') { s with toks := k }) : wpAny (model prog w) A (call (.builtin "str.replace") [.str (sg a) t, .str y u, .str z v]) Q E s := by
  refine replace_t hu hv huv hyz ?_ ?_ fun t' k hk => ?_
  · show (sg a).cps.size ≤ _
    simp only [List.size_toArray]; omega
  · subst hz
    show (sg b).cps.size ≤ _
    simp only [List.size_toArray]; exact hb
  · subst hy hz
    rw [replL]; exact hq t' k hk
end
theorem escaped_c (w : World) (x : List Nat) (t : Tok) (hx : x.length ≤ 2000) : Sp w 2 (.ref 136) [.str (sg x) t] (fun _ => True) (fun news r news' => news' = news ∧ ∃ t', r = .str (sg (esc x)) t') := by
  intro p loose mean mg mb dp un gd cn cs a ccd cl outer A₀ base h₀ L m news s Q E B F X N T c1 c2 hk hdp hu pre hret
  revert X; k_fill; intro X
  refine wpAny_call ?_
  k_dflt ktr_enter
  refine gen_toks (Nat.zero_lt_succ _) fun tk htk => ?_
  k_steps
  refine replaceL (by omega) (by omega) (by omega) c92 c9292 (by decide +kernel) (by omega) (by decide) fun t' k hk' => ?_
  (try k_unfold)
  dsimp only at hk' ⊢
  k_steps
  have hl := rep_len 92 92 92 x
  refine replaceL (by omega) (by omega) (by omega) c34 c9234 (by decide +kernel) (by omega) (by decide) fun t' k hk' => ?_
  rw [← esc_rep]
  k_steps
  (try k_unfold)
  exact hret _ news _ _ (by assumption) (by assumption) ⟨rfl, _, rfl⟩
theorem wde_F1 : True := by
  k_with_none
  trivial
end
section
open PySem PySem.W PyProof.Rows PyProof.Rows.LCg
def Hold (P : Prop) : Prop := P
theorem Hold.mk {P : Prop} (h : P) : Hold P := h
section
variable {prog : Program} {w : World} {A : Around} {E : Value → Shared → Prop} {s : Shared} {h₀ : Heap} {L : Addr} {m : Str → Option Value} {env : Env}
theorem comp_hold {elt iter : PySem.Expr} {x : Str} {px : Pos} {scope : Scope} {cl : List (Str × Addr)} {pos : Pos} {Q : Value → Shared → Prop} (F₀ : Fr h₀ L s.heap m)
    (hclos : closureFor scope env = pure cl) (hcell : ∀ y ∈ scope.names, y.2 ≠ .cell) (hkind : scope.kind = .function)
    (hnames : ∀ y ∈ scope.names, y.2 = .local → scope.names.lookup y.1 = some .local) (hx : scope.names.lookup x = some .local)
    (h : wpAny (model prog w) A (eval iter env) (fun v s₁ => Hold (CompSrc prog w A h₀ L m env elt x scope cl (fun s₂ => FinE h₀ L m s₂ Q) v s₁)) E s)
    (hs : ∀ x, foldedSetIterable iter env x = pure x := by intro _; rfl) :
    wpAny (model prog w) A (eval (.ListComp elt [⟨.Name x px, iter, [], 0⟩] scope pos) env) Q E s := ListComp_U F₀ hclos hcell hkind hnames hx h hs
theorem rest_ind {elt : PySem.Expr} {x : Str} {scope : Scope} {cl : List (Str × Addr)} {S : Led → Prop} {P : Nat → Value → Prop} {Fin : List Value → Led → Prop} {n : Nat} (J : Nat → List Value → Led → Prop)
    (step : ∀ i ys news, i < n → J i ys news → ∀ v I oI C oC D m₂ h tk (E' : Value → Shared → Prop), P i v → NsObj oC m₂ → m₂ x = some v → Fr h₀ L h m → News h₀ L h ((I, oI) :: (C, oC) :: (D, lst ys) :: news) → Off3 I C D news → ((@Ne Nat I C) ∧ (@Ne Nat I D) ∧ (@Ne Nat C D)) →
      wpAny (model prog w) A (eval elt (compEnvC scope cl C env)) (fun y s₂ => Hold (CompEnd h₀ L m { s with heap := h, toks := tk } I oI C oC D (lst ys) S (fun y news' => J (i + 1) (ys ++ [y]) news') y s₂)) E' { s with heap := h, toks := tk })
    (fin : ∀ ys news, J n ys news → Fin ys news) : ∀ k i ys news, i + k = n → J i ys news → CompRest prog w A h₀ L m env elt x scope cl s S P Fin k i ys news
  | 0, i, ys, news, e, hj => CompRest.zero (fin ys news (by rw [← e]; exact hj))
  | k + 1, i, ys, news, e, hj => CompRest.succ fun v I oI C oC D m₂ h tk E' hP hN hm F N o3 ne =>
    wpAny_mono (step i ys news (by omega) hj v I oI C oC D m₂ h tk E' hP hN hm F N o3 ne)
      (fun y s₂ ⟨h', tk', news', e', F', N', o', hS', r'⟩ => ⟨h', tk', news', e', F', N', o', hS', rest_ind J step fin k (i + 1) (ys ++ [y]) news' (by omega) r'⟩) fun _ _ x => x
/-- a comprehension whose ledger stays -/
theorem rest_same {elt : PySem.Expr} {x : Str} {scope : Scope} {cl : List (Str × Addr)} {S : Led → Prop} {P : Nat → Value → Prop} {Fin : List Value → Led → Prop} {n : Nat} {news : Led} (J : Nat → List Value → Prop)
    (step : ∀ i ys, i < n → J i ys → ∀ v I oI C oC D m₂ h tk (E' : Value → Shared → Prop), P i v → NsObj oC m₂ → m₂ x = some v → Fr h₀ L h m → News h₀ L h ((I, oI) :: (C, oC) :: (D, lst ys) :: news) → Off3 I C D news → ((@Ne Nat I C) ∧ (@Ne Nat I D) ∧ (@Ne Nat C D)) →
      wpAny (model prog w) A (eval elt (compEnvC scope cl C env)) (fun y s₂ => Hold (CompEnd h₀ L m { s with heap := h, toks := tk } I oI C oC D (lst ys) S (fun y news' => news' = news ∧ J (i + 1) (ys ++ [y])) y s₂)) E' { s with heap := h, toks := tk })
    (fin : ∀ ys, J n ys → Fin ys news) (j : J 0 []) : CompRest prog w A h₀ L m env elt x scope cl s S P Fin n 0 [] news :=
  rest_ind (fun i ys nw => nw = news ∧ J i ys) (by rintro i ys _ hi ⟨rfl, j⟩; exact step i ys hi j) (by rintro ys _ ⟨rfl, j⟩; exact fin ys j) n 0 [] news (Nat.zero_add _) ⟨rfl, j⟩
/-- a comprehension that adds behind a fixed head of the ledger -/
theorem rest_pre {elt : PySem.Expr} {x : Str} {scope : Scope} {cl : List (Str × Addr)} {S : Led → Prop} {P : Nat → Value → Prop} {Fin : List Value → Led → Prop} {n : Nat} {l : Led} (pre : Led) (J : Nat → List Value → Led → Prop)
    (step : ∀ i ys l, i < n → J i ys l → ∀ v I oI C oC D m₂ h tk (E' : Value → Shared → Prop), P i v → NsObj oC m₂ → m₂ x = some v → Fr h₀ L h m → News h₀ L h ((I, oI) :: (C, oC) :: (D, lst ys) :: (pre ++ l)) → Off3 I C D (pre ++ l) → ((@Ne Nat I C) ∧ (@Ne Nat I D) ∧ (@Ne Nat C D)) →
      wpAny (model prog w) A (eval elt (compEnvC scope cl C env)) (fun y s₂ => Hold (CompEnd h₀ L m { s with heap := h, toks := tk } I oI C oC D (lst ys) S (fun y news' => ∃ l', news' = pre ++ l' ∧ J (i + 1) (ys ++ [y]) l') y s₂)) E' { s with heap := h, toks := tk })
    (fin : ∀ ys l, J n ys l → Fin ys (pre ++ l)) (j : J 0 [] l) : CompRest prog w A h₀ L m env elt x scope cl s S P Fin n 0 [] (pre ++ l) :=
  rest_ind (fun i ys nw => ∃ l, nw = pre ++ l ∧ J i ys l) (by rintro i ys _ hi ⟨l, rfl, j⟩; exact step i ys l hi j) (by rintro ys _ ⟨l, rfl, j⟩; exact fin ys l j) n 0 [] _ (Nat.zero_add _) ⟨l, rfl, j⟩
end
theorem wds_F2a : True := by
  k_with_none
  (k_with "eval ListComp" => (k_here; k_dflt (refine comp_hold (F₀ := by k_asm) (by with_unfolding_all rfl) (by decide) (by rfl) (by decide) (by rfl) ?_)))
  trivial
def qesc (l : List Nat) : List Nat := [34] ++ esc l ++ [34]
def joinL (sep : List Nat) : List (List Nat) → List Nat
  | [] => []
  | [x] => x
  | x :: r => x ++ sep ++ joinL sep r
def header (ts : List (List Nat)) : List Nat := joinL [44, 9] (ts.map qesc)
theorem strs_snoc : ∀ {vs : List Value} {ys : List Str} (y : Str) (t : Tok), StrsAre vs ys → StrsAre (vs ++ [.str y t]) (ys ++ [y])
  | _, _, y, t, .nil => .cons y t .nil
  | _, _, y, t, .cons y' t' r => .cons y' t' (strs_snoc y t r)
theorem str_join_sg (sep : List Nat) : ∀ xs : List (List Nat), Str.join (sg sep) (xs.map sg) = sg (joinL sep xs)
  | [] => rfl
  | [x] => rfl
  | x :: y :: r => by
    have ih := str_join_sg sep (y :: r)
    show sg x ++ sg sep ++ Str.join (sg sep) ((y :: r).map sg) = sg (x ++ sep ++ joinL sep (y :: r))
    rw [ih]
    exact Str.ext' (by simp [Str.cps_append])
theorem sum_le (B : Nat) : ∀ xs : List (List Nat), (∀ x ∈ xs, x.length ≤ B) → (xs.map List.length).sum ≤ xs.length * B
  | [], _ => Nat.zero_le _
  | x :: r, h => by
    have ih := sum_le B r fun y hy => h y (List.mem_cons_of_mem _ hy)
    have h1 := h x List.mem_cons_self
    simp only [List.map_cons, List.sum_cons, List.length_cons, Nat.succ_mul]; omega
theorem joinL_len (sep : List Nat) : ∀ xs : List (List Nat), (joinL sep xs).length ≤ (xs.map List.length).sum + xs.length * sep.length
  | [] => Nat.zero_le _
  | [x] => by simp [joinL]
  | x :: y :: r => by
    have ih := joinL_len sep (y :: r)
    simp only [joinL, List.length_append, List.map_cons, List.sum_cons, List.length_cons, Nat.succ_mul] at ih ⊢; omega
section
variable {prog : Program} {w : World} {A : Around} {E : Value → Shared → Prop} {s : Shared}
theorem join_c {y : Str} {sep : List Nat} {xs : List (List Nat)} {t : Tok} {D : Addr} {items : Array Value} {Q : Value → Shared → Prop} (hy : y = sg sep) (hl : s.heap.IsList D items) (hi : StrsAre items.toList (xs.map sg)) (hok : (xs.map List.length).sum + xs.length * sep.length ≤ 1000000)
    (h : ∀ t' k, s.toks ≤ k → Q (.str (sg (joinL sep xs)) t') { s with toks := k }) : wpAny (model prog w) A (call (.builtin "str.join") [.str y t, .ref D]) Q E s := by
  subst hy
  refine wpAny_with_toks (Nat.le_refl _) (wpAny_mono (join_list (E := E) (Q := fun r s' => s.toks ≤ s'.toks → Q r s') hl hi ?_ fun t' k hk => ?_) (fun _ _ q => q) fun _ _ q _ => q)
  · have e : ((xs.map sg).map (·.length)) = xs.map List.length := by
      rw [List.map_map]; exact List.map_congr_left fun x _ => by simp [Str.length]
    rw [e, List.length_map]
    have e2 : (sg sep).length = sep.length := by simp [Str.length]
    rw [e2]; omega
  · have e : Txt.join (sg sep) (xs.map sg) = sg (joinL sep xs) := by
      unfold Txt.join; rw [StrLaws.glued_eq_join, str_join_sg]
    rw [e]; exact h t' k hk
end
theorem c449 : Str.ofString ",\t" = sg [44, 9] := by decide +kernel
section
theorem wds_F2b : True := by
  (k_with "call ref" => (k_here; k_dflt (refine' sp_pure (escaped_c _ _ _ (by omega)) (by kf1_first) trivial ?_); intro _ _ _ _ _; (try dsimp only); (try k_fold)))
  (k_with "binaryOp Add str str" => (k_here; (with_unfolding_all refine' addL (by (first | exact c34 | exact rfl)) (by (first | exact c34 | exact rfl)) (by ((simp only [List.length_append, List.length_cons, List.length_nil]; omega))) ?_); intro _ _))
  trivial
theorem header_c (w : World) (l : Addr) (xs : List (List Nat)) (vs : List Value) (n : Nat) (hl : xs.length ≤ 20) (hx : ∀ x ∈ xs, x.length ≤ 500) (hv : StrsAre vs (xs.map sg)) :
    Sp w 4 (.ref 162) [.ref l] (fun news => (l, PySem.W.listOf vs.toArray n) ∈ news) (fun news r news' => news' = news ∧ ∃ t', r = .str (sg (header xs)) t') := by
  intro p loose mean mg mb dp un gd cn cs a ccd cl outer A₀ base h₀ L m news s Q E B F X N T c1 c2 hk hdp hu pre hret
  revert X; k_fill; intro X
  refine wpAny_call ?_
  k_dflt ktr_enter
  rename_i g1 L1 hp1 FG1 F1 N1 B1 X1 T1
  have c1' := CodeHd.keeps c1 FG1.keep
  have c2' := CodeHd.keeps c2 FG1.keep
  have hlen := hv.length
  rw [List.length_map] at hlen
  k_steps
  (try k_unfold)
  refine Hold.mk (CompSrc.ledger rfl F1 N1 pre (by rw [List.size_toArray, hlen]; simp only [sizeLine]; omega) fun gg => rest_ind (fun i ys nw => nw = news ∧ StrsAre ys ((xs.take i).map (fun x => sg (qesc x)))) ?_ ?_ _ 0 [] news (Nat.zero_add _) ⟨rfl, .nil⟩)
  · intro i ys nw hi pz1 v I oI C oC D m₂ h tk E' hP hN hm F2 N2 o3 ne
    (try k_fold)
    obtain ⟨rfl, hys⟩ := pz1
    have hi' : i < xs.length := by rw [List.size_toArray, hlen] at hi; exact hi
    (try k_fold)
    obtain ⟨tx, hv'⟩ := hv.get i (sg xs[i]) (by simp [hi'])
    have hv2 : v = .str (sg xs[i]) tx := by
      have : vs[i]? = some v := by simpa using hP
      rw [hv'] at this; exact (Option.some.inj this).symm
    subst hv2
    have hxi := hx xs[i] (List.getElem_mem hi')
    clear hP hv'
    have hel := esc_len xs[i]
    k_steps
    (try k_unfold)
    refine Hold.mk (CompEnd.intro (by assumption) (by assumption) nw (fun _ h => h) o3 (.inr ⟨_, pre, rfl, _, rfl⟩) ⟨rfl, ?_⟩)
    rw [List.take_add_one, List.map_append]
    simp only [List.getElem?_eq_getElem hi', Option.toList_some, List.map_cons, List.map_nil]
    exact strs_snoc _ _ hys
  · rintro ys nw ⟨rfl, hys⟩ D h tk F3 N3 o1
    rw [List.size_toArray, hlen, List.take_length] at hys
    (try k_unfold)
    (try dsimp only)
    k_steps
    have hq : ∀ x ∈ xs.map qesc, x.length ≤ 1002 := fun x hx' => by
      (try k_fold)
      obtain ⟨y, hy, rfl⟩ := List.mem_map.mp hx'
      have h1 := hx y hy
      have h2 := esc_len y
      simp only [qesc, List.length_append, List.length_cons, List.length_nil]; omega
    have hs := sum_le 1002 _ hq
    rw [List.length_map] at hs
    refine join_c (xs := xs.map qesc) c449 ⟨_, (N3 _ (List.mem_cons_self ..)).1, rfl, _, rfl⟩ (by rw [List.map_map]; exact hys) (by rw [List.length_map]; simp only [List.length_cons, List.length_nil]; omega) fun t' k hk' => ?_
    k_steps
    (try k_unfold)
    exact hret _ nw _ _ (by assumption) (fun p hp => by rename_i kN _ _; exact kN p (List.mem_cons_of_mem _ hp)) ⟨rfl, _, rfl⟩
end
theorem wde_F2 : True := by
  k_with_none
  trivial
end
section
open PySem PySem.W PyProof.Rows PyProof.Rows.LCg
section
variable {prog : Program} {w : World} {A : Around} {E : Value → Shared → Prop} {s : Shared} {h₀ : Heap} {L : Addr} {m : Str → Option Value} {env : Env}
theorem comp_str_go {elt iter : PySem.Expr} {x : Str} {px : Pos} {scope : Scope} {cl : List (Str × Addr)} {pos : Pos} {Q : Value → Shared → Prop} {s₁ : Shared} {y : Str} {t : Tok} {news : Led} {ty : String}
    (W : Walks prog w A s₁.heap.objs.size [s₁.heap.objs.size] [s₁.heap.objs.size] y.cps.size (SignAt y) (fun i h => h.IsStrIter s₁.heap.objs.size ty y t i)) (o : Obj) (hst : (s₁.heap.push o).IsStrIter s₁.heap.objs.size ty y t 0)
    (hcell : ∀ y ∈ scope.names, y.2 ≠ .cell) (hkind : scope.kind = .function) (hx : scope.names.lookup x = some .local)
    (F : Fr h₀ L s₁.heap m) (N : News h₀ L s₁.heap news) (hsz : y.cps.size ≤ sizeLine)
    (R : ∀ s₂ : Shared, (∃ h, s₂ = { s₁ with heap := h }) → CompRest prog w A h₀ L m env elt x scope cl s₂ (fun _ => True) (SignAt y) (FinE h₀ L m s₂ Q) y.cps.size 0 [] news) :
    wpAny (model prog w) A (newList []) (fun acc s₃ => wpAny (model prog w) A (newFunctionEnv scope env.globals cl [] env.qual none .none (some env)) (fun cenv s₄ =>
      codeAny (model prog w) A (.compStart (.ListComp elt [⟨.Name x px, iter, [], 0⟩] scope pos) 0 (.ref s₁.heap.objs.size) acc { cenv with scope := relabel scope env })
        (compPost (model prog w) A E none Q acc cenv.locals) s₄) E s₃) E { s₁ with heap := s₁.heap.push o } := by
  have up : ∀ b o', s₁.heap.get? b = some o' → (s₁.heap.push o).get? b = some o' := fun b o' e => Heap.get?_push_of_some _ e
  refine block_U (RR := fun acc loc => compPost (model prog w) A E none Q acc loc) W hsz (fun i h st => by obtain ⟨o, e, _⟩ := st; exact ⟨o, e⟩) (fun i h h' o nw st e e' _ _ _ => by obtain ⟨o', q, r⟩ := st; rw [e] at q; cases q; exact ⟨o, e', r⟩) hcell hkind hx hst (fun b hb => ?_)
    (F.keeps up) (N.grown up) (Nat.ne_of_lt F.ns.lt) (next_is_new F) (fun p hp => Nat.ne_of_lt (Heap.lt_size (N p hp).1)) trivial (R _ ⟨_, rfl⟩) ?_
  · rw [List.mem_singleton.mp hb]
    show s₁.heap.objs.size < (s₁.heap.push _).objs.size
    rw [Heap.size_push]; exact Nat.lt_succ_self _
  · intro D C h tk m' ys news' F' N' o1 hn hC₀ hD₀ hCL hDL hCD offC fin
    (try k_unfold)
    refine ⟨m', hn, fun h'' hs'' => fin D h'' tk (F'.change hs'' hCL hC₀) (fun p hp => ?_) o1⟩
    (try k_unfold)
    refine ⟨hs''.extBut _ _ ?_ (N' p hp).1, (N' p hp).2⟩
    rcases List.mem_cons.mp hp with rfl | hp
    · exact Ne.symm hCD
    · exact offC p hp
def StrSrc (prog : Program) (w : World) (A : Around) (h₀ : Heap) (L : Addr) (m : Str → Option Value) (env : Env) (elt : PySem.Expr) (x : Str) (scope : Scope) (cl : List (Str × Addr)) (Fin : Shared → List Value → Led → Prop) (v : Value) (s₁ : Shared) : Prop :=
  ∃ y t news, v = .str y t ∧ A.handled = none ∧ Fr h₀ L s₁.heap m ∧ News h₀ L s₁.heap news ∧ y.cps.size ≤ sizeLine ∧
    ∀ s₂ : Shared, (∃ h, s₂ = { s₁ with heap := h }) → CompRest prog w A h₀ L m env elt x scope cl s₂ (fun _ => True) (SignAt y) (Fin s₂) y.cps.size 0 [] news
theorem comp_str {elt iter : PySem.Expr} {x : Str} {px : Pos} {scope : Scope} {cl : List (Str × Addr)} {pos : Pos} {Q : Value → Shared → Prop} (_F₀ : Fr h₀ L s.heap m)
    (hclos : closureFor scope env = pure cl) (hcell : ∀ y ∈ scope.names, y.2 ≠ .cell) (hkind : scope.kind = .function)
    (hnames : ∀ y ∈ scope.names, y.2 = .local → scope.names.lookup y.1 = some .local) (hx : scope.names.lookup x = some .local)
    (h : wpAny (model prog w) A (eval iter env) (fun v s₁ => Hold (StrSrc prog w A h₀ L m env elt x scope cl (fun s₂ => FinE h₀ L m s₂ Q) v s₁)) E s)
    (hs : ∀ x, foldedSetIterable iter env x = pure x := by intro _; rfl) :
    wpAny (model prog w) A (eval (.ListComp elt [⟨.Name x px, iter, [], 0⟩] scope pos) env) Q E s := by
  rw [eval_ListComp]
  refine wpAny_comprehension_free (use := none) rfl hs hclos hkind hnames (wpAny_mono h (fun xv s₁ h₁ => ?_) fun _ _ e => e)
  (try k_fold)
  obtain ⟨y, t, news, rfl, hh, F, N, hsz, R⟩ := h₁
  cases ha : y.cps.all (· < 128)
  · exact wpAny_pyIter_wide ha (comp_str_go (Walks.strWide hh _ y t) _ ⟨_, Heap.get?_push_size _ rfl, rfl, rfl⟩ hcell hkind hx F N hsz R)
  · exact wpAny_pyIter_ascii ha (comp_str_go (Walks.strAscii hh _ y t) _ ⟨_, Heap.get?_push_size _ rfl, rfl, rfl⟩ hcell hkind hx F N hsz R)
end
def word (n : Int) (x : List Nat) : List Nat := if (n.fdiv 30).fmod 2 = 0 then [34] ++ esc (header [x]) ++ [34] else (header [x]).flatMap (fun c => [92, c]) ++ [10]
theorem c0 : Str.ofString "" = sg [] := by decide +kernel
theorem c10 : Str.ofString "\n" = sg [10] := by decide +kernel
theorem header1_len (x : List Nat) : (header [x]).length ≤ 2 * x.length + 2 := by
  have := esc_len x
  simp only [header, List.map_cons, List.map_nil, joinL, qesc, List.length_append, List.length_cons, List.length_nil]; omega
theorem joinL_nil : ∀ xs : List (List Nat), joinL [] xs = xs.flatten
  | [] => rfl
  | [x] => by simp [joinL]
  | x :: y :: r => by
    have ih := joinL_nil (y :: r)
    simp only [joinL, List.append_nil, List.flatten_cons] at ih ⊢
    rw [ih]
section
theorem wds_F3a : True := by
  k_with_none
  (k_with "call ref" => (k_here; k_dflt (refine' sp_pure (escaped_c _ _ _ (by omega)) (by kf1_first) trivial ?_); intro _ _ _ _ _; (try dsimp only); (try k_fold)))
  (k_with "call ref" => (k_here; k_dflt (refine' sp_pure (header_c _ _ [_] _ _ ?hl ?hx (.cons _ _ .nil)) (by kf1_first) ?pre ?_; (case pre => k_mem); (case hl => exact Nat.le_of_ble_eq_true rfl); (case hx => (intro x9 hx9; rw [List.mem_singleton.mp hx9]; omega))); intro _ _ _ _ _; (try dsimp only); (try k_fold)))
  (k_with "binaryOp Add str str" => (k_here; (with_unfolding_all refine' addL (by (first | exact c34 | exact c92 | exact rfl)) (by (first | exact c34 | exact c10 | exact rfl)) (by ((simp only [List.length_append, List.length_cons, List.length_nil]; omega))) ?_); intro _ _))
  (k_with "eval ListComp" => (k_here; k_dflt (refine comp_str (_F₀ := by k_asm) (by with_unfolding_all rfl) (by decide) (by rfl) (by decide) (by rfl) ?_)))
  trivial
theorem word_c (w : World) (n : Int) (t : Tok) (x : List Nat) (t2 : Tok) (hx : x.length ≤ 100) :
    Sp w 6 (.ref 167) [.int n t, .str (sg x) t2] (fun _ => True) (fun news r news' => news' = news ∧ ∃ t', r = .str (sg (word n x)) t') := by
  intro p loose mean mg mb dp un gd cn cs a ccd cl outer A₀ base h₀ L m news s Q E B F X N T c1 c2 hk hdp hu pre hret
  revert X; k_fill; intro X
  refine wpAny_call ?_
  k_dflt ktr_enter
  rename_i g1 L1 hp1 FG1 F1 N1 B1 X1 T1
  have c1' := CodeHd.keeps c1 FG1.keep
  have c2' := CodeHd.keeps c2 FG1.keep
  have hhl := header1_len x
  have hel := esc_len (header [x])
  k_steps
  · rename_i kN _ _
    have e : word n x = [34] ++ esc (header [x]) ++ [34] := by rw [word, if_pos (by assumption)]
    rw [← e]
    (try k_unfold)
    exact hret _ news _ _ (by assumption) (fun p hp => kN p (List.mem_cons_of_mem _ hp)) ⟨rfl, _, rfl⟩
  · rename_i hc
    (try k_unfold)
    refine Hold.mk ⟨_, _, _, rfl, rfl, by assumption, by assumption, ?_, ?_⟩
    · simp only [List.size_toArray, sizeLine]; omega
    rintro s₂ ⟨g2, rfl⟩
    refine rest_same (fun i ys => StrsAre ys (((header [x]).take i).map (fun c => sg [92, c]))) ?_ ?_ .nil
    · intro i ys hi hys v I oI C oC D m₂ h tk E' pz2 hN hm F2 N2 o3 ne
      (try k_fold)
      obtain ⟨c, u, hcx, rfl⟩ := pz2
      have hi' : i < (header [x]).length := by rw [List.size_toArray] at hi; exact hi
      have hcx' : (header [x])[i]? = some c := by simpa using hcx
      k_steps
      (try k_unfold)
      refine Hold.mk (CompEnd.intro (by assumption) (by assumption) _ (fun _ h => h) o3 trivial ⟨rfl, ?_⟩)
      rw [List.take_add_one, List.map_append, hcx']
      exact strs_snoc _ _ hys
    · rintro ys hys D h tk F3 N3 o1
      rw [List.size_toArray, List.take_length] at hys
      (try k_unfold)
      (try dsimp only)
      k_steps
      have hq : ∀ y ∈ (header [x]).map (fun c => [92, c]), y.length ≤ 2 := fun y hy => by
        (try k_fold)
        obtain ⟨c, _, rfl⟩ := List.mem_map.mp hy
        exact Nat.le_refl _
      have hs := sum_le 2 _ hq
      rw [List.length_map] at hs
      refine join_c (xs := (header [x]).map (fun c => [92, c])) c0 ⟨_, (N3 _ (List.mem_cons_self ..)).1, rfl, _, rfl⟩ (by rw [List.map_map]; exact hys) (by rw [List.length_map]; simp only [List.length_nil]; omega) fun t' k hk' => ?_
      have hjl := joinL_len [] ((header [x]).map (fun c => [92, c]))
      rw [List.length_map, List.length_nil, Nat.mul_zero, Nat.add_zero] at hjl
      (try k_unfold)
      (try dsimp only)
      k_steps
      rename_i kN _ _
      have e : word n x = joinL [] ((header [x]).map (fun c => [92, c])) ++ [10] := by rw [word, if_neg hc, joinL_nil, List.flatMap_def]
      rw [← e]
      (try k_unfold)
      exact hret _ news _ _ (by assumption) (fun p hp => kN p (List.mem_cons_of_mem _ (List.mem_cons_of_mem _ hp))) ⟨rfl, _, rfl⟩
end
theorem wde_F3 : True := by
  k_with_none
  trivial
end
section
open PySem PySem.W PyProof.Rows PyProof.Rows.LCg
abbrev ent (w : World) (n : String) (k : Tok) (v : Value) : DictEntry := ⟨PyData.keyHash w.params (Str.ofString n), .str (Str.ofString n) k, v⟩
/-- the dict of a lexer as its __init__ leaves it -/
inductive LexE (w : World) (ln : Int) (ins : Value) (pb : Addr) (es : List DictEntry) : Prop
  | mk (k1 k2 k3 k4 t1 t3 : Tok) (e : es = [ent w "lineno" k1 (.int ln t1), ent w "instream" k2 ins, ent w "whitespace" k3 (.str (Str.ofString "\n\t\x0d ") t3), ent w "pushback" k4 (.ref pb)])
def HObj (w : World) (ord : Int) (C : Addr) (es : List DictEntry) : Prop :=
  (C = 94 ∧ es = [] ∧ ord = 500) ∨ (C = 115 ∧ es = [] ∧ ord = 1000) ∨ (C = 94 ∧ ∃ kt t, es = [⟨PyData.keyHash w.params (Str.ofString "handler_order"), .str (Str.ofString "handler_order") kt, .int ord t⟩])
def OObj (w : World) (ord : Int) (C : Addr) (es : List DictEntry) : Prop := HObj w ord C es ∨
  (C = 59 ∧ ∃ e1 ln ins pb kt t, LexE w ln ins pb e1 ∧ es = e1 ++ [ent w "handler_order" kt (.int ord t)])
theorem order_one {n : Int} (h : n.fmod 5 = 1) : order n = 1000 := by unfold order; rw [h]; rfl
theorem order_zero {n : Int} (h1 : n.fmod 5 ≠ 1) (h2 : ¬ 1 < n.fmod 5) : order n = 500 := by
  have h0 := fmod_lo n (n := 5) (by decide)
  have : n.fmod 5 = 0 := by omega
  unfold order; rw [this]; rfl
section
theorem wds_F4a : True := by
  k_with_none
  (k_with "call ref" => (k_here; k_dflt (refine' sp_pure (order_c _ _ _) (by kf1_first) trivial ?_); intro _ _ _ _ _; (try dsimp only); (try k_fold)))
  trivial
theorem handler_c (w : World) (n : Int) (t : Tok) : Sp w 4 (.ref 150) [.int n t] (fun _ => True)
    (fun news r news' => ∃ x dx C es k, r = .ref x ∧ news' = (x, instObj C dx) :: (dx, dictOf es k) :: news ∧ HObj w (order n) C es ∧ (∀ p ∈ news, p.1 < dx) ∧ dx < x) := by
  intro p loose mean mg mb dp un gd cn cs a ccd cl outer A₀ base h₀ L m news s Q E B F X N T c1 c2 hk hdp hu pre hret
  revert X; k_fill; intro X
  refine wpAny_call ?_
  k_dflt ktr_enter
  rename_i g1 L1 hp1 FG1 F1 N1 B1 X1 T1
  have c1' := CodeHd.keeps c1 FG1.keep
  have c2' := CodeHd.keeps c2 FG1.keep
  k_steps
  · (try k_unfold)
    exact hret _ _ _ _ (by assumption) (by assumption) ⟨_, _, _, _, _, rfl, rfl, .inr (.inl ⟨rfl, rfl, order_one (by assumption)⟩), by assumption, by assumption⟩
  · (try k_unfold)
    exact hret _ _ _ _ (by assumption) (by assumption) ⟨_, _, _, _, _, rfl, rfl, .inr (.inr ⟨rfl, _, _, rfl⟩), by assumption, by assumption⟩
  · (try k_unfold)
    exact hret _ _ _ _ (by assumption) (by assumption) ⟨_, _, _, _, _, rfl, rfl, .inl ⟨rfl, rfl, order_zero (by assumption) (by assumption)⟩, by assumption, by assumption⟩
end
/-- x is a handler of this order on the ledger -/
def Hnd (w : World) (ord : Int) (x : Addr) (news : Led) : Prop := ∃ C dx es k, (x, instObj C dx) ∈ news ∧ (dx, dictOf es k) ∈ news ∧ HObj w ord C es
theorem Hnd.sub {w : World} {ord : Int} {x : Addr} {news news' : Led} (h : Hnd w ord x news) (k : ∀ p ∈ news, p ∈ news') : Hnd w ord x news' :=
  let ⟨C, dx, es, n, a, b, c⟩ := h; ⟨C, dx, es, n, k _ a, k _ b, c⟩
def OrdAt (w : World) (ord : Int) (x : Addr) (news : Led) : Prop := ∃ C dx es k, (x, instObj C dx) ∈ news ∧ (dx, dictOf es k) ∈ news ∧ OObj w ord C es
theorem Hnd.ord {w : World} {ord : Int} {x : Addr} {news : Led} (h : Hnd w ord x news) : OrdAt w ord x news := let ⟨C, dx, es, n, a, b, c⟩ := h; ⟨C, dx, es, n, a, b, .inl c⟩
theorem handler_at {w : World} {n : Int} {t : Tok} {p : Program} {loose : List Str} {mean : ExcName → Option Value} {mg mb : Str → Option Value} {dp un : Nat} {gd : Option (List Code)} {cn : Str} {cs : Scope} {a : Addr} {ccd : Value} {cl : List (Str × Addr)} {outer : List Env} {A₀ : Around} {base h₀ : Heap} {L : Addr} {m : Str → Option Value} {news : Led} {s : Shared}
    {Q E : Value → Shared → Prop} (K : Rdy w 4 p loose mean mg mb dp un cs outer A₀ base h₀ L m news s)
    (ret : ∀ h' tk', Fr h₀ L h' m → ∀ x dx C es k, HObj w (order n) C es → (∀ p ∈ news, p.1 < dx) → dx < x → News h₀ L h' ((x, instObj C dx) :: (dx, dictOf es k) :: news) → Q (.ref x) { s with heap := h', toks := tk' }) :
    wpAny (model PySem.Challenge.rw_pk0065_01.row.prog w) (ktrTop dp un gd cn cs L a ccd cl outer) (call (.ref 150) [.int n t]) Q E s := sp_at (handler_c w n t) K trivial (by rintro r nw h' tk' F N ⟨x, dx, C, es, k, rfl, rfl, H, l1, l2⟩; exact ret h' tk' F x dx C es k H l1 l2 N)
theorem wde_F4 : True := by
  k_with_none
  trivial
end
section
open PySem PySem.W PyProof.Rows PySem.Calls
theorem kind_hasattr : builtinKind "hasattr" = none := by decide +kernel
theorem plain_hasattr : plainId "hasattr" = true := by decide +kernel
theorem entry_hasattr : entryFor table "hasattr" = some Builtin.«hasattr» := entryFor_of_tree (by kernel_rfl)
theorem args_hasattr (a b : Value) : argsOk "hasattr" ⟨[a, b], []⟩ := by unfold argsOk; kernel_rfl
section
variable {prog : Program} {w : World} {A : Around} {E : Value → Shared → Prop} {s : Shared} {K : Frag} {x C : Addr} {ox : Obj} {od : Option Obj} {name : Str} {t : Tok} {Q : Value → Shared → Prop}
theorem hasattr_open (X : K.In s.heap) (I : InstAt s.heap x ox C od) (hmod : mroIn K C (.type "module") = some false)
    (h : wpAny (model prog w) A.in1 (getAttrBy? (.ref x) (.str name t)) (fun r s' => Q (.bool r.isSome) s') E s) :
    wpAny (model prog w) A (call (.builtin "hasattr") [.ref x, .str name t]) Q E s := by
  refine Calls.call_function_entry kind_hasattr plain_hasattr entry_hasattr (args_hasattr _ _) ?_
  obtain ⟨hh, g, d, tk, os⟩ := s
  have L0 := I.type (M := model prog w)
  have L1 := looks_mroIn (M := model prog w) X hmod
  unfold Builtin.«hasattr»
  repeat (first | with_reducible refine wpAny_mono h ?_ (fun _ _ z => z) | lk)
  intro r s' hr
  cases r with
  | none => exact wpAny_pure ⟨_, rfl, hr⟩
  | some v => exact wpAny_pure ⟨_, rfl, hr⟩
theorem getBy_open {Q : Option Value → Shared → Prop} (X : K.In s.heap) (I : InstAt s.heap x ox C od) (hga : findIn K (.ref C) "__getattribute__" = some (some (.builtin "object.__getattribute__")))
    (h : wpAny (model prog w) A.in1 (Builtin.«proto.getattr_hooked» ⟨[.ref x, .str name t], []⟩)
      (fun fin s' => match fin with | .done (.ret v) => handedIn v = true ∧ Q (some v) s' | _ => False) (fun e s' => wpAny (model prog w) A (isInstance e (.type "AttributeError")) (fun b s'' => if b = true then Q none s'' else E e s'') E s') s) :
    wpAny (model prog w) A (getAttrBy? (.ref x) (.str name t)) Q E s := by
  obtain ⟨hh, g, d, tk, os⟩ := s
  have L0 := I.type (M := model prog w)
  have L1 := looks_findIn (M := model prog w) X hga
  unfold getAttrBy? getAttrBy
  refine wpAny_bind (wpAny_attempt (wpAny_holding (wpAny_bind (L0.at (wpAny_bind (L1.at ?_))))))
  show wpAny _ _ (getAttrEveryday _ _ _) _ _ _
  refine wpAny_bind (wpAny_onRaise (wpAny_runValue (codeAny_builtin F.plainObj_entry_getattr_hooked (wpAny_mono h (fun fin s' z => ?_) fun e s' z => ?_))))
  · rcases fin with (_ | _ | _ | v) | _
    · exact z.elim
    · exact z.elim
    · exact z.elim
    · dsimp only at z ⊢
      rw [handedOut_of z.1]
      exact wpAny_pure (wpAny_pure z.2)
    · exact z.elim
  · show wpAny _ _ (pure () : Sem Unit) _ _ _
    refine wpAny_pure (wpAny_bind (wpAny_mono z (fun b s'' q => ?_) fun _ _ z => z))
    cases b with
    | true => exact wpAny_pure q
    | false => exact wpAny_throw q
theorem hasattr_yes {v : Value} (X : K.In s.heap) (I : InstAt s.heap x ox C od) (hmod : mroIn K C (.type "module") = some false) (hga : findIn K (.ref C) "__getattribute__" = some (some (.builtin "object.__getattribute__")))
    (hf : findObj K C od name = some (.value v)) (hh : handedIn v = true) (h : Q (.bool true) s) : wpAny (model prog w) A (call (.builtin "hasattr") [.ref x, .str name t]) Q E s := by
  refine hasattr_open X I hmod (getBy_open X I hga ?_)
  obtain ⟨hh', g, d, tk, os⟩ := s
  have L0 := I.type (M := model prog w)
  have L1 := looks_find (M := model prog w) X I hf
  refine wpAny_bind (wpAny_pure (wpAny_bind (L0.at (wpAny_bind (L1.at ?_)))))
  exact wpAny_pure ⟨hh, h⟩
theorem hasattr_no {cd : ClassData} (hA : A.handled = none) (X : K.In s.heap) (I : InstAt s.heap x ox C od) (hmod : mroIn K C (.type "module") = some false) (hga : findIn K (.ref C) "__getattribute__" = some (some (.builtin "object.__getattribute__")))
    (hf : findObj K C od name = some .missing) (hgt : findIn K (.ref C) "__getattr__" = some none) (hcd : clsIn K C = some cd) (hcn : cd.name = Str.ofString "_netrclex") (hname : name.length ≤ 1000)
    (h : ∀ h' tk', (∀ b o, s.heap.get? b = some o → h'.get? b = some o) → Q (.bool false) { s with heap := h', toks := tk' }) : wpAny (model prog w) A (call (.builtin "hasattr") [.ref x, .str name t]) Q E s := by
  refine hasattr_open X I hmod (getBy_open X I hga ?_)
  obtain ⟨hh', g, d, tk, os⟩ := s
  have L0 := I.type (M := model prog w)
  have L1 := looks_find (M := model prog w) X I hf
  have L2 := looks_findIn (M := model prog w) X hgt
  have L3 := looks_clsIn (M := model prog w) X hcd
  refine wpAny_bind (wpAny_pure (wpAny_bind (L0.at (wpAny_bind (L1.at (wpAny_bind (L2.at ?_)))))))
  show wpAny _ _ (Builtin.ObjectAttr.noSuchAttribute (.ref x) name) _ _ _
  unfold Builtin.ObjectAttr.noSuchAttribute typeNameOfCut shownTypeOf
  refine wpAny_bind (wpAny_bind (wpAny_bind (L0.at ?_)))
  rw [if_neg (by intro q; cases eq_of_beq q)]
  refine wpAny_pure ?_
  unfold typeNameCut
  refine wpAny_bind (L3.at ?_)
  rw [hcn]
  dsimp only
  rw [if_pos (by decide +kernel)]
  refine wpAny_pure ?_
  refine wpAny_raiseAttrError hA (fun h' tk' e hne => ?_) (attrMsg_fits (by decide +kernel) (by rw [sizeLine_eq]; omega))
  obtain ⟨t', u', he⟩ := hne.there
  refine wpAny_isInstance (T := "AttributeError") (b := true) ⟨_, he, rfl⟩ sub_AttributeError ?_
  rw [if_pos rfl]
  exact h h' tk' hne.keeps
end
end
section
open PySem PySem.W PyProof.Rows PyProof.Rows.LCg
section
variable {w : World} {A : Around} {E : Value → Shared → Prop} {s : Shared} {h₀ : Heap} {L : Addr} {m : Str → Option Value} {news : Led} {x : Addr} {ord : Int}
theorem hnd_get {expr : Bool} {Q : Value → Shared → Prop} (F : Fr h₀ L s.heap m) (X : (hd.heap_39 w.params).In h₀) (N : News h₀ L s.heap news) (H : OrdAt w ord x news) (h : ∀ t', Q (.int ord t') { s with toks := s.toks + 1 }) :
    wpAny (model PySem.Challenge.rw_pk0065_01.row.prog w) A (getAttr (.ref x) (Str.ofString "handler_order") expr) Q E s := by
  revert X; k_fill; intro X
  obtain ⟨C, dx, es, k, h1, h2, h3⟩ := H
  have I := InstAt.of_news N h1 h2
  rcases h3 with (⟨rfl, rfl, rfl⟩ | ⟨rfl, rfl, rfl⟩ | ⟨rfl, kt, t, rfl⟩) | ⟨rfl, e1, ln, ins, pb, kt, t, ⟨k1, k2, k3, k4, t1, t3, rfl⟩, rfl⟩
  · k_dflt (refine' get_cls F X I ?k4 ?k5 ?k6 ?k7 ?k8 ?k9 ?k10 ?_; (case k4 => k_is); (case k5 => k_is); (case k6 => k_is); (case k7 => k_is); (case k8 => k_handed); (case k9 => decide +kernel); (case k10 => k_get); exact h _)
  · k_dflt (refine' get_cls F X I ?k4 ?k5 ?k6 ?k7 ?k8 ?k9 ?k10 ?_; (case k4 => k_is); (case k5 => k_is); (case k6 => k_is); (case k7 => k_is); (case k8 => k_handed); (case k9 => decide +kernel); (case k10 => k_get); exact h _)
  · k_dflt (refine' get_own F X I ?k4 ?k5 ?k6 ?k7 ?k8 ?k9 ?_; (case k4 => k_is); (case k5 => k_is); (case k6 => k_is); (case k7 => k_is); (case k8 => k_get); (case k9 => k_handed); exact h _)
  · k_dflt (refine' get_own F X I ?k4 ?k5 ?k6 ?k7 ?k8 ?k9 ?_; (case k4 => k_is); (case k5 => k_is); (case k6 => k_is); (case k7 => k_is); (case k8 => k_get); (case k9 => k_handed); exact h _)
theorem hnd_has {t : Tok} {Q : Value → Shared → Prop} (F : Fr h₀ L s.heap m) (X : (hd.heap_39 w.params).In h₀) (N : News h₀ L s.heap news) (H : OrdAt w ord x news) (h : Q (.bool true) s) :
    wpAny (model PySem.Challenge.rw_pk0065_01.row.prog w) A (call (.builtin "hasattr") [.ref x, .str (Str.ofString "handler_order") t]) Q E s := by
  revert X; k_fill; intro X
  obtain ⟨C, dx, es, k, h1, h2, h3⟩ := H
  have I := InstAt.of_news N h1 h2
  rcases h3 with (⟨rfl, rfl, rfl⟩ | ⟨rfl, rfl, rfl⟩ | ⟨rfl, kt, t, rfl⟩) | ⟨rfl, e1, ln, ins, pb, kt, t, ⟨k1, k2, k3, k4, t1, t3, rfl⟩, rfl⟩
  · k_dflt (refine' hasattr_yes (X.keeps F.keep) I ?k4 ?k5 (findObj_cls ?k6 ?k7 ?k8 ?k9 ?k10 ?k11) ?k12 ?_; (case k4 => k_is); (case k5 => k_is); (case k6 => k_is); (case k7 => k_is); (case k8 => k_is); (case k9 => k_handed); (case k10 => decide +kernel); (case k11 => (rw [lookIn_dict]; k_get)); (case k12 => k_handed); exact h)
  · k_dflt (refine' hasattr_yes (X.keeps F.keep) I ?k4 ?k5 (findObj_cls ?k6 ?k7 ?k8 ?k9 ?k10 ?k11) ?k12 ?_; (case k4 => k_is); (case k5 => k_is); (case k6 => k_is); (case k7 => k_is); (case k8 => k_is); (case k9 => k_handed); (case k10 => decide +kernel); (case k11 => (rw [lookIn_dict]; k_get)); (case k12 => k_handed); exact h)
  · k_dflt (refine' hasattr_yes (X.keeps F.keep) I ?k4 ?k5 (findObj_own ?k6 ?k7 ?k8 ?k9) ?k12 ?_; (case k4 => k_is); (case k5 => k_is); (case k6 => k_is); (case k7 => k_is); (case k8 => k_is); (case k9 => (rw [lookIn_dict]; k_get)); (case k12 => k_handed); exact h)
  · k_dflt (refine' hasattr_yes (X.keeps F.keep) I ?k4 ?k5 (findObj_own ?k6 ?k7 ?k8 ?k9) ?k12 ?_; (case k4 => k_is); (case k5 => k_is); (case k6 => k_is); (case k7 => k_is); (case k8 => k_is); (case k9 => (rw [lookIn_dict]; k_get)); (case k12 => k_handed); exact h)
end
end
section
open PySem PySem.W PyProof.Rows PyProof.Rows.LCg
section
theorem new_c (w : World) (v : Value) : Sp w 6 (.ref 59) [v] (fun _ => True)
    (fun news r news' => ∃ x dx pb es, r = .ref x ∧ news' = (pb, PySem.W.listOf #[] 0) :: (x, instObj 59 dx) :: (dx, dictOf es 4) :: news ∧ LexE w 1 v pb es ∧ (∀ p ∈ news, p.1 < dx) ∧ (@LT.lt Nat _ dx x) ∧ (@LT.lt Nat _ x pb)) := by
  intro p loose mean mg mb dp un gd cn cs a ccd cl outer A₀ base h₀ L m news s Q E B F X N T c1 c2 hk hdp hu pre hret
  revert X; k_fill; intro X
  k_dflt (refine' call_cls F X N ?k4 ?k5 ?k6 ?_; (case k4 => k_is); (case k5 => k_is); (case k6 => k_is); k_whole; intro x' d' h' F' N' l1 l2; (try k_lt l1); (try k_lt2 l2))
  k_dflt ktr_enter
  k_steps
  rename_i l3 _ _ _ _ _ _
  (try k_unfold)
  refine hret _ _ _ _ (by assumption) (by assumption) ⟨_, _, _, _, rfl, rfl, ⟨_, _, _, _, _, _, rfl⟩, l1, l2, ?_⟩
  omega
end
end
section
open PySem PySem.W PyProof.Rows PyProof.Rows.LCg
section
theorem wds_G3a : True := by
  k_with_none
  (k_with "call builtin:hasattr" => (k_here; k_dflt (refine' hnd_has (by k_asm) (by k_asm) (by k_asm) (by assumption) ?_)))
  (k_with "getAttr ref" => (k_here; k_dflt (refine' hnd_get (by k_asm) (by k_asm) (by k_asm) (by assumption) ?_); intro _))
  trivial
theorem lt_c (w : World) (x y : Addr) (ox oy : Int) : Sp w 6 (.ref 91) [.ref x, .ref y] (fun news => OrdAt w ox x news ∧ OrdAt w oy y news) (fun news r news' => news' = news ∧ r = .bool (decide (ox < oy))) := by
  intro p loose mean mg mb dp un gd cn cs a ccd cl outer A₀ base h₀ L m news s Q E B F X N T c1 c2 hk hdp hu pre hret
  revert X; k_fill; intro X
  refine wpAny_call ?_
  k_dflt ktr_enter
  rename_i g1 L1 hp1 FG1 F1 N1 B1 X1 T1
  have c1' := CodeHd.keeps c1 FG1.keep
  have c2' := CodeHd.keeps c2 FG1.keep
  (try k_fold)
  obtain ⟨hx, hy⟩ := pre
  k_steps
  (try k_unfold)
  exact hret _ _ _ _ (by assumption) (by assumption) ⟨rfl, rfl⟩
end
/-- y is a lexer that has no order -/
def NoOrd (w : World) (y : Addr) (news : Led) : Prop := ∃ dx es k ln ins pb, (y, instObj 59 dx) ∈ news ∧ (dx, dictOf es k) ∈ news ∧ LexE w ln ins pb es
section
variable {w : World} {A : Around} {E : Value → Shared → Prop} {s : Shared} {h₀ : Heap} {L : Addr} {m : Str → Option Value} {news : Led} {y : Addr}
theorem lex_hasnt {t : Tok} {Q : Value → Shared → Prop} (hA : A.handled = none) (F : Fr h₀ L s.heap m) (X : (hd.heap_39 w.params).In h₀) (N : News h₀ L s.heap news) (H : NoOrd w y news)
    (h : ∀ h' tk', Fr h₀ L h' m → News h₀ L h' news → Q (.bool false) { s with heap := h', toks := tk' }) :
    wpAny (model PySem.Challenge.rw_pk0065_01.row.prog w) A (call (.builtin "hasattr") [.ref y, .str (Str.ofString "handler_order") t]) Q E s := by
  revert X; k_fill; intro X
  (try k_fold)
  obtain ⟨dx, es, k, ln, ins, pb, h1, h2, ⟨k1, k2, k3, k4, t1, t3, rfl⟩⟩ := H
  have I := InstAt.of_news N h1 h2
  have Xs := X.keeps F.keep
  have hcd0 : ((clsIn (hd.heap_39 w.params) 59).any fun cd => cd.name == Str.ofString "_netrclex" && cd.hasDict) = true := by kernel_rfl
  (try k_fold)
  obtain ⟨cd, hcd, hcd1⟩ := any_some hcd0
  have hcn : cd.name = Str.ofString "_netrclex" := eq_of_beq (Bool.and_eq_true_iff.mp hcd1).1
  have hhd : cd.hasDict = true := (Bool.and_eq_true_iff.mp hcd1).2
  have hfi : findIn (hd.heap_39 w.params) (.ref 59) (Str.ofString "handler_order") = some none := by k_dflt k_is
  have hf : findObj (hd.heap_39 w.params) 59 (some (dictOf [ent w "lineno" k1 (.int ln t1), ent w "instream" k2 ins, ent w "whitespace" k3 (.str (Str.ofString "\n\t\x0d ") t3), ent w "pushback" k4 (.ref pb)] k)) (Str.ofString "handler_order") = some .missing := by
    unfold findObj
    rw [hcd, Option.bind_some, hfi, Option.bind_some]
    (try k_unfold)
    (try dsimp only)
    rw [Option.bind_some, Option.bind_some]
    (try k_unfold)
    (try dsimp only)
    unfold PySem.W.ownOf
    rw [hhd, if_pos rfl]
    (try k_unfold)
    (try dsimp only)
    have hl : lookIn (Str.ofString "handler_order") (dictOf [ent w "lineno" k1 (.int ln t1), ent w "instream" k2 ins, ent w "whitespace" k3 (.str (Str.ofString "\n\t\x0d ") t3), ent w "pushback" k4 (.ref pb)] k) = some none := by
      rw [lookIn_dict]; k_dflt k_get
    rw [hl, Option.bind_some]
    (try k_unfold)
    (try dsimp only)
    rw [show copiedNames.contains (Str.ofString "handler_order") = false from by decide +kernel]
    rfl
  k_dflt (refine' hasattr_no hA Xs I ?k4 ?k5 hf ?k6 hcd hcn ?k7 ?_; (case k4 => k_is); (case k5 => k_is); (case k6 => k_is); (case k7 => decide +kernel))
  intro h' tk' hk
  exact h h' tk' (F.keeps hk) (N.grown hk)
end
section
theorem wds_G3b : True := by
  (k_with "call builtin:hasattr" => (k_here; k_dflt (refine' lex_hasnt (by (exact rfl)) (by k_asm) (by k_asm) (by k_asm) (by assumption) ?_); intro _ _ _ _))
  trivial
theorem ltline_c (w : World) (x y : Addr) : Sp w 6 (.ref 91) [.ref x, .ref y] (fun news => NoOrd w y news) (fun news r news' => news' = news ∧ r = .bool true) := by
  intro p loose mean mg mb dp un gd cn cs a ccd cl outer A₀ base h₀ L m news s Q E B F X N T c1 c2 hk hdp hu pre hret
  revert X; k_fill; intro X
  refine wpAny_call ?_
  k_dflt ktr_enter
  rename_i g1 L1 hp1 FG1 F1 N1 B1 X1 T1
  have c1' := CodeHd.keeps c1 FG1.keep
  have c2' := CodeHd.keeps c2 FG1.keep
  k_steps
  (try k_unfold)
  exact hret _ _ _ _ (by assumption) (by assumption) ⟨rfl, rfl⟩
end
theorem wde_G3 : True := by
  k_with_none
  trivial
end
section
open PySem PySem.W PyProof.Rows PyProof.Rows.LCg
theorem Hold.out {P : Prop} (h : Hold P) : P := h
theorem isL {h₀ h : Heap} {L l : Addr} {news : Led} {vs : Array Value} {k : Nat} (N : News h₀ L h news) (hm : (l, PySem.W.listOf vs k) ∈ news) : h.IsList l vs := ⟨_, (N _ hm).1, rfl, _, rfl⟩
section
variable {prog : Program} {w : World} {A : Around} {E : Value → Shared → Prop} {s : Shared} {h₀ : Heap} {L : Addr} {m : Str → Option Value} {env : Env} {news : Led}
theorem canon {h : Heap} {x : Str} {v : Value} (F : Fr h₀ L h m) (e : m x = some v) : Fr h₀ L h (fun y => if y = x then some v else m y) := by
  have : (fun y => if y = x then some v else m y) = m := by
    funext y
    by_cases h : y = x
    · subst h; simp [e]
    · simp [h]
  rw [this]; exact F
/-- the end of a turn -/
inductive TNext (h₀ : Heap) (L : Addr) (J : Nat → (Str → Option Value) → Led → Prop) (n : Nat) (s s₃ : Shared) : Prop
  | mk (h' : Heap) (tk : Nat) (m' : Str → Option Value) (nw : Led) (e : s₃ = { s with heap := h', toks := tk }) (F : Fr h₀ L h' m') (N : News h₀ L h' nw) (n' : Nat) (hn : n' < n) (j : J n' m' nw)
def TEnd (h₀ : Heap) (L : Addr) (J : Nat → (Str → Option Value) → Led → Prop) (n : Nat) (s : Shared) (Q : Flow → Shared → Prop) (f : Flow) (s₃ : Shared) : Prop := match f with
  | .next => TNext h₀ L J n s s₃
  | .cont => TNext h₀ L J n s s₃
  | .brk => Q .next s₃
  | .ret v => Q (.ret v) s₃
theorem while_led {test : PySem.Expr} {body : List Stmt} {pos : Pos} {Q : Flow → Shared → Prop} (J : Nat → (Str → Option Value) → Led → Prop) (n : Nat)
    (F : Fr h₀ L s.heap m) (N : News h₀ L s.heap news) (hj : J n m news)
    (turn : ∀ n m news h tk (E' : Value → Shared → Prop), J n m news → Fr h₀ L h m → News h₀ L h news →
      wpAny (model prog w) A (isTrue test env (eval test env)) (fun b s₂ => if b = true then wpAny (model prog w) A (execs body env) (fun f s₃ => Hold (TEnd h₀ L J n s Q f s₃)) E' s₂ else Hold (Q .next s₂)) E' { s with heap := h, toks := tk }) :
    wpAny (model prog w) A (exec (.While test body [] pos) env) Q E s := by
  refine wpAny_While (codeAny_whileLoop (fun n s' => ∃ h tk m news, s' = { s with heap := h, toks := tk } ∧ Fr h₀ L h m ∧ News h₀ L h news ∧ J n m news) ?_ n ⟨s.heap, s.toks, m, news, rfl, F, N, hj⟩)
  rintro n s' ⟨h, tk, m', nw, rfl, F', N', hj'⟩
  refine wpAny_mono (turn n m' nw h tk _ hj' F' N') (fun b s₂ h₂ => ?_) fun _ _ x => x
  cases b with
  | false => exact wpAny_execs_nil h₂
  | true =>
    refine wpAny_mono h₂ (fun f s₃ h₃ => ?_) fun _ _ x => x
    cases f with
    | next => obtain ⟨h', tk', m'', nw', e, F'', N'', n', hn, hj''⟩ := h₃; exact ⟨n', hn, h', tk', m'', nw', e, F'', N'', hj''⟩
    | cont => obtain ⟨h', tk', m'', nw', e, F'', N'', n', hn, hj''⟩ := h₃; exact ⟨n', hn, h', tk', m'', nw', e, F'', N'', hj''⟩
    | brk => exact h₃
    | ret v => exact h₃
end
end
section
open PySem PySem.W PyProof.Rows PyProof.Rows.LCg PySem.Calls
theorem gt_plain : plainId "object.__gt__" = true := by decide +kernel
theorem gt_entry : entryFor table "object.__gt__" = some Builtin.«object.__gt__» := entryFor_of_tree (by kernel_rfl)
theorem gt_kind : builtinKind "object.__gt__" = some .slot := by decide +kernel
theorem gt_split : splitId "object.__gt__" = some ("object", "__gt__") := by decide +kernel
theorem gt_args (a b : Value) : argsOk "object.__gt__" ⟨[a, b], []⟩ := by unfold argsOk; kernel_rfl
theorem gt_type : typeOf (.builtin "object.__gt__") = pure (.type "wrapper_descriptor") := by show builtinType _ = _; rw [builtinType_eq_fast]; kernel_rfl
section
variable {prog : Program} {w : World} {A : Around} {E : Value → Shared → Prop} {s : Shared} {K : Frag} {x C : Addr} {ox : Obj} {od : Option Obj} {b : Value}
theorem gt_call {Q : Value → Shared → Prop} (X : K.In s.heap) (I : InstAt s.heap x ox C od) (hm : mroIn K C (.type "object") = some true) (h : Q .notImplemented s) :
    wpAny (model prog w) A (call (.builtin "object.__gt__") [.ref x, b]) Q E s := by
  refine wpAny_call (codeAny_call_builtin gt_plain gt_entry ?_)
  (try k_fold)
  obtain ⟨hh, g, d, tk, os⟩ := s
  have L0 := I.type (M := model prog w)
  have L1 := looks_mroIn (M := model prog w) X hm
  simp only [checkBuiltinCall, gt_kind, gt_split]
  refine wpAny_bind ?_
  unfold isInstance
  refine wpAny_bind (L0.at (L1.at ?_))
  have ha := gt_args (.ref x) b
  cases hsig : Manifest.signature? "object.__gt__" with
  | none => exact wpAny_pure (wpAny_bind (wpAny_pure (wpAny_pure h)))
  | some sig =>
    simp only [argsOk, hsig] at ha
    have h2 : Bind.checkArgs "object.__gt__" sig ⟨[.ref x, b], []⟩ = pure () := ha
    show wpAny _ _ (Bind.checkArgs "object.__gt__" sig ⟨[.ref x, b], []⟩) _ E _
    rw [h2]; exact wpAny_pure (wpAny_bind (wpAny_pure (wpAny_pure h)))
theorem gt_declined {Q : Option Value → Shared → Prop} (X : K.In s.heap) (I : InstAt s.heap x ox C od) (hs : findIn K (.ref C) "__gt__" = some (some (.builtin "object.__gt__"))) (hm : mroIn K C (.type "object") = some true) (h : Q none s) :
    wpAny (model prog w) A (tryCompare (.ref x) "__gt__" b) Q E s := by
  unfold tryCompare
  simp only [callSpecialIfBound?, bindSpecialIfBound?]
  have fin : wpAny (model prog w) A (call (.builtin "object.__gt__") ([.ref x] ++ [b]) >>= fun v => pure (some v)) (fun r s' => wpAny (model prog w) A (match r with | some .notImplemented | none => pure none | some v => pure (some v)) Q E s') E s :=
    wpAny_bind (gt_call X I hm (wpAny_pure (wpAny_pure h)))
  have hb : bindSpecial (.builtin "object.__gt__") (.ref x) = pure (.builtin "object.__gt__", [.ref x]) := by
    unfold bindSpecial; rw [gt_type]; rfl
  refine wpAny_bind (wpAny_holding (wpAny_bind (wpAny_bind (wpAny_bind (I.type.here ((looks_findIn X hs).here ?_))))))
  simp only [hb]
  refine wpAny_bind (wpAny_askSetting (wpAny_ite ?_))
  split
  · exact wpAny_bind (wpAny_pure (wpAny_pure fin))
  · exact wpAny_tryCatch (wpAny_bind (wpAny_pure (wpAny_pure fin)))
theorem cmp_sub {f y : Addr} {Q : Value → Shared → Prop} {oy : Obj} {Cy : Addr} {ody : Option Obj} (hu : A.units < cLine) (X : K.In s.heap) (I : InstAt s.heap x ox C od) (Iy : InstAt s.heap y oy Cy ody) (hne : Cy ≠ C) (hsub : subIn K (.ref Cy) (.ref C) = some true)
    (hg : findIn K (.ref Cy) "__gt__" = some (some (.builtin "object.__gt__"))) (hm : mroIn K Cy (.type "object") = some true)
    (hs : findIn K (.ref C) "__lt__" = some (some (.ref f))) (hf : isFn K (.ref f) = true)
    (h : wpAny (model prog w) A (call (.ref f) [.ref x, .ref y]) (PySem.W.CmpBack Q) E s) : wpAny (model prog w) A (richCompare .Lt (.ref x) (.ref y)) Q E s := by
  have one : wpAny (model prog w) A (tryCompare (.ref x) "__lt__" (.ref y)) (fun r s' => ∃ v, r = some v ∧ Q v s') E s := by
    unfold tryCompare
    refine wpAny_bind (ifBound_K X I hs hf (wpAny_mono h (fun v s' hv => ?_) fun _ _ e => e))
    cases v <;> first | exact False.elim hv | exact wpAny_pure ⟨_, rfl, hv⟩
  unfold richCompare
  simp only [oneThing_ref]
  refine wpAny_holding (wpAny_bind (wpAny_cRoomFor hu ?_))
  refine wpAny_bind (I.type.here (wpAny_bind (Iy.type.here ?_)))
  split
  · rename_i q
    refine wpAny_bind ((looks_subIn X hsub).here ?_)
    simp only [if_true]
    refine wpAny_bind (gt_declined X Iy hg hm ?_)
    (try k_unfold)
    (try dsimp only)
    refine wpAny_bind (wpAny_mono one (fun r s' z => ?_) fun _ _ e => e)
    (try k_fold)
    obtain ⟨v, rfl, hq⟩ := z
    exact wpAny_pure hq
  · rename_i q
    exact absurd (fun e => hne (Value.ref.inj e).symm) (by simpa using q)
end
section
variable {w : World} {A : Around} {E : Value → Shared → Prop} {s : Shared} {h₀ : Heap} {L : Addr} {m : Str → Option Value} {news : Led} {x y : Addr} {ord : Int}
theorem lt_open' {Q : Value → Shared → Prop} {oy : Obj} {Cy : Addr} {dy : Option Obj} (hu : A.units < cLine) (F : Fr h₀ L s.heap m) (X : (hd.heap_39 w.params).In h₀) (N : News h₀ L s.heap news) (H : Hnd w ord x news) (Iy : InstAt s.heap y oy Cy dy) (hC : Cy = 94 ∨ Cy = 115 ∨ Cy = 59)
    (h : wpAny (model PySem.Challenge.rw_pk0065_01.row.prog w) A (call (.ref 91) [.ref x, .ref y]) (fun v s' => ∃ b, v = .bool b ∧ Q (.bool b) s') E s) :
    wpAny (model PySem.Challenge.rw_pk0065_01.row.prog w) A (compareOp .Lt (.ref x) (.ref y)) Q E s := by
  revert X; k_fill; intro X
  (try k_fold)
  obtain ⟨C, dx, es, k, h1, h2, h3⟩ := H
  have I := InstAt.of_news N h1 h2
  refine cmp_ofLt ?_
  have hCx : C = 94 ∨ C = 115 := by
    rcases h3 with ⟨rfl, _, _⟩ | ⟨rfl, _, _⟩ | ⟨rfl, _⟩
    · exact .inl rfl
    · exact .inr rfl
    · exact .inl rfl
  have h' : wpAny (model PySem.Challenge.rw_pk0065_01.row.prog w) A (call (.ref 91) [.ref x, .ref y]) (PySem.W.CmpBack Q) E s := wpAny_mono h (fun v s' ⟨b, e, q⟩ => by subst e; exact q) fun _ _ e => e
  rcases hCx with rfl | rfl <;> rcases hC with rfl | rfl | rfl
  · k_dflt (refine' cmp_K hu F X I Iy.type ?k6 ?k7 ?k8 h'; (case k6 => k_is); (case k7 => k_is); (case k8 => k_is))
  · k_dflt (refine' cmp_sub hu (X.keeps F.keep) I Iy ?k5 ?k6 ?k7 ?k8 ?k9 ?k10 h'; (case k5 => decide); (case k6 => k_is); (case k7 => k_is); (case k8 => k_is); (case k9 => k_is); (case k10 => k_is))
  · k_dflt (refine' cmp_K hu F X I Iy.type ?k6 ?k7 ?k8 h'; (case k6 => k_is); (case k7 => k_is); (case k8 => k_is))
  · k_dflt (refine' cmp_K hu F X I Iy.type ?k6 ?k7 ?k8 h'; (case k6 => k_is); (case k7 => k_is); (case k8 => k_is))
  · k_dflt (refine' cmp_K hu F X I Iy.type ?k6 ?k7 ?k8 h'; (case k6 => k_is); (case k7 => k_is); (case k8 => k_is))
  · k_dflt (refine' cmp_K hu F X I Iy.type ?k6 ?k7 ?k8 h'; (case k6 => k_is); (case k7 => k_is); (case k8 => k_is))
end
end
section
open PySem PySem.W PyProof.Rows PyProof.Rows.LCg
theorem lt_hh {w : World} {p : Program} {loose : List Str} {mean : ExcName → Option Value} {mg mb : Str → Option Value} {dp un : Nat} {gd : Option (List Code)} {cn : Str} {cs : Scope} {a : Addr} {ccd : Value} {cl : List (Str × Addr)} {outer : List Env} {A₀ : Around} {base h₀ : Heap} {L : Addr} {m : Str → Option Value} {news : Led} {s : Shared}
    {Q E : Value → Shared → Prop} {x y : Addr} {o1 o2 : Int} (B : Below A₀ base outer h₀) (F : Fr h₀ L s.heap m) (X : (hd.heap_39 w.params).In h₀) (N : News h₀ L s.heap news) (T : Top p loose mean mg mb h₀) (c1 : CodeHd h₀ 185 181) (c2 : CodeHd h₀ 128 124) (hk : cs.kind = .function)
    (hdp : dp + 8 < 900) (hu : un + 8 * 8 < 900) (H1 : Hnd w o1 x news) (H2 : OrdAt w o2 y news)
    (h : ∀ h' tk', Fr h₀ L h' m → News h₀ L h' news → Q (.bool (decide (o1 < o2))) { s with heap := h', toks := tk' }) :
    wpAny (model PySem.Challenge.rw_pk0065_01.row.prog w) (ktrTop dp un gd cn cs L a ccd cl outer) (compareOp .Lt (.ref x) (.ref y)) Q E s := by
  (try k_fold)
  obtain ⟨C, dy, es, k, h1, h2, h3⟩ := id H2
  have hc := cLine_is
  refine lt_open' (by show un < cLine; omega) F X N H1 (InstAt.of_news N h1 h2) ?_ (sp_use (lt_c w x y o1 o2) B F X N T c1 c2 hk (by omega) (by omega) ⟨H1.ord, H2⟩ ?_)
  · rcases h3 with (⟨rfl, _, _⟩ | ⟨rfl, _, _⟩ | ⟨rfl, _⟩) | ⟨rfl, _⟩
    · exact .inl rfl
    · exact .inr (.inl rfl)
    · exact .inl rfl
    · exact .inr (.inr rfl)
  · rintro r nw h' tk' F' N' ⟨rfl, rfl⟩
    exact ⟨_, rfl, h h' tk' F' N'⟩
theorem lt_hl {w : World} {p : Program} {loose : List Str} {mean : ExcName → Option Value} {mg mb : Str → Option Value} {dp un : Nat} {gd : Option (List Code)} {cn : Str} {cs : Scope} {a : Addr} {ccd : Value} {cl : List (Str × Addr)} {outer : List Env} {A₀ : Around} {base h₀ : Heap} {L : Addr} {m : Str → Option Value} {news : Led} {s : Shared}
    {Q E : Value → Shared → Prop} {x y : Addr} {o1 : Int} (B : Below A₀ base outer h₀) (F : Fr h₀ L s.heap m) (X : (hd.heap_39 w.params).In h₀) (N : News h₀ L s.heap news) (T : Top p loose mean mg mb h₀) (c1 : CodeHd h₀ 185 181) (c2 : CodeHd h₀ 128 124) (hk : cs.kind = .function)
    (hdp : dp + 8 < 900) (hu : un + 8 * 8 < 900) (H1 : Hnd w o1 x news) (H2 : NoOrd w y news)
    (h : ∀ h' tk', Fr h₀ L h' m → News h₀ L h' news → Q (.bool true) { s with heap := h', toks := tk' }) :
    wpAny (model PySem.Challenge.rw_pk0065_01.row.prog w) (ktrTop dp un gd cn cs L a ccd cl outer) (compareOp .Lt (.ref x) (.ref y)) Q E s := by
  (try k_fold)
  obtain ⟨dy, es, k, ln, ins, pb, h1, h2, h3⟩ := id H2
  have hc := cLine_is
  refine lt_open' (by show un < cLine; omega) F X N H1 (InstAt.of_news N h1 h2) (.inr (.inr rfl)) (sp_use (ltline_c w x y) B F X N T c1 c2 hk (by omega) (by omega) H2 ?_)
  rintro r nw h' tk' F' N' ⟨rfl, rfl⟩
  exact ⟨_, rfl, h h' tk' F' N'⟩
theorem lt_hh_at {w : World} {p : Program} {loose : List Str} {mean : ExcName → Option Value} {mg mb : Str → Option Value} {dp un : Nat} {gd : Option (List Code)} {cn : Str} {cs : Scope} {a : Addr} {ccd : Value} {cl : List (Str × Addr)} {outer : List Env} {A₀ : Around} {base h₀ : Heap} {L : Addr} {m : Str → Option Value} {news : Led} {s : Shared}
    {Q E : Value → Shared → Prop} {x y : Addr} {o1 o2 : Int} (K : Rdy w 8 p loose mean mg mb dp un cs outer A₀ base h₀ L m news s) (H1 : Hnd w o1 x news) (H2 : OrdAt w o2 y news)
    (h : ∀ h' tk', Fr h₀ L h' m → News h₀ L h' news → Q (.bool (decide (o1 < o2))) { s with heap := h', toks := tk' }) :
    wpAny (model PySem.Challenge.rw_pk0065_01.row.prog w) (ktrTop dp un gd cn cs L a ccd cl outer) (compareOp .Lt (.ref x) (.ref y)) Q E s := lt_hh K.B K.F K.X K.N K.T K.c1 K.c2 K.hk K.hdp K.hu H1 H2 h
theorem lt_hl_at {w : World} {p : Program} {loose : List Str} {mean : ExcName → Option Value} {mg mb : Str → Option Value} {dp un : Nat} {gd : Option (List Code)} {cn : Str} {cs : Scope} {a : Addr} {ccd : Value} {cl : List (Str × Addr)} {outer : List Env} {A₀ : Around} {base h₀ : Heap} {L : Addr} {m : Str → Option Value} {news : Led} {s : Shared}
    {Q E : Value → Shared → Prop} {x y : Addr} {o1 : Int} (K : Rdy w 8 p loose mean mg mb dp un cs outer A₀ base h₀ L m news s) (H1 : Hnd w o1 x news) (H2 : NoOrd w y news)
    (h : ∀ h' tk', Fr h₀ L h' m → News h₀ L h' news → Q (.bool true) { s with heap := h', toks := tk' }) :
    wpAny (model PySem.Challenge.rw_pk0065_01.row.prog w) (ktrTop dp un gd cn cs L a ccd cl outer) (compareOp .Lt (.ref x) (.ref y)) Q E s := lt_hl K.B K.F K.X K.N K.T K.c1 K.c2 K.hk K.hdp K.hu H1 H2 h
theorem NoOrd.sub {w : World} {x : Addr} {news news' : Led} (h : NoOrd w x news) (k : ∀ p ∈ news, p ∈ news') : NoOrd w x news' :=
  let ⟨dx, es, n, ln, ins, pb, a, b, c⟩ := h; ⟨dx, es, n, ln, ins, pb, k _ a, k _ b, c⟩
def Hnds (w : World) (ords : List Int) (hs : List Addr) (news : Led) : Prop := hs.length = ords.length ∧ ∀ (i : Nat) (o : Int) (a : Addr), ords[i]? = some o → hs[i]? = some a → Hnd w o a news
theorem Hnds.sub {w : World} {ords : List Int} {hs : List Addr} {news news' : Led} (h : Hnds w ords hs news) (k : ∀ p ∈ news, p ∈ news') : Hnds w ords hs news' := ⟨h.1, fun i o a e1 e2 => (h.2 i o a e1 e2).sub k⟩
def ordAt (ords : List Int) (i : Int) : Int := ords.getD i.toNat 0
theorem Hnds.at {w : World} {ords : List Int} {hs : List Addr} {news : Led} (h : Hnds w ords hs news) {i : Int} (h0 : 0 ≤ i) (h1 : i < (ords.length : Int)) : ∃ a, ((hs.map Value.ref).toArray)[i.toNat]? = some (.ref a) ∧ Hnd w (ordAt ords i) a news := by
  have h2 : i.toNat < ords.length := by omega
  have h3 : i.toNat < hs.length := by rw [h.1]; exact h2
  (try k_unfold)
  refine ⟨hs[i.toNat], by simp [h3], h.2 i.toNat _ _ ?_ (List.getElem?_eq_getElem h3)⟩
  rw [ordAt, List.getD_eq_getElem?_getD, List.getElem?_eq_getElem h2]; rfl
theorem allLt_mem {d : Nat} {l : Led} (h : AllLt d l) : ∀ p ∈ l, p.1 < d := by
  induction l with
  | nil => intro p hp; cases hp
  | cons q r ih =>
    intro p hp
    rcases List.mem_cons.mp hp with e | hp
    · rw [e]; exact h.1
    · exact ih h.2 p hp
theorem ints_snoc : ∀ {vs : List Value} {ns : List Int} (_ : IntsAre vs ns) (n : Int) (t : Tok), IntsAre (vs ++ [.int n t]) (ns ++ [n])
  | _, _, .nil, n, t => .cons n t .nil
  | _, _, .cons k u r, n, t => .cons k u (ints_snoc r n t)
theorem slice1 (v : Value) (vs : List Value) : (slicePick (v :: vs).toArray (some 1) none none).toList = vs := by
  have := slicePick_from (v :: vs).toArray 1 (by simp)
  rw [show ((1 : Int)) = ((1 : Nat) : Int) from rfl, this]; simp
theorem item0_led {prog : Program} {w : World} {A : Around} {E : Value → Shared → Prop} {s : Shared} {h₀ : Heap} {L : Addr} {news : Led} {value slice : PySem.Expr} {l : Addr} {v : Value} {vs : List Value} {n : Nat} {u : Tok} {Q : Value → Shared → Prop} (N : News h₀ L s.heap news) (hm : (l, PySem.W.listOf (v :: vs).toArray n) ∈ news) (h : Q v s)
    (hs : subscripted slice false (.ref l) (.int 0 u) = operate [.ref l, .int 0 u] (getItem (.ref l) (.int 0 u)) := by with_unfolding_all rfl) :
    wpAny (model prog w) A (subscriptTail value slice (.ref l) (.int 0 u)) Q E s := item_led N hm (Int.le_refl _) (by decide) (by simp) h hs
def mergeL (ord : Int → Int) (one two : List Int) : List Int := List.merge one two (fun x y => !decide (ord y < ord x))
theorem mergeL_nil (ord : Int → Int) (one : List Int) : mergeL ord one [] = one := List.merge_right _
theorem mergeL_left (ord : Int → Int) (two : List Int) : mergeL ord [] two = two := List.nil_merge _
theorem mergeL_two (ord : Int → Int) {a b : Int} (one two : List Int) (h : ord b < ord a) : mergeL ord (a :: one) (b :: two) = b :: mergeL ord (a :: one) two := List.cons_merge_cons_neg _ _ _ (by simp [h])
theorem mergeL_one (ord : Int → Int) {a b : Int} (one two : List Int) (h : ¬ ord b < ord a) : mergeL ord (a :: one) (b :: two) = a :: mergeL ord one (b :: two) := List.cons_merge_cons_pos _ _ _ (by simp [h])
section
theorem wds_G6a : True := by
  k_with_none
  (k_with "exec While Compare cons nil" => (k_here; (try k_fold); refine Hold.out ?_))
  (k_with "compareOp NotEq ref ref" => (k_here; (with_reducible show wpAny _ _ (compareOp CmpOp.NotEq (Value.ref _) (Value.ref _)) _ _ _); k_dflt (refine' ne_intsK (isL (by k_asm) (by k_mem)) (by (first | assumption | exact IntsAre.nil | exact IntsAre.cons _ _ (by assumption))) (isL (by k_asm) (by k_mem)) (by (first | assumption | exact IntsAre.nil)) (by (((have hcL9 := cLine_is); (try simp only [units_in1, units_deeper, Around.mark_units]); (try dsimp only [ktrTop]); omega))) ?_); (try simp only [reduceCtorEq, List.cons_ne_nil, decide_false, decide_true, Bool.not_false, Bool.not_true])))
  (k_with "subscriptTail" => (k_here; (with_reducible show wpAny _ _ (subscriptTail _ _ (Value.ref _) (Value.int _ _)) _ _ _); k_dflt (refine' item_led (by k_asm) (by k_mem) (by omega) (by omega) (by (first | assumption | exact rfl)) ?_)))
  (k_with "subscriptTail Name Constant ref int" => (k_here; (with_reducible show wpAny _ _ (subscriptTail _ _ (Value.ref _) (Value.int _ _)) _ _ _); k_dflt (refine' item0_led (by k_asm) (by k_mem) ?_)))
  (k_with "compareOp Lt ref" => (k_here; k_dflt (refine' lt_hl_at (by kf1_first) (by (exact Hnd.sub (by assumption) (by intro p9 hp9; repeat (first | exact hp9 | refine List.mem_cons_of_mem _ ?_)))) (by (exact NoOrd.sub (by assumption) (by intro p9 hp9; repeat (first | exact hp9 | refine List.mem_cons_of_mem _ ?_)))) ?_); intro _ _ _ _; (try dsimp only); (try k_fold)))
  (k_with "compareOp Lt ref" => (k_here; k_dflt (refine' lt_hh_at (by kf1_first) (by (exact Hnd.sub (by assumption) (by intro p9 hp9; repeat (first | exact hp9 | refine List.mem_cons_of_mem _ ?_)))) (by (exact Hnd.ord (Hnd.sub (by assumption) (by intro p9 hp9; repeat (first | exact hp9 | refine List.mem_cons_of_mem _ ?_))))) ?_); intro _ _ _ _; (try dsimp only); (try k_fold)))
  (k_with "subscriptTail Name Slice ref ref" => (k_here; (with_reducible show wpAny _ _ (subscriptTail _ (PySem.Expr.Slice _ _ none _) (Value.ref _) (Value.ref _)) _ _ _); k_dflt (refine' kmk_slice_lit (by k_asm) (by k_asm) (by (exact isL (by k_asm) (by k_mem))) (by kmk_part) (by kmk_part) (by (exact slice1 _ _)) ?_ (by (with_unfolding_all rfl)) (by kmk_pure) (by assumption)); intro _ _ _ _; kpr_short))
  trivial
/-- where a merging stands -/
inductive MgJ (ords : List Int) (news : Led) (one two : List Int) (a3 hl ln : Addr) (n : Nat) (m : Str → Option Value) (nw : Led) : Prop
  | mk (a1 a2 : Addr) (v1' v2' v3' : List Value) (k1' k2' k3' : Nat) (one' two' acc : List Int) (hn : n = one'.length + two'.length) (m1 : m (Str.ofString "one") = some (.ref a1)) (m2 : m (Str.ofString "two") = some (.ref a2)) (m3 : m (Str.ofString "merged") = some (.ref a3)) (m4 : m (Str.ofString "handlers") = some (.ref hl)) (m5 : m (Str.ofString "line") = some (.ref ln))
    (e : nw = (a3, PySem.W.listOf v3'.toArray k3') :: (a1, PySem.W.listOf v1'.toArray k1') :: (a2, PySem.W.listOf v2'.toArray k2') :: news) (n1 : @Ne Nat a1 a3) (n2 : @Ne Nat a2 a3) (j1 : IntsAre v1' one') (j2 : IntsAre v2' two') (j3 : IntsAre v3' acc)
    (s1 : ∀ i ∈ one', 0 ≤ i ∧ i < (ords.length : Int)) (s2 : ∀ i ∈ two', 0 ≤ i ∧ i < (ords.length : Int)) (hacc : acc ++ mergeL (ordAt ords) one' two' = mergeL (ordAt ords) one two) (hlen : acc.length + one'.length + two'.length = one.length + two.length)
theorem merged_c (w : World) (hl l1 l2 ln : Addr) (ords : List Int) (hs : List Addr) (k0 k1 k2 : Nat) (v1 v2 : List Value) (one two : List Int) (i1 : IntsAre v1 one) (i2 : IntsAre v2 two) (hb : one.length + two.length ≤ 100) (hol : ords.length ≤ 100)
    (r1 : ∀ i ∈ one, 0 ≤ i ∧ i < (ords.length : Int)) (r2 : ∀ i ∈ two, 0 ≤ i ∧ i < (ords.length : Int)) :
    Sp w 12 (.ref 174) [.ref hl, .ref l1, .ref l2, .ref ln]
      (fun news => (hl, PySem.W.listOf (hs.map Value.ref).toArray k0) ∈ news ∧ Hnds w ords hs news ∧ (l1, PySem.W.listOf v1.toArray k1) ∈ news ∧ (l2, PySem.W.listOf v2.toArray k2) ∈ news ∧ NoOrd w ln news)
      (fun news r news' => ∃ lr vs k, r = .ref lr ∧ news' = (lr, PySem.W.listOf vs.toArray k) :: news ∧ IntsAre vs (mergeL (ordAt ords) one two) ∧ (∀ p ∈ news, p.1 < lr)) := by
  intro p loose mean mg mb dp un gd cn cs a ccd cl outer A₀ base h₀ L m news s Q E B F X N T c1 c2 hk hdp hu pre hret
  revert X; k_fill; intro X
  refine wpAny_call ?_
  k_dflt ktr_enter
  rename_i g1 L1 hp1 FG1 F1 N1 B1 X1 T1
  have c1' := CodeHd.keeps c1 FG1.keep
  have c2' := CodeHd.keeps c2 FG1.keep
  (try k_fold)
  obtain ⟨p1, p2, p3, p4, p5⟩ := pre
  k_steps
  rename_i a3 hX lt3 h3 F3 N3
  (try k_unfold)
  refine Hold.mk (while_led (MgJ ords news one two a3 hl ln) (one.length + two.length) F3 (news := (a3, PySem.W.listOf ([] : List Value).toArray 0) :: (l1, PySem.W.listOf v1.toArray k1) :: (l2, PySem.W.listOf v2.toArray k2) :: news) ?_ ?_ ?_)
  · exact news_sub N3 (by (repeat refine sub_cons (by k_mem) ?_); (first | exact sub_nil | exact fun q h9 => by k_mem))
  · exact ⟨l1, l2, v1, v2, [], k1, k2, 0, one, two, [], rfl, rfl, rfl, rfl, rfl, rfl, rfl, Nat.ne_of_lt (lt3 _ p3), Nat.ne_of_lt (lt3 _ p4), i1, i2, .nil, r1, r2, rfl, by simp⟩
  · intro n m' nw h tk E' pz1 F4 N4
    (try k_fold)
    obtain ⟨a1, a2, v1', v2', v3', k1', k2', k3', one', two', acc, hn0, m1, m2, m3, m4, m5, rfl, n1, n2, j1, j2, j3, s1, s2, hacc, hlen⟩ := pz1
    have F5 := canon (x := Str.ofString "line") (canon (x := Str.ofString "handlers") (canon (x := Str.ofString "merged") (canon (x := Str.ofString "two") (canon F4 m1) m2) m3) m4) m5
    clear F4 N3 F3
    have q2 := p2.sub (news' := (a3, PySem.W.listOf v3'.toArray k3') :: (a1, PySem.W.listOf v1'.toArray k1') :: (a2, PySem.W.listOf v2'.toArray k2') :: news) (fun p hp => List.mem_cons_of_mem _ (List.mem_cons_of_mem _ (List.mem_cons_of_mem _ hp)))
    have q5 := p5.sub (news' := (a3, PySem.W.listOf v3'.toArray k3') :: (a1, PySem.W.listOf v1'.toArray k1') :: (a2, PySem.W.listOf v2'.toArray k2') :: news) (fun p hp => List.mem_cons_of_mem _ (List.mem_cons_of_mem _ (List.mem_cons_of_mem _ hp)))
    cases j2 with
    | nil =>
      k_steps
      (try k_unfold)
      refine Hold.mk ?_
      k_steps
      rename_i lD kF kN _ _
      rename IntsAre _ (acc ++ one') => hI
      have hm := mergeL_nil (ordAt ords) one'
      rw [hm] at hacc
      rw [hacc] at hI
      (try k_unfold)
      exact hret _ _ _ _ kF (fun q hq => kN q (by
        rcases List.mem_cons.mp hq with rfl | hq
        · exact List.mem_cons_self
        · exact List.mem_cons_of_mem _ (List.mem_cons_of_mem _ (List.mem_cons_of_mem _ (List.mem_cons_of_mem _ (List.mem_cons_of_mem _ hq)))))) ⟨_, _, _, rfl, rfl, hI, allLt_mem lD.2.2.2.2⟩
    | cons b tb j2 =>
      have hb1 := s2 b (List.mem_cons_self ..)
      (try k_fold)
      obtain ⟨xb, hxb, Hb⟩ := q2.at hb1.1 hb1.2
      rename_i vs2 ns2
      have z2 : (Value.int b tb :: vs2).toArray.size ≤ sizeLine := by have := j2.length; simp only [List.length_cons] at hlen; simp only [List.size_toArray, List.length_cons, sizeLine]; omega
      have s2' : ∀ i ∈ ns2, 0 ≤ i ∧ i < (ords.length : Int) := fun i hi => s2 i (List.mem_cons_of_mem _ hi)
      cases j1 with
      | nil =>
        k_steps
        rename_i D hO lD hh FF NN
        (try k_unfold)
        refine Hold.mk ⟨hh, _, _, (a3, PySem.W.listOf (v3' ++ [Value.int b tb]).toArray (k3' + 1)) :: (a1, PySem.W.listOf ([] : List Value).toArray k1') :: (D, PySem.W.listOf vs2.toArray 0) :: news, rfl, FF, ?_, 0 + ns2.length, ?_, a1, D, [], vs2, v3' ++ [Value.int b tb], k1', 0, k3' + 1, [], ns2, acc ++ [b], by simp, rfl, rfl, rfl, rfl, rfl, rfl, n1, ?_, .nil, j2, ints_snoc j3 b tb, s1, s2', ?_, ?_⟩
        · exact news_sub NN (by (repeat refine sub_cons (by first | k_mem | simp) ?_); (first | exact sub_nil | exact fun q h9 => by k_mem))
        · rw [hn0]; simp
        · omega
        · rw [← hacc, List.append_assoc, mergeL_left, mergeL_left]; rfl
        · simp only [List.length_append, List.length_cons, List.length_nil] at hlen ⊢; omega
      | cons a ta j1 =>
        have ha1 := s1 a (List.mem_cons_self ..)
        (try k_fold)
        obtain ⟨xa, hxa, Ha⟩ := q2.at ha1.1 ha1.2
        rename_i vs1 ns1
        have z1 : (Value.int a ta :: vs1).toArray.size ≤ sizeLine := by have := j1.length; simp only [List.length_cons] at hlen; simp only [List.size_toArray, List.length_cons, sizeLine]; omega
        have s1' : ∀ i ∈ ns1, 0 ≤ i ∧ i < (ords.length : Int) := fun i hi => s1 i (List.mem_cons_of_mem _ hi)
        k_steps
        · rename_i D hO lD hh FF NN
          (try k_unfold)
          refine Hold.mk ⟨hh, _, _, (a3, PySem.W.listOf (v3' ++ [Value.int b tb]).toArray (k3' + 1)) :: (a1, PySem.W.listOf (Value.int a ta :: vs1).toArray k1') :: (D, PySem.W.listOf vs2.toArray 0) :: news, rfl, FF, ?_, (ns1.length + 1) + ns2.length, ?_, a1, D, Value.int a ta :: vs1, vs2, v3' ++ [Value.int b tb], k1', 0, k3' + 1, a :: ns1, ns2, acc ++ [b], by simp, rfl, rfl, rfl, rfl, rfl, rfl, n1, ?_, .cons _ _ j1, j2, ints_snoc j3 b tb, s1, s2', ?_, ?_⟩
          · exact news_sub NN (by (repeat refine sub_cons (by first | k_mem | simp) ?_); (first | exact sub_nil | exact fun q h9 => by k_mem))
          · rw [hn0]; simp
          · omega
          · rw [← hacc, List.append_assoc, mergeL_two _ _ _ (by assumption)]; rfl
          · simp only [List.length_append, List.length_cons, List.length_nil] at hlen ⊢; omega
        · rename_i D hO lD hh FF NN
          (try k_unfold)
          refine Hold.mk ⟨hh, _, _, (a3, PySem.W.listOf (v3' ++ [Value.int a ta]).toArray (k3' + 1)) :: (D, PySem.W.listOf vs1.toArray 0) :: (a2, PySem.W.listOf (Value.int b tb :: vs2).toArray k2') :: news, rfl, FF, ?_, ns1.length + (ns2.length + 1), ?_, D, a2, vs1, Value.int b tb :: vs2, v3' ++ [Value.int a ta], 0, k2', k3' + 1, ns1, b :: ns2, acc ++ [a], by simp, rfl, rfl, rfl, rfl, rfl, rfl, ?_, n2, j1, .cons _ _ j2, ints_snoc j3 a ta, s1', s2, ?_, ?_⟩
          · exact news_sub NN (by (repeat refine sub_cons (by first | k_mem | simp) ?_); (first | exact sub_nil | exact fun q h9 => by k_mem))
          · rw [hn0]; simp
          · omega
          · rw [← hacc, List.append_assoc, mergeL_one _ _ _ (by assumption)]; rfl
          · simp only [List.length_append, List.length_cons, List.length_nil] at hlen ⊢; omega
end
theorem wde_G6 : True := by
  k_with_none
  trivial
end
section
open PySem PySem.W PyProof.Rows PyProof.Rows.LCg
def Lt0 (d : Nat) (news : Led) : Prop := ∀ p ∈ news, p.1 < d
theorem all_ne {news : Led} {d e : Nat} (h : Lt0 d news) (hde : d ≤ e) : ∀ p ∈ news, p.1 ≠ e := fun p hp => Nat.ne_of_lt (Nat.lt_of_lt_of_le (h p hp) hde)
theorem off1_mem {D : Addr} {l : Led} (h : Off1 D l) : ∀ p ∈ l, p.1 ≠ D := by
  induction l with
  | nil => intro p hp; cases hp
  | cons q r ih =>
    intro p hp
    rcases List.mem_cons.mp hp with e | hp
    · rw [e]; exact h.1
    · exact ih h.2 p hp
/-- the two doublings of _law_places, by fuel -/
def dblF (b size : Int) : Nat → Int → Int
  | 0, f => f
  | k + 1, f => if size ≤ f then dblF b size k (2 * (f - size) + b) else f
theorem dbl_fin : ∀ b : Fin 2, ∀ s : Fin 12, ∀ f : Fin 24, 5 ≤ s.val → f.val + b.val < 2 * s.val → s.val ≤ f.val → dblF b.val s.val 8 f.val = dblF b.val s.val 8 (2 * ((f.val : Int) - s.val) + b.val) := by decide +kernel
theorem dbl_step {b size f : Int} (hb : b = 0 ∨ b = 1) (h5 : 5 ≤ size) (h11 : size ≤ 11) (h0 : 0 ≤ f) (h2 : f + b < 2 * size) (h : size ≤ f) : dblF b size 8 f = dblF b size 8 (2 * (f - size) + b) := by
  (try k_fold)
  obtain ⟨s', rfl⟩ : ∃ s' : Nat, size = s' := ⟨size.toNat, by omega⟩
  (try k_fold)
  obtain ⟨f', rfl⟩ : ∃ f' : Nat, f = f' := ⟨f.toNat, by omega⟩
  rcases hb with rfl | rfl
  · exact dbl_fin ⟨0, by omega⟩ ⟨s', by omega⟩ ⟨f', by omega⟩ (by show 5 ≤ s'; omega) (by show f' + 0 < 2 * s'; omega) (by show s' ≤ f'; omega)
  · exact dbl_fin ⟨1, by omega⟩ ⟨s', by omega⟩ ⟨f', by omega⟩ (by show 5 ≤ s'; omega) (by show f' + 1 < 2 * s'; omega) (by show s' ≤ f'; omega)
theorem dbl_end {b size f : Int} (h : ¬ size ≤ f) : dblF b size 8 f = f := by show (if size ≤ f then _ else f) = f; rw [if_neg h]
def placesL (size j : Int) : List Int := (List.range ((dblF 1 size 8 j - dblF 0 size 8 j).fmod size + 1).toNat).map fun (i : Nat) => (dblF 0 size 8 j + (i : Int)).fmod size
section
local macro_rules | `(tactic| k_all) => `(tactic| exact all_ne (by assumption) (by omega))
theorem wds_G7a : True := by
  k_with_none
  (k_with "exec While Compare cons nil" => (k_here; (try k_fold); refine Hold.out ?_))
  (k_with "eval ListComp" => (k_here; k_dflt (refine comp_hold (F₀ := by k_asm) (by with_unfolding_all rfl) (by decide) (by rfl) (by decide) (by rfl) ?_)))
  trivial
inductive PlJ1 (L' : Addr) (oS : Obj) (j size : Int) (t1 : Tok) (news : Led) (n : Nat) (m' : Str → Option Value) (nw : Led) : Prop
  | mk (o1' : Obj) (f : Int) (t : Tok) (e : nw = (L' + 1 + 1, o1') :: (L' + 1, oS) :: news) (d : o1'.data = .cell (some (.int f t))) (mj : m' (Str.ofString "j") = some (.int j t1)) (hn : n = f.toNat) (h0 : 0 ≤ f) (h2 : f < 2 * size) (h : dblF 0 size 8 f = dblF 0 size 8 j)
inductive PlJ2 (j size : Int) (nw0 : Led) (n : Nat) (m' : Str → Option Value) (nw : Led) : Prop
  | mk (l : Int) (t : Tok) (e : nw = nw0) (ml : m' (Str.ofString "last") = some (.int l t)) (hn : n = l.toNat) (h0 : 0 ≤ l) (h2 : l < 2 * size - 1) (h : dblF 1 size 8 l = dblF 1 size 8 j)
theorem places_c (w : World) (j size : Int) (t1 t2 : Tok) (h5 : 5 ≤ size) (h11 : size ≤ 11) (hj : 0 ≤ j) (hj2 : j < 2 * size - 1) :
    Sp w 6 (.ref 179) [.int j t1, .int size t2] (fun _ => True) (fun news r news' => ∃ lr vs k, r = .ref lr ∧ news' = (lr, PySem.W.listOf vs.toArray k) :: news ∧ IntsAre vs (placesL size j) ∧ (∀ p ∈ news, p.1 ≠ lr)) := by
  intro p loose mean mg mb dp un gd cn cs a ccd cl outer A₀ base h₀ L m news s Q E B F X N T c1 c2 hk hdp hu pre hret
  revert X; k_fill; intro X
  refine wpAny_call ?_
  k_dflt (refine' code_defC ?k1 ?k2 ?k3 ?k4 ?k5 ?kA ?kF ?kK ?k6 ?k7 ?k8 ?k9 ?kB ?kD ?_ ?c2 ?c3 ?c4; (case kA => exact rfl); (case kF => exact rfl); (case kK => assumption); (case k1 => k_asm); (case k2 => k_asm); (case k3 => k_asm); (case k4 => k_asm); (case k5 => k_asm); (case k6 => k_is); (case k7 => k_is); (case k8 => ktr_room); (case k9 => exact BindsTo.of_eq rfl); (case kB => exact rfl); (case kD => decide +kernel); (case c2 => exact rfl); (case c3 => exact rfl); (case c4 => exact rfl); k_whole; intro g' L' h' tk' cells' FG' F' N' Y' B' X' T' l1; (try k_lt l1); k_cells Y'; (try simp only [List.cons_append, List.nil_append] at N'); (try dsimp only); (try k_fold))
  have hb0 : Lt0 L' news := l1
  k_steps
  rename_i oS dO dS hX oF F1 N1 d1
  refine Hold.mk (while_led (PlJ1 L' oS j size t1 news) j.toNat F1 N1 ⟨oF, j, t1, rfl, d1, rfl, rfl, hj, by omega, rfl⟩ ?_)
  intro n m' nw h tk E' pz1 F4 N4
  (try k_fold)
  obtain ⟨o1', f, t, rfl, d1', mj, hn1, hf0, hf2, hff⟩ := pz1
  have F5 := canon F4 mj
  clear N1 F1 d1 F4
  k_steps
  · rename_i hge hY oN FF NN dN
    (try k_unfold)
    refine Hold.mk ⟨_, _, _, _, rfl, FF, NN, (2 * (f - size)).toNat, by omega, oN, 2 * (f - size), _, rfl, dN, rfl, rfl, by omega, by omega, ?_⟩
    rw [← hff, dbl_step (b := 0) (.inl rfl) h5 h11 hf0 (by omega) hge, Int.add_zero]
  · rename_i hlt
    (try k_unfold)
    refine Hold.mk ?_
    have ef : dblF 0 size 8 j = f := by rw [← hff, dbl_end hlt]
    (try k_unfold)
    (try dsimp only)
    k_steps
    rename_i hY FF NN
    refine Hold.mk (while_led (PlJ2 j size ((L' + 1 + 1, o1') :: (L' + 1, oS) :: news)) j.toNat FF NN ⟨j, t1, rfl, rfl, rfl, hj, hj2, rfl⟩ ?_)
    intro n m'' nw h tk E' pz2 F6 N6
    (try k_fold)
    obtain ⟨l, t', rfl, ml, hn2, hl0, hl2, hll⟩ := pz2
    have F7 := canon F6 ml
    clear FF NN F6
    k_steps
    · rename_i hge hZ FF NN
      (try k_unfold)
      refine Hold.mk ⟨_, _, _, _, rfl, FF, NN, (2 * (l - size) + 1).toNat, by omega, 2 * (l - size) + 1, _, rfl, rfl, rfl, by omega, by omega, ?_⟩
      rw [← hll, dbl_step (b := 1) (.inr rfl) h5 h11 hl0 (by omega) hge]
    · rename_i hlt'
      (try k_unfold)
      refine Hold.mk ?_
      have el : dblF 1 size 8 j = l := by rw [← hll, dbl_end hlt']
      have hfm := fmod_lo (l - f) (n := size) (by omega)
      have hfm' := fmod_hi (l - f) (n := size) (by omega)
      (try k_unfold)
      (try dsimp only)
      k_steps
      rename_i hR FF NN hkk
      (try k_unfold)
      refine Hold.mk (CompSrc.range (n := ((l - f).fmod size + 1).toNat) rfl FF NN hR (small_one (by omega) (by omega) (by omega) (by omega)) (by rw [rangeSize_nat]; simp) (by simp only [sizeLine]; omega) fun gg => rest_same (fun i ys => IntsAre ys ((List.range i).map fun (i : Nat) => (f + (i : Int)).fmod size)) ?_ ?_ .nil)
      · intro i ys hi hys v I oI C oC D m₂ h tk E' pz4 hN hm F2 N2 o3 ne
        (try k_fold)
        obtain ⟨ti, rfl⟩ := pz4
        have hsz0 : size ≠ 0 := by omega
        k_steps
        (try k_unfold)
        refine Hold.mk (CompEnd.intro (by assumption) (by assumption) _ (fun _ h => h) o3 trivial ⟨rfl, ?_⟩)
        rw [List.range_succ, List.map_append, Int.zero_add]
        exact ints_snoc hys _ _
      · rintro ys hys D h tk F3 N3 o1
        (try k_unfold)
        (try dsimp only)
        k_steps
        rename_i kN _ _
        have e : placesL size j = (List.range ((l - f).fmod size + 1).toNat).map fun (i : Nat) => (f + (i : Int)).fmod size := by rw [placesL, ef, el]
        rw [← e] at hys
        (try k_unfold)
        exact hret _ _ _ _ (by assumption) (fun q hq => kN q (by
          rcases List.mem_cons.mp hq with rfl | hq
          · exact List.mem_cons_self
          · exact List.mem_cons_of_mem _ (List.mem_cons_of_mem _ (List.mem_cons_of_mem _ hq)))) ⟨_, _, _, rfl, rfl, hys, fun q hq => off1_mem o1 q (List.mem_cons_of_mem _ (List.mem_cons_of_mem _ hq))⟩
end
theorem wde_G7 : True := by
  k_with_none
  trivial
end
section
/-- the place an entry had at first -/
def R (ρ : Keyed → Nat) (xs : Array Keyed) (i : Nat) : Nat := match xs[i]? with
  | some p => ρ p
  | none => 0
section
variable {ρ : Keyed → Nat}
theorem R_congr {xs ys : Array Keyed} {i j : Nat} (h : xs[i]? = ys[j]?) : R ρ xs i = R ρ ys j := by unfold R; rw [h]
theorem R_bubble {xs : Array Keyed} {src d : Nat} (hs : src < xs.size) (hd : d ≤ src) (k : Nat) :
    R ρ (bubble xs src d) k = if k = src - d then R ρ xs src else if src - d < k ∧ k ≤ src then R ρ xs (k - 1) else R ρ xs k := by
  have e := getElem?_bubble hs d hd k
  by_cases h1 : k = src - d
  · rw [if_pos h1] at e ⊢; exact R_congr e
  · rw [if_neg h1] at e ⊢
    by_cases h2 : src - d < k ∧ k ≤ src
    · rw [if_pos h2] at e ⊢; exact R_congr e
    · rw [if_neg h2] at e ⊢; exact R_congr e
theorem R_mirror {xs : Array Keyed} {i j : Nat} (hj : j ≤ xs.size) (k : Nat) :
    R ρ (mirror xs i j ((j - i) / 2)) k = if i ≤ k ∧ k < j then R ρ xs (i + j - 1 - k) else R ρ xs k := by
  have e := getElem?_mirror_all (i := i) hj k
  by_cases h1 : i ≤ k ∧ k < j
  · rw [if_pos h1] at e ⊢; exact R_congr e
  · rw [if_neg h1] at e ⊢; exact R_congr e
end
/-- up to k the array rises, like keys by their first places; all before k were before k at first, the rest is where it was -/
structure Up (ρ : Keyed → Nat) (xs : Array Keyed) (k : Nat) : Prop where
  up : ∀ i j, i < j → j < k → K xs i < K xs j ∨ (K xs i = K xs j ∧ R ρ xs i < R ρ xs j)
  low : ∀ i, i < k → R ρ xs i < k
  rest : ∀ i, k ≤ i → i < xs.size → R ρ xs i = i
structure Dn (ρ : Keyed → Nat) (xs : Array Keyed) (k : Nat) : Prop where
  dn : ∀ i j, i < j → j < k → K xs j < K xs i ∨ (K xs i = K xs j ∧ R ρ xs j < R ρ xs i)
  low : ∀ i, i < k → R ρ xs i < k
  rest : ∀ i, k ≤ i → i < xs.size → R ρ xs i = i
/-- a falling part whose last neq + 1 entries are alike and lie as at first -/
structure Blk (ρ : Keyed → Nat) (xs : Array Keyed) (k neq : Nat) : Prop where
  le : neq + 1 ≤ k
  dn : ∀ i j, i < j → j < k - (neq + 1) → K xs j < K xs i ∨ (K xs i = K xs j ∧ R ρ xs j < R ρ xs i)
  over : ∀ i j, i < k - (neq + 1) → k - (neq + 1) ≤ j → j < k → K xs j < K xs i
  like : ∀ i, k - (neq + 1) ≤ i → i < k → K xs i = K xs (k - 1) ∧ R ρ xs i = i
  low : ∀ i, i < k → R ρ xs i < k
  rest : ∀ i, k ≤ i → i < xs.size → R ρ xs i = i
section
variable {ρ : Keyed → Nat} {xs : Array Keyed}
theorem Up.le {k : Nat} (h : Up ρ xs k) {i j : Nat} (hij : i ≤ j) (hj : j < k) : K xs i ≤ K xs j := by
  by_cases e : i = j
  · subst e; exact Int.le_refl _
  · rcases h.up i j (by omega) hj with q | q
    · omega
    · omega
theorem Up.succ {x : Nat} (h : Up ρ xs x) (h1 : 1 ≤ x) (hx : x < xs.size) (hk : K xs (x - 1) ≤ K xs x) : Up ρ xs (x + 1) := by
  have hr := h.rest x (Nat.le_refl _) hx
  refine ⟨fun i j hij hj => ?_, fun i hi => ?_, fun i hi hs => h.rest i (by omega) hs⟩
  · by_cases hjx : j < x
    · exact h.up i j hij hjx
    · have : j = x := by omega
      subst this
      have a1 := h.le (i := i) (j := j - 1) (by omega) (by omega)
      have a2 := h.low i hij
      by_cases e : K xs i = K xs j
      · exact .inr ⟨e, by omega⟩
      · exact .inl (by omega)
  · by_cases e : i < x
    · have := h.low i e; omega
    · have : i = x := by omega
      subst this; omega
theorem Dn.up {k : Nat} (h : Dn ρ xs k) (hk : k ≤ xs.size) : Up ρ (mirror xs 0 k ((k - 0) / 2)) k := by
  refine ⟨fun i j hij hj => ?_, fun i hi => ?_, fun i hi hs => ?_⟩
  · rw [K_mirror hk, K_mirror hk, R_mirror hk, R_mirror hk, if_pos (by omega), if_pos (by omega), if_pos (by omega), if_pos (by omega)]
    rcases h.dn (0 + k - 1 - j) (0 + k - 1 - i) (by omega) (by omega) with q | q
    · exact .inl q
    · exact .inr ⟨q.1.symm, q.2⟩
  · rw [R_mirror hk, if_pos (by omega)]; exact h.low _ (by omega)
  · rw [mirror_size] at hs
    rw [R_mirror hk, if_neg (by omega)]; exact h.rest i hi hs
theorem Blk.flip {k neq : Nat} (h : Blk ρ xs k neq) (hk : k ≤ xs.size) : Dn ρ (mirror xs (k - (neq + 1)) k ((k - (k - (neq + 1))) / 2)) k := by
  have hle := h.le
  refine ⟨fun i j hij hj => ?_, fun i hi => ?_, fun i hi hs => ?_⟩
  · rw [K_mirror hk, K_mirror hk, R_mirror hk, R_mirror hk]
    by_cases hi : k - (neq + 1) ≤ i
    · rw [if_pos (by omega), if_pos (by omega), if_pos (by omega), if_pos (by omega)]
      have a1 := h.like (k - (neq + 1) + k - 1 - i) (by omega) (by omega)
      have a2 := h.like (k - (neq + 1) + k - 1 - j) (by omega) (by omega)
      exact .inr ⟨by rw [a1.1, a2.1], by rw [a1.2, a2.2]; omega⟩
    · rw [if_neg (by omega : ¬ (k - (neq + 1) ≤ i ∧ i < k)), if_neg (by omega : ¬ (k - (neq + 1) ≤ i ∧ i < k))]
      by_cases hj' : k - (neq + 1) ≤ j
      · rw [if_pos (by omega)]
        exact .inl (h.over i _ (by omega) (by omega) (by omega))
      · rw [if_neg (by omega), if_neg (by omega)]
        exact h.dn i j hij (by omega)
  · rw [R_mirror hk]
    split
    · exact h.low _ (by omega)
    · exact h.low i hi
  · rw [mirror_size] at hs
    rw [R_mirror hk, if_neg (by omega)]; exact h.rest i hi hs
theorem Blk.one {k : Nat} (h : Blk ρ xs k 0) : Dn ρ xs k := by
  have hle := h.le
  refine ⟨fun i j hij hj => ?_, h.low, h.rest⟩
  by_cases e : j < k - (0 + 1)
  · exact h.dn i j hij e
  · exact .inl (h.over i j (by omega) (by omega) hj)
theorem Dn.blk {x : Nat} (h : Dn ρ xs x) (h1 : 1 ≤ x) (hx : x < xs.size) (hk : K xs x < K xs (x - 1)) : Blk ρ xs (x + 1) 0 := by
  have hr := h.rest x (Nat.le_refl _) hx
  have hle : ∀ i, i < x → K xs (x - 1) ≤ K xs i := fun i hi => by
    by_cases e : i = x - 1
    · subst e; exact Int.le_refl _
    · rcases h.dn i (x - 1) (by omega) (by omega) with q | q <;> omega
  refine ⟨by omega, fun i j hij hj => h.dn i j hij (by omega), fun i j hi hj1 hj2 => ?_, fun i hi1 hi2 => ?_, fun i hi => ?_, fun i hi hs => h.rest i (by omega) hs⟩
  · have : j = x := by omega
    subst this
    have := hle i (by omega)
    omega
  · have : i = x := by omega
    subst this
    exact ⟨by congr 1, hr⟩
  · by_cases e : i < x
    · have := h.low i e; omega
    · have : i = x := by omega
      subst this; omega
theorem Blk.more {x neq : Nat} (h : Blk ρ xs x neq) (hx : x < xs.size) (hk : K xs x = K xs (x - 1)) : Blk ρ xs (x + 1) (neq + 1) := by
  have hle := h.le
  have hr := h.rest x (Nat.le_refl _) hx
  have e1 : x + 1 - (neq + 1 + 1) = x - (neq + 1) := by omega
  refine ⟨by omega, fun i j hij hj => h.dn i j hij (by omega), fun i j hi hj1 hj2 => ?_, fun i hi1 hi2 => ?_, fun i hi => ?_, fun i hi hs => h.rest i (by omega) hs⟩
  · by_cases e : j < x
    · exact h.over i j (by omega) (by omega) e
    · have : j = x := by omega
      subst this
      rw [hk]; exact h.over i (j - 1) (by omega) (by omega) (by omega)
  · rw [show x + 1 - 1 = x by omega]
    by_cases e : i < x
    · have := h.like i (by omega) e
      exact ⟨by rw [hk]; exact this.1, this.2⟩
    · have : i = x := by omega
      subst this; exact ⟨rfl, hr⟩
  · by_cases e : i < x
    · have := h.low i e; omega
    · have : i = x := by omega
      subst this; omega
theorem Up.ins {k l : Nat} (h : Up ρ xs k) (hk : k < xs.size) (hl : l ≤ k) (lo : ∀ i, i < l → K xs i ≤ K xs k) (hi : ∀ i, l ≤ i → i < k → K xs k < K xs i) : Up ρ (bubble xs k (k - l)) (k + 1) := by
  have hr := h.rest k (Nat.le_refl _) hk
  have e0 : k - (k - l) = l := by omega
  have KB : ∀ i, K (bubble xs k (k - l)) i = if i = l then K xs k else if l < i ∧ i ≤ k then K xs (i - 1) else K xs i := fun i => by rw [K_bubble hk (by omega), e0]
  have RB : ∀ i, R ρ (bubble xs k (k - l)) i = if i = l then R ρ xs k else if l < i ∧ i ≤ k then R ρ xs (i - 1) else R ρ xs i := fun i => by rw [R_bubble hk (by omega), e0]
  refine ⟨fun i j hij hj => ?_, fun i hi' => ?_, fun i hi' hs => ?_⟩
  · rw [KB, KB, RB, RB]
    by_cases i1 : i = l
    · have j0 : ¬ j = l := by omega
      have j3 : l < j ∧ j ≤ k := by omega
      rw [if_pos i1, if_pos i1, if_neg j0, if_neg j0, if_pos j3, if_pos j3]
      exact .inl (hi (j - 1) (by omega) (by omega))
    · rw [if_neg i1, if_neg i1]
      by_cases j1 : j = l
      · have i3 : ¬ (l < i ∧ i ≤ k) := by omega
        rw [if_pos j1, if_pos j1, if_neg i3, if_neg i3]
        have a1 := lo i (by omega)
        have a2 := h.low i (by omega)
        by_cases e : K xs i = K xs k
        · exact .inr ⟨e, by omega⟩
        · exact .inl (by omega)
      · rw [if_neg j1, if_neg j1]
        by_cases i2 : l < i ∧ i ≤ k
        · have j3 : l < j ∧ j ≤ k := by omega
          rw [if_pos i2, if_pos i2, if_pos j3, if_pos j3]
          exact h.up (i - 1) (j - 1) (by omega) (by omega)
        · rw [if_neg i2, if_neg i2]
          by_cases j2 : l < j ∧ j ≤ k
          · rw [if_pos j2, if_pos j2]
            exact h.up i (j - 1) (by omega) (by omega)
          · rw [if_neg j2, if_neg j2]
            exact h.up i j hij (by omega)
  · rw [RB]
    split
    · omega
    · split
      · have := h.low (i - 1) (by omega); omega
      · have := h.low i (by omega); omega
  · rw [bubble_size] at hs
    rw [RB, if_neg (by omega), if_neg (by omega)]; exact h.rest i (by omega) hs
end
section
variable {prog : Program} {w : World} {A : Around} {E : Value → Shared → Prop} {s : Shared} {a₀ : Array Keyed} {ρ : Keyed → Nat}
theorem wpS_ascS {st : SortSt} {a nrem : Nat} {Q : AscSt → SortSt → Prop} (h0 : IntKeys a₀) (hn : nrem ≤ a₀.size) (ha : 1 ≤ a) (han : a ≤ nrem) (hB : SBase a₀ st) (hs : Up ρ (arrOf st) a)
    (h : ∀ n, a ≤ n → n ≤ nrem → Up ρ (arrOf st) n → (n = nrem ∨ K (arrOf st) n < K (arrOf st) (n - 1)) → Q (none, n) st) : wpS (model prog w) A E s (ascLoop a nrem) Q st := by
  unfold ascLoop
  refine wpS_forRange (I := fun x c st' => st' = st ∧ c = (none, x) ∧ Up ρ (arrOf st) x) ?step ?fin ⟨rfl, rfl, hs⟩
  case fin =>
    rintro c st' ⟨rfl, rfl, hs'⟩
    rw [show max a nrem = nrem by omega] at hs' ⊢
    exact h nrem han (Nat.le_refl _) hs' (.inl rfl)
  case step =>
    rintro x c st' hax hxn ⟨rfl, rfl, hs'⟩
    dsimp only
    refine wpS_bind (wpS_ltK hB h0 (by omega) (by omega) ?_)
    by_cases hless : K (arrOf st') x < K (arrOf st') (x - 1)
    · simp only [hless, decide_true, if_true]
      exact wpS_pure (h x hax (by omega) hs' (.inr hless))
    · simp only [hless, decide_false, Bool.false_eq_true, if_false]
      exact wpS_pure ⟨rfl, rfl, hs'.succ (by omega) (by rw [hB.size]; omega) (Int.not_lt.mp hless)⟩
theorem wpS_tailS {st : SortSt} {n nrem : Nat} {Q : Option Nat → SortSt → Prop} (h0 : IntKeys a₀) (hn : nrem ≤ a₀.size) (h1 : 1 ≤ n) (hnn : n ≤ nrem) (hB : SBase a₀ st) (hs : Dn ρ (arrOf st) n)
    (h : ∀ m st', SBase a₀ st' → 1 ≤ m → m ≤ nrem → Up ρ (arrOf st') m → Q (some m) st') : wpS (model prog w) A E s (tail3 n nrem) Q st := by
  unfold tail3
  refine wpS_bind (wpS_reverse ?_)
  have hB' : SBase a₀ (setArr st (mirror (arrOf st) 0 n ((n - 0) / 2))) := hB.setArr (mirror_perm _ _ _ _)
  exact wpS_bind (wpS_ascS (ρ := ρ) h0 hn h1 hnn hB' (hs.up (by rw [hB.size]; omega)) fun m hm1 hm2 hsm _ => wpS_pure (h m _ hB' (by omega) hm2 hsm))
theorem wpS_descS {st : SortSt} {n nrem : Nat} {Q : DescSt → SortSt → Prop} (h0 : IntKeys a₀) (hn : nrem ≤ a₀.size) (h1 : 1 ≤ n) (hnn : n ≤ nrem) (hB : SBase a₀ st) (hs : Blk ρ (arrOf st) n 0)
    (h : ∀ m neq st', SBase a₀ st' → n ≤ m → m ≤ nrem → Blk ρ (arrOf st') m neq → Q (none, m, neq) st') : wpS (model prog w) A E s (descLoop n nrem) Q st := by
  unfold descLoop
  refine wpS_forRange (I := fun x c st' => ∃ neq, c = (none, x, neq) ∧ SBase a₀ st' ∧ Blk ρ (arrOf st') x neq) ?step ?fin ⟨0, rfl, hB, hs⟩
  case fin =>
    rintro c st' ⟨neq, rfl, hB', hs'⟩
    rw [show max n nrem = nrem by omega] at hs' ⊢
    exact h nrem neq st' hB' hnn (Nat.le_refl _) hs'
  case step =>
    rintro x c st' hax hxn ⟨neq, rfl, hB', hs'⟩
    dsimp only
    have hsz : x < (arrOf st').size := by rw [hB'.size]; omega
    refine wpS_bind (wpS_ltK hB' h0 (by omega) (by omega) ?_)
    by_cases hless : K (arrOf st') x < K (arrOf st') (x - 1)
    · simp only [hless, decide_true, if_true]
      by_cases hneq : neq > 0
      · rw [if_pos hneq]
        refine wpS_bind (wpS_reverse (wpS_pure ⟨0, rfl, hB'.setArr (mirror_perm _ _ _ _), ?_⟩))
        have hle := hs'.le
        have hd := hs'.flip (by omega)
        refine Dn.blk hd (by omega) (by rw [mirror_size]; exact hsz) ?_
        rw [K_mirror (by omega), K_mirror (by omega), if_neg (by omega), if_pos (by omega)]
        have e := (hs'.like (x - (neq + 1) + x - 1 - (x - 1)) (by omega) (by omega)).1
        rw [e]; exact hless
      · rw [if_neg hneq]
        have : neq = 0 := by omega
        subst this
        exact wpS_pure ⟨0, rfl, hB', hs'.one.blk (by omega) hsz hless⟩
    · simp only [hless, decide_false, Bool.false_eq_true, if_false]
      refine wpS_bind (wpS_ltK hB' h0 (by omega) (by omega) ?_)
      by_cases hlarger : K (arrOf st') (x - 1) < K (arrOf st') x
      · simp only [hlarger, decide_true, if_true]
        exact wpS_pure (h x neq st' hB' hax (by omega) hs')
      · simp only [hlarger, decide_false, Bool.false_eq_true, if_false]
        exact wpS_pure ⟨neq + 1, rfl, hB', hs'.more hsz (by omega)⟩
theorem wpS_descPS {st : SortSt} {n nrem : Nat} {Q : Option Nat → SortSt → Prop} (h0 : IntKeys a₀) (hn : nrem ≤ a₀.size) (hnn : n + 1 ≤ nrem) (hB : SBase a₀ st) (hs : Blk ρ (arrOf st) (n + 1) 0)
    (h : ∀ m st', SBase a₀ st' → 1 ≤ m → m ≤ nrem → Up ρ (arrOf st') m → Q (some m) st') : wpS (model prog w) A E s (descPart n nrem) Q st := by
  unfold descPart
  refine wpS_bind (wpS_lift (wpAny_rule ⟨rfl, ?_⟩))
  refine wpS_bind (wpS_descS (ρ := ρ) h0 hn (by omega) hnn hB hs fun m neq st' hB' hm1 hm2 hs' => ?_)
  dsimp only
  have hsz : m ≤ (arrOf st').size := by rw [hB'.size]; omega
  by_cases hneq : neq > 0
  · rw [if_pos hneq]
    exact wpS_bind (wpS_reverse (wpS_tailS (ρ := ρ) h0 hn (by omega) hm2 (hB'.setArr (mirror_perm _ _ _ _)) (hs'.flip hsz) h))
  · rw [if_neg hneq]
    have : neq = 0 := by omega
    subst this
    exact wpS_tailS (ρ := ρ) h0 hn (by omega) hm2 hB' hs'.one h
theorem wpS_countS {st : SortSt} {nrem : Nat} {Q : Option Nat → SortSt → Prop} (h0 : IntKeys a₀) (hn : nrem ≤ a₀.size) (h1 : 1 ≤ nrem) (hB : SBase a₀ st) (hr : ∀ i, i < (arrOf st).size → R ρ (arrOf st) i = i)
    (h : ∀ m st', SBase a₀ st' → 1 ≤ m → m ≤ nrem → Up ρ (arrOf st') m → Q (some m) st') : wpS (model prog w) A E s (countRun' 0 nrem) Q st := by
  rw [countRun0_eq]
  have hsz0 := hB.size
  have up1 : Up ρ (arrOf st) 1 := ⟨fun i j hij hj => by omega, fun i hi => by rw [hr i (by omega)]; omega, fun i hi hs => hr i hs⟩
  refine wpS_bind (wpS_ascS (ρ := ρ) h0 hn (Nat.le_refl 1) h1 hB up1 fun n hn1 hn2 hsn hor => ?_)
  dsimp only
  by_cases hnn : n = nrem
  · rw [if_pos (by simpa using hnn)]
    exact wpS_pure (h n st hB hn1 hn2 hsn)
  · rw [if_neg (by simpa using hnn)]
    have hlt : K (arrOf st) n < K (arrOf st) (n - 1) := hor.resolve_left hnn
    by_cases hgt : n > 1
    · rw [if_pos hgt]
      refine wpS_bind (wpS_ltK hB h0 (by omega) (by omega) ?_)
      by_cases hrose : K (arrOf st) 0 < K (arrOf st) (n - 1)
      · simp only [hrose, decide_true, if_true]
        exact wpS_pure (h n st hB hn1 hn2 hsn)
      · simp only [hrose, decide_false, Bool.false_eq_true, if_false]
        have hsz : n ≤ (arrOf st).size := by omega
        have hall : ∀ k, k < n → K (arrOf st) k = K (arrOf st) (n - 1) := by
          intro k hk
          have a1 := hsn.le (i := 0) (j := k) (by omega) hk
          have a2 := hsn.le (i := k) (j := n - 1) (by omega) (by omega)
          omega
        refine wpS_bind (wpS_reverse (wpS_descPS (ρ := ρ) h0 hn (by omega) (hB.setArr (mirror_perm _ _ _ _)) ?_ h))
        have hd : Dn ρ (mirror (arrOf st) 0 n ((n - 0) / 2)) n := by
          refine ⟨fun i j hij hj => ?_, fun i hi => ?_, fun i hi hs => ?_⟩
          · rw [K_mirror hsz, K_mirror hsz, R_mirror hsz, R_mirror hsz, if_pos (by omega), if_pos (by omega), if_pos (by omega), if_pos (by omega)]
            exact .inr ⟨(hall _ (by omega)).trans (hall _ (by omega)).symm, by rw [hr (0 + n - 1 - j) (by omega), hr (0 + n - 1 - i) (by omega)]; omega⟩
          · rw [R_mirror hsz, if_pos (by omega), hr _ (by omega)]; omega
          · rw [mirror_size] at hs
            rw [R_mirror hsz, if_neg (by omega)]; exact hr i hs
        refine hd.blk (by omega) (by rw [mirror_size]; omega) ?_
        have e1 : K (arrOf st) (0 + n - 1 - (n - 1)) = K (arrOf st) (n - 1) := hall _ (by omega)
        rw [K_mirror hsz, K_mirror hsz, if_neg (by omega), if_pos (by omega), e1]
        exact hlt
    · rw [if_neg hgt]
      have hn1' : n = 1 := by omega
      subst hn1'
      have hd : Dn ρ (arrOf st) 1 := ⟨fun i j hij hj => by omega, fun i hi => by rw [hr i (by omega)]; omega, fun i hi hs => hr i hs⟩
      exact wpS_descPS (ρ := ρ) h0 hn (by omega) hB (hd.blk (Nat.le_refl _) (by omega) hlt) h
theorem wpS_binS {st : SortSt} {n ok : Nat} {Q : Bool → SortSt → Prop} (h0 : IntKeys a₀) (hn : n ≤ a₀.size) (h1 : 1 ≤ ok) (hok : ok ≤ n) (hB : SBase a₀ st) (hs : Up ρ (arrOf st) ok)
    (h : ∀ st', SBase a₀ st' → Up ρ (arrOf st') n → Q true st') : wpS (model prog w) A E s (binarySort' 0 n ok) Q st := by
  rw [binarySort'_eq]
  simp only [Nat.zero_add]
  have hm : max ok 1 = ok := by omega
  rw [hm]
  refine wpS_bind (wpS_mono (wpS_forRange (I := fun k c st' => c = (none, ()) ∧ SBase a₀ st' ∧ Up ρ (arrOf st') k) (Q := fun c st' => c = (none, ()) ∧ SBase a₀ st' ∧ Up ρ (arrOf st') n) ?step ?fin ⟨rfl, hB, hs⟩) ?post)
  case post =>
    rintro c st' ⟨rfl, hB', hs'⟩
    exact wpS_pure (h st' hB' hs')
  case fin =>
    rintro c st' ⟨hc, hB', hs'⟩
    rw [show max ok n = n by omega] at hs'
    exact ⟨hc, hB', hs'⟩
  case step =>
    rintro k c st' hak hkn ⟨rfl, hB', hs'⟩
    have hk : k < a₀.size := by omega
    refine wpS_bind (wpS_mono (wpS_forRange (I := fun x c st'' => st'' = st' ∧ ∃ l r, c = (none, l, r) ∧ l ≤ r ∧ r ≤ k ∧ r - l ≤ k - x ∧
        (∀ i, i < l → K (arrOf st') i ≤ K (arrOf st') k) ∧ (∀ i, r ≤ i → i < k → K (arrOf st') k < K (arrOf st') i))
      (Q := fun c st'' => st'' = st' ∧ ∃ l r, c = (none, l, r) ∧ l ≤ k ∧
        (∀ i, i < l → K (arrOf st') i ≤ K (arrOf st') k) ∧ (∀ i, l ≤ i → i < k → K (arrOf st') k < K (arrOf st') i)) ?istep ?ifin ?iinit) ?ipost)
    case iinit => exact ⟨rfl, 0, k, rfl, by omega, by omega, by omega, fun i hi => by omega, fun i h1 h2 => by omega⟩
    case ifin =>
      rintro c st'' ⟨rfl, l, r, rfl, hlr, hrk, hm, hlo, hhi⟩
      have : l = r := by omega
      subst this
      exact ⟨rfl, l, l, rfl, hrk, hlo, hhi⟩
    case istep =>
      rintro x c st'' _ hxk ⟨rfl, l, r, rfl, hlr, hrk, hm, hlo, hhi⟩
      dsimp only
      by_cases hge : l ≥ r
      · rw [if_pos hge]
        have : l = r := by omega
        subst this
        exact wpS_pure ⟨rfl, l, l, rfl, hrk, hlo, hhi⟩
      · rw [if_neg hge]
        refine wpS_bind (wpS_ltK hB' h0 hk (by omega) ?_)
        by_cases hless : K (arrOf st'') k < K (arrOf st'') ((l + r) / 2)
        · simp only [hless, decide_true, if_true]
          refine wpS_pure ⟨rfl, l, (l + r) / 2, rfl, by omega, by omega, by omega, hlo, fun i h1 h2 => ?_⟩
          exact Int.lt_of_lt_of_le hless (hs'.le h1 h2)
        · simp only [hless, decide_false, Bool.false_eq_true, if_false]
          refine wpS_pure ⟨rfl, (l + r) / 2 + 1, r, rfl, by omega, by omega, by omega, fun i h1 => ?_, hhi⟩
          exact Int.le_trans (hs'.le (i := i) (j := (l + r) / 2) (by omega) (by omega)) (Int.not_lt.mp hless)
    case ipost =>
      rintro c st'' ⟨rfl, l, r, rfl, hlk, hlo, hhi⟩
      show wpS _ _ _ _ (do moveDown' k l; pure (ForInStep.yield (none, ()))) _ _
      rw [moveDown'_eq]
      exact wpS_bind (wpS_modify (wpS_pure ⟨rfl, hB'.setArr (bubble_perm _ _ _), hs'.ins (by rw [hB'.size]; exact hk) hlk hlo hhi⟩))
theorem wpS_sortS {st : SortSt} {Q : Unit → SortSt → Prop} (h0 : IntKeys a₀) (hB : SBase a₀ st) (hr : ∀ i, i < (arrOf st).size → R ρ (arrOf st) i = i) (h2 : 2 ≤ a₀.size) (h64 : a₀.size < 64)
    (h : ∀ st', (arrOf st').Perm a₀ → failedOf st' = none → Up ρ (arrOf st') a₀.size → Q () st') : wpS (model prog w) A E s sortRuns' Q st := by
  rw [sortRuns'_eq]
  refine wpS_bind (wpS_get ?_)
  dsimp only
  have hmr : minRun' a₀.size a₀.size 0 = a₀.size := by
    obtain ⟨f, hf⟩ : ∃ f, a₀.size = f + 1 := ⟨a₀.size - 1, by omega⟩
    have : minRun' (f + 1) a₀.size 0 = a₀.size := by rw [minRun'_succ, if_pos h64]; rfl
    rwa [← hf] at this
  simp only [hB.size, hmr]
  refine wpS_bind (wpS_mono (wpS_forRange
    (I := fun x c st' => (x = 0 ∧ c = (none, 0) ∧ st' = st) ∨ (1 ≤ x ∧ c = (none, a₀.size) ∧ (arrOf st').Perm a₀ ∧ failedOf st' = none ∧ pendingOf st' = #[(0, a₀.size, 0)] ∧ Up ρ (arrOf st') a₀.size))
    (Q := fun c st' => c = (none, a₀.size) ∧ (arrOf st').Perm a₀ ∧ failedOf st' = none ∧ pendingOf st' = #[(0, a₀.size, 0)] ∧ Up ρ (arrOf st') a₀.size) ?step ?fin (.inl ⟨rfl, rfl, rfl⟩)) ?post)
  case fin =>
    rintro c st' (⟨hx, _, _⟩ | ⟨_, hc, hD⟩)
    · omega
    · exact ⟨hc, hD⟩
  case step =>
    rintro x c st' _ hx (⟨rfl, rfl, rfl⟩ | ⟨hx1, rfl, hD⟩)
    · dsimp only
      rw [if_neg (by omega)]
      simp only [Nat.sub_zero, Nat.min_self, Nat.zero_add]
      refine wpS_bind (wpS_countS (ρ := ρ) h0 (Nat.le_refl _) (by omega) hB hr fun m st2 hB2 hm1 hm2 hs2 => ?_)
      dsimp only
      have fin : ∀ st3, SBase a₀ st3 → Up ρ (arrOf st3) a₀.size → ((arrOf (setPending st3 ((pendingOf st3).push (0, a₀.size, 0)))).Perm a₀ ∧ failedOf (setPending st3 ((pendingOf st3).push (0, a₀.size, 0))) = none ∧ pendingOf (setPending st3 ((pendingOf st3).push (0, a₀.size, 0))) = #[(0, a₀.size, 0)] ∧ Up ρ (arrOf (setPending st3 ((pendingOf st3).push (0, a₀.size, 0)))) a₀.size) :=
        fun st3 hB3 hs3 => ⟨hB3.perm, hB3.failed, by show (pendingOf st3).push _ = _; rw [hB3.pend]; rfl, hs3⟩
      by_cases hlt : m < a₀.size
      · rw [if_pos hlt]
        refine wpS_bind (wpS_lift (wpAny_rule ⟨rfl, ?_⟩))
        refine wpS_bind (wpS_binS (ρ := ρ) h0 (Nat.le_refl _) hm1 hm2 hB2 hs2 fun st3 hB3 hs3 => ?_)
        simp only [Bool.not_true, Bool.false_eq_true, if_false]
        refine wpS_bind (wpS_get ?_)
        have hb : (pendingOf st3).back? = none := by rw [hB3.pend]; rfl
        rw [hb]
        dsimp only
        exact wpS_bind (wpS_modify (wpS_pure (.inr ⟨by omega, rfl, fin st3 hB3 hs3⟩)))
      · rw [if_neg hlt]
        have hm : m = a₀.size := by omega
        subst hm
        refine wpS_bind (wpS_get ?_)
        have hb : (pendingOf st2).back? = none := by rw [hB2.pend]; rfl
        rw [hb]
        dsimp only
        exact wpS_bind (wpS_modify (wpS_pure (.inr ⟨by omega, rfl, fin st2 hB2 hs2⟩)))
    · dsimp only
      rw [if_pos (Nat.le_refl _)]
      exact wpS_pure ⟨rfl, hD⟩
  case post =>
    rintro c st' ⟨rfl, hD⟩
    dsimp only
    refine wpS_bind (wpS_mono (wpS_forRange (I := fun _ c st'' => st'' = st' ∧ c = (none, ())) (Q := fun c st'' => st'' = st' ∧ c = (none, ())) ?_ (fun _ _ hh => hh) ⟨rfl, rfl⟩) ?_)
    · rintro x c st'' _ _ ⟨rfl, rfl⟩
      refine wpS_bind (wpS_get ?_)
      rw [if_pos (by rw [hD.2.2.1]; exact Nat.le_refl 1)]
      exact wpS_pure ⟨rfl, rfl⟩
    · rintro c st'' ⟨rfl, rfl⟩
      exact wpS_pure (h _ hD.1 hD.2.1 hD.2.2.2)
end
end
section
/-- what a stable sort by integer keys gives: rk is the place in the source -/
def SOut (rk : Value → Nat) (kz : List Int) (vs out : List Value) : Prop :=
  ∃ ps : List (Int × Value), ps.Perm (kz.zip vs) ∧ out = ps.map Prod.snd ∧ ps.Pairwise (fun p q => p.1 < q.1 ∨ (p.1 = q.1 ∧ rk p.2 < rk q.2))
theorem R_eq {ρ : Keyed → Nat} {xs : Array Keyed} {i : Nat} (h : i < xs.size) : R ρ xs i = ρ xs[i] := by
  unfold R; rw [Array.getElem?_eq_getElem h]
theorem sout {rk : Value → Nat} {keys : Array Value} {vs : List Value} {kz : List Int} (hk : IntsAre keys.toList kz) {xs : Array Keyed} (hp : xs.Perm (keys.zip vs.toArray)) (hs : Up (fun p => rk p.2) xs xs.size) :
    SOut rk kz vs (xs.map (·.2)).toList := by
  have hl : xs.toList.Perm (keys.toList.zip vs) := by rw [← ksk_zip]; exact Array.perm_iff_toList_perm.mp hp
  refine ⟨xs.toList.map (fun p : Keyed => (numOf p.1, p.2)), ?_, ?_, ?_⟩
  · have e2 : (keys.toList.zip vs).map (fun p : Keyed => (numOf p.1, p.2)) = kz.zip vs := by
      rw [← hk.nums, List.zip_map_left]
      exact List.map_congr_left fun ⟨x, y⟩ _ => rfl
    rw [← e2]
    exact hl.map _
  · rw [Array.toList_map, List.map_map]; rfl
  · rw [List.pairwise_iff_getElem]
    intro i j hi hj hij
    have hi' : i < xs.size := by simpa using hi
    have hj' : j < xs.size := by simpa using hj
    have q := hs.up i j hij hj'
    rw [K_eq hi', K_eq hj', R_eq hi', R_eq hj'] at q
    simpa using q
section
variable {prog : Program} {w : World} {A : Around} {E : Value → Shared → Prop} {s : Shared} {h₀ : Heap} {L : Addr} {m : Str → Option Value} {news : List (Addr × Obj)} {a kS : Addr} {vs : List Value} {kz : List Int} {keys : Array Value} {e e1 : Nat} {P : PySem.Fin → Shared → Prop} {rk : Value → Nat}
theorem st_tail {st : SortSt} (F : Fr h₀ L s.heap m) (N : News h₀ L s.heap (news ++ [(kS, seqObj "list" keys e), (a, seqObj "list" #[] e1)])) (hka : kS ≠ a) (hnk : ∀ p ∈ news, p.1 ≠ kS) (hna : ∀ p ∈ news, p.1 ≠ a)
    (hk : IntsAre keys.toList kz) (hlen : kz.length = vs.length) (h64 : vs.length < 64) (hp : (arrOf st).Perm (keys.zip vs.toArray)) (hs : Up (fun p => rk p.2) (arrOf st) (arrOf st).size) (hfl : failedOf st = none)
    (h : ∀ h' tk out c, Fr h₀ L h' m → News h₀ L h' ((a, seqObj "list" out c) :: news) → SOut rk kz vs out.toList → P (.done (.ret .none)) { s with heap := h', toks := tk }) :
    wpAny (model prog w) A (ksk_tail a false e1 (.ref kS) st) P E s := by
  have nk := N (kS, seqObj "list" keys e) (List.mem_append_right _ (.head _))
  have na := N (a, seqObj "list" #[] e1) (List.mem_append_right _ (.tail _ (.head _)))
  have Nn : News h₀ L s.heap news := fun p hp => N p (List.mem_append_left _ hp)
  have hsz : keys.size = vs.length := by
    have h1 := hk.length
    rw [Array.length_toList] at h1
    omega
  have hout : ((arrOf st).map (·.2)).size = vs.length := by rw [Array.size_map, hp.size_eq, Array.size_zip, hsz, List.size_toArray, Nat.min_self]
  have s1 := Heap.SameBut.update s.heap kS (Obj.mapSeq fun _ => (#[] : Array Value))
  have na1 : (s.heap.update kS (Obj.mapSeq fun _ => (#[] : Array Value))).get? a = some (seqObj "list" #[] e1) := (s1.2 a hka.symm).trans na.1
  have s2 := Heap.SameBut.update (s.heap.update kS (Obj.mapSeq fun _ => (#[] : Array Value))) a (Obj.mapSeq fun _ => (arrOf st).map (·.2))
  obtain ⟨c2, hc2⟩ : ∃ c2, ((s.heap.update kS (Obj.mapSeq fun _ => (#[] : Array Value))).update a (Obj.mapSeq fun _ => (arrOf st).map (·.2))).get? a = some (seqObj "list" ((arrOf st).map (·.2)) c2) :=
    ⟨_, get?_update_seq na1 fun _ => (arrOf st).map (·.2)⟩
  have N2 := ksk_news (ksk_news Nn s1 hnk) s2 hna
  unfold ksk_tail
  simp only [Bool.false_eq_true, if_false]
  refine wpAny_bind (listUpdate_at nk.1 rfl ?_ (by rw [hsz, sizeLine_eq]; omega) (Nat.zero_le _))
  refine wpAny_bind (wpAny_letGo ?_)
  refine wpAny_bind (seqEpoch_at na1 rfl ?_)
  refine wpAny_bind (listUpdate_at na1 rfl ?_ (Nat.zero_le _) (Nat.le_trans (Nat.le_of_eq hout) (by rw [sizeLine_eq]; omega)))
  rw [hfl]
  simp only [bne_self_eq_false, Bool.false_eq_true, if_false]
  refine wpAny_pure (h _ _ _ c2 (ksk_fr (ksk_fr F s1 nk.2.1 nk.2.2) s2 na.2.1 na.2.2) (fun p hp => ?_) (sout hk hp hs))
  rcases List.mem_cons.mp hp with rfl | hp
  · exact ⟨hc2, na.2⟩
  · exact N2 p hp
theorem st_end (F : Fr h₀ L s.heap m) (N : News h₀ L s.heap (news ++ [(kS, seqObj "list" keys e), (a, seqObj "list" #[] e1)])) (hka : kS ≠ a) (hnk : ∀ p ∈ news, p.1 ≠ kS) (hna : ∀ p ∈ news, p.1 ≠ a)
    (hk : IntsAre keys.toList kz) (hlen : kz.length = vs.length) (h64 : vs.length < 64) (hrk : ∀ i v, vs[i]? = some v → rk v = i)
    (h : ∀ h' tk out c, Fr h₀ L h' m → News h₀ L h' ((a, seqObj "list" out c) :: news) → SOut rk kz vs out.toList → P (.done (.ret .none)) { s with heap := h', toks := tk }) :
    wpAny (model prog w) A (ksk_end a false vs.toArray e1 (.ref kS) keys) P E s := by
  have hsz : keys.size = vs.length := by
    have h1 := hk.length
    rw [Array.length_toList] at h1
    omega
  have hzs : (keys.zip vs.toArray).size = vs.length := by rw [Array.size_zip, hsz, List.size_toArray, Nat.min_self]
  have hR : ∀ i, i < (keys.zip vs.toArray).size → R (fun p => rk p.2) (keys.zip vs.toArray) i = i := by
    intro i hi
    rw [R_eq hi]
    refine hrk i _ ?_
    have hi' : i < vs.length := by rw [← hzs]; exact hi
    rw [List.getElem?_eq_getElem hi', Array.getElem_zip]
    simp
  unfold ksk_end
  simp only [Bool.false_eq_true, if_false]
  by_cases h2 : vs.toArray.size < 2
  · rw [if_pos h2, if_pos h2]
    refine wpAny_bind (wpAny_pure ?_)
    rw [StateT.run_pure]
    refine wpAny_bind (wpAny_pure ?_)
    try dsimp only
    refine st_tail (st := SortSt.mk' general' (keys.zip vs.toArray) #[] 7 none) F N hka hnk hna hk hlen h64 (Array.Perm.refl _) ?_ rfl h
    have ea : arrOf (SortSt.mk' general' (keys.zip vs.toArray) #[] 7 none) = keys.zip vs.toArray := rfl
    rw [ea]
    rw [List.size_toArray] at h2
    refine ⟨fun i j hij hj => ?_, fun i hi => ?_, fun i hi hs => ?_⟩
    · rw [hzs] at hj; omega
    · rw [hR i hi]; exact hi
    · exact hR i hs
  · rw [if_neg h2, if_neg h2]
    rw [List.size_toArray] at h2
    rw [ksk_kind hk (by rw [hsz]; omega)]
    refine wpAny_bind (wpAny_pure ?_)
    refine wpAny_bind (wpAny_mono (wpS_sortS (ρ := fun p => rk p.2) (a₀ := keys.zip vs.toArray) (st := SortSt.mk' oneType' (keys.zip vs.toArray) #[] 7 none)
      (Q := fun _ st' => (arrOf st').Perm (keys.zip vs.toArray) ∧ failedOf st' = none ∧ Up (fun p => rk p.2) (arrOf st') (keys.zip vs.toArray).size)
      (ksk_intKeys hk) ⟨Array.Perm.refl _, rfl, rfl, rfl⟩ hR (by rw [hzs]; omega) (by rw [hzs]; exact h64) fun st' a1 a2 a3 => ⟨a1, a2, a3⟩) ?_ fun _ _ e => e)
    rintro ⟨⟨⟩, st'⟩ s' ⟨rfl, hp, hf, hs⟩
    try dsimp only
    exact st_tail F N hka hnk hna hk hlen h64 hp (by rw [hp.size_eq]; exact hs) hf h
theorem st_rest {f : Value} (F : Fr h₀ L s.heap m) (N : News h₀ L s.heap (news ++ [(kS, seqObj "list" #[] 0), (a, seqObj "list" #[] e1)])) (hka : kS ≠ a) (hnk : ∀ p ∈ news, p.1 ≠ kS) (hna : ∀ p ∈ news, p.1 ≠ a)
    (hlen : kz.length = vs.length) (h64 : vs.length < 64) (hrk : ∀ i v, vs[i]? = some v → rk v = i)
    (turn : ∀ (i : Nat) (v : Value) (k : Int), vs[i]? = some v → kz[i]? = some k → ∀ (h : Heap) (tk : Nat) (own : List (Addr × Obj)), Fr h₀ L h m → News h₀ L h (news ++ own) →
      wpAny (model prog w) A (call f [v]) (KskEnd h₀ L m (news ++ own) k { s with heap := h, toks := tk }) (fun _ _ => False) { s with heap := h, toks := tk })
    (h : ∀ h' tk out c, Fr h₀ L h' m → News h₀ L h' ((a, seqObj "list" out c) :: news) → SOut rk kz vs out.toList → P (.done (.ret .none)) { s with heap := h', toks := tk }) :
    wpAny (model prog w) A (ksk_rest a f false vs.toArray e1 (.ref kS)) P E s := by
  unfold ksk_rest
  refine wpAny_bind (wpAny_rule ?_)
  first
    | rw [List.forIn_toArray]
    | (rw [← Array.forIn_toList]; simp only [List.toList_toArray])
    | rw [← Array.forIn_toList]
  refine wpAny_bind (ksk_fold (fun i s' => ∃ h' tk kA e, s' = { s with heap := h', toks := tk } ∧ Fr h₀ L h' m ∧ News h₀ L h' (news ++ [(kS, seqObj "list" kA e), (a, seqObj "list" #[] e1)]) ∧ IntsAre kA.toList (kz.take i)) vs 0 s
    ⟨s.heap, s.toks, #[], 0, rfl, F, N, by simpa using IntsAre.nil⟩ ?step ?done)
  case step =>
    rintro j x s' hx ⟨h', tk, kA, e, rfl, F', N', hk⟩
    simp only [Nat.zero_add] at hk ⊢
    have hj : j < vs.length := (List.getElem?_eq_some_iff.mp hx).1
    obtain ⟨k, hkj⟩ : ∃ k, kz[j]? = some k := ⟨_, List.getElem?_eq_getElem (by omega)⟩
    have hz : kA.size ≤ vs.length := by
      have h1 := hk.length
      rw [Array.length_toList, List.length_take] at h1
      omega
    refine wpAny_bind (wpAny_attempt (wpAny_mono (turn j x k hx hkj h' tk _ F' N') (fun v s'' he => ?_) fun _ _ hF => hF.elim))
    obtain ⟨g, tk2, t2, rfl, rfl, F2, N2⟩ := he
    try dsimp only
    have nk := N2 (kS, seqObj "list" kA e) (List.mem_append_right _ (.head _))
    have na := N2 (a, seqObj "list" #[] e1) (List.mem_append_right _ (.tail _ (.head _)))
    have s1 := Heap.SameBut.update g kS (Obj.mapSeq (·.push (.int k t2)))
    obtain ⟨c2, hc2⟩ : ∃ c2, (g.update kS (Obj.mapSeq (·.push (.int k t2)))).get? kS = some (seqObj "list" (kA.push (.int k t2)) c2) := ⟨_, get?_update_seq nk.1 (·.push (.int k t2))⟩
    have ek : kz.take (j + 1) = kz.take j ++ [k] := by rw [List.take_add_one, hkj]; simp
    have ea : (kA.push (Value.int k t2)).toList = kA.toList ++ [Value.int k t2] := by simp
    refine wpAny_bind (listUpdate_at nk.1 rfl ?_ (by rw [sizeLine_eq]; omega) (Nat.le_trans (Nat.le_of_eq (Array.size_push ..)) (by rw [sizeLine_eq]; omega)))
    refine wpAny_pure ⟨rfl, _, _, kA.push (.int k t2), c2, rfl, ksk_fr F2 s1 nk.2.1 nk.2.2, fun p hp => ?_, by rw [ea, ek]; exact ksk_snoc hk⟩
    rcases List.mem_append.mp hp with hp | hp
    · exact ksk_news (fun q hq => N2 q (List.mem_append_left _ hq)) s1 hnk p hp
    · rcases List.mem_cons.mp hp with rfl | hp
      · exact ⟨hc2, nk.2⟩
      · rw [List.mem_singleton.mp hp]
        exact ⟨(s1.2 a hka.symm).trans na.1, na.2⟩
  case done =>
    rintro s' ⟨h', tk, kA, e, rfl, F', N', hk⟩
    have hk' : IntsAre kA.toList kz := by
      have e3 : kz.take (0 + vs.length) = kz := List.take_of_length_le (by omega)
      rw [e3] at hk
      exact hk
    have nk := N' (kS, seqObj "list" kA e) (List.mem_append_right _ (.head _))
    try dsimp only
    refine wpAny_bind (listItems_at nk.1 rfl ?_)
    exact st_end F' N' hka hnk hna hk' hlen h64 hrk fun h3 tk3 out c F3 N3 k3 => h h3 tk3 out c F3 N3 k3
theorem st_sort {f : Value} {n : Nat} (F : Fr h₀ L s.heap m) (N : News h₀ L s.heap news) (ho : s.heap.get? a = some (seqObj "list" vs.toArray n)) (haL : a ≠ L) (ha0 : h₀.get? a = none) (hna : ∀ p ∈ news, p.1 ≠ a)
    (hlen : kz.length = vs.length) (h64 : vs.length < 64) (hrk : ∀ i v, vs[i]? = some v → rk v = i)
    (turn : ∀ (i : Nat) (v : Value) (k : Int), vs[i]? = some v → kz[i]? = some k → ∀ (h : Heap) (tk : Nat) (own : List (Addr × Obj)), Fr h₀ L h m → News h₀ L h (news ++ own) →
      wpAny (model prog w) A (call f [v]) (KskEnd h₀ L m (news ++ own) k { s with heap := h, toks := tk }) (fun _ _ => False) { s with heap := h, toks := tk })
    (h : ∀ h' tk out c, Fr h₀ L h' m → News h₀ L h' ((a, seqObj "list" out c) :: news) → SOut rk kz vs out.toList → P (.done (.ret .none)) { s with heap := h', toks := tk }) :
    wpAny (model prog w) A (ksk_tree a f false) P E s := by
  have ha : a < s.heap.objs.size := Heap.lt_size ho
  have s1 := Heap.SameBut.update s.heap a (Obj.mapSeq fun _ => (#[] : Array Value))
  obtain ⟨e1, ho1⟩ : ∃ e1, (s.heap.update a (Obj.mapSeq fun _ => (#[] : Array Value))).get? a = some (seqObj "list" #[] e1) := ⟨_, get?_update_seq ho fun _ => #[]⟩
  have F1 := ksk_fr F s1 haL ha0
  have N1 := ksk_news N s1 hna
  have hkS : ((s.heap.update a (Obj.mapSeq fun _ => (#[] : Array Value))).push (seqObj "tuple" vs.toArray 0)).objs.size = s.heap.objs.size + 1 := by rw [size_push', Heap.size_update]
  have hLk : L < ((s.heap.update a (Obj.mapSeq fun _ => (#[] : Array Value))).push (seqObj "tuple" vs.toArray 0)).objs.size := (F1.push _).ns.lt
  unfold ksk_tree
  refine wpAny_bind (listItems_at ho rfl ?_)
  refine wpAny_bind (listUpdate_at ho rfl ?_ (by rw [List.size_toArray, sizeLine_eq]; omega) (Nat.zero_le _))
  refine wpAny_bind (seqEpoch_at ho1 rfl ?_)
  refine wpAny_bind (wpAny_newTuple ?_ (by show vs.length ≤ _; rw [sizeLine_eq]; omega))
  refine wpAny_bind (wpAny_newList ?_ (Nat.zero_le _))
  refine wpAny_holding ?_
  refine st_rest (s := { s with heap := ((s.heap.update a (Obj.mapSeq fun _ => (#[] : Array Value))).push (seqObj "tuple" vs.toArray 0)).push (seqObj "list" #[] 0) }) (kS := ((s.heap.update a (Obj.mapSeq fun _ => (#[] : Array Value))).push (seqObj "tuple" vs.toArray 0)).objs.size)
    ((F1.push _).push _) (fun p hp => ?_) (by rw [hkS]; exact Nat.ne_of_gt (Nat.lt_succ_of_lt ha)) (fun p hp => by rw [hkS]; exact Nat.ne_of_lt (Nat.lt_succ_of_lt (Heap.lt_size (N p hp).1))) hna hlen h64 hrk turn h
  rcases List.mem_append.mp hp with hp | hp
  · exact ⟨Heap.get?_push_of_some _ (Heap.get?_push_of_some _ (N1 p hp).1), (N1 p hp).2⟩
  · rcases List.mem_cons.mp hp with rfl | hp
    · exact ⟨Heap.get?_push_size _ rfl, Nat.ne_of_gt hLk, Heap.get?_none_of_le (Nat.le_trans F.above (Nat.le_of_lt hLk))⟩
    · rw [List.mem_singleton.mp hp]
      exact ⟨Heap.get?_push_of_some _ (Heap.get?_push_of_some _ ho1), haL, ha0⟩
end
section
variable {prog : Program} {w : World} {A : Around} {E : Value → Shared → Prop} {s : Shared} {h₀ : Heap} {L l : Addr} {m : Str → Option Value} {news : List (Addr × Obj)} {vs : List Value} {Q : Value → Shared → Prop} {rk : Value → Nat}
theorem st_sorted {kz : List Int} {q : Addr} (F : Fr h₀ L s.heap m) (N : News h₀ L s.heap news) (hl : s.heap.IsList l vs.toArray) (hlen : kz.length = vs.length) (h64 : vs.length < 64) (hrk : ∀ i v, vs[i]? = some v → rk v = i)
    (turn : ∀ (i : Nat) (v : Value) (k : Int), vs[i]? = some v → kz[i]? = some k → ∀ (h : Heap) (tk : Nat) (own : List (Addr × Obj)), Fr h₀ L h m → News h₀ L h (news ++ own) →
      wpAny (model prog w) A.in1.in1 (call (.ref q) [v]) (KskEnd h₀ L m (news ++ own) k { s with heap := h, toks := tk }) (fun _ _ => False) { s with heap := h, toks := tk })
    (h : ∀ D h' tk out c, Fr h₀ L h' m → News h₀ L h' ((D, seqObj "list" out c) :: news) → (∀ q ∈ news, q.1 < D) → SOut rk kz vs out.toList → Q (.ref D) { s with heap := h', toks := tk }) :
    wpAny (model prog w) A (call (.builtin "sorted") [.ref l] [(Str.ofString "key", .ref q)]) Q E s := by
  refine call_function_entry_kw kind_sorted plain_sorted entry_sorted (ksk_s1 _ _) ?_
  unfold Builtin.«sorted»
  refine wpAny_bind (m := checkCount "sorted" 1 1 _) (wpAny_pure ?_)
  refine wpAny_bind (collect_list hl ?_ (by rw [sizeLine_eq]; omega))
  refine wpAny_bind (wpAny_newList ?_ (by rw [sizeLine_eq]; omega))
  have hsz : ((s.heap.push (seqObj "list" #[] 0)).update s.heap.objs.size (Obj.mapSeq (· ++ vs.toArray))).objs.size = s.heap.objs.size + 1 := by
    rw [Heap.size_update, size_push']
  have hoL : (((s.heap.push (seqObj "list" #[] 0)).update s.heap.objs.size (Obj.mapSeq (· ++ vs.toArray))).push (seqObj "list" vs.toArray 0)).get? (s.heap.objs.size + 1) = some (seqObj "list" vs.toArray 0) := by
    rw [← hsz]; exact Heap.get?_push_size _ rfl
  have keep : ∀ b o, s.heap.get? b = some o → (((s.heap.push (seqObj "list" #[] 0)).update s.heap.objs.size (Obj.mapSeq (· ++ vs.toArray))).push (seqObj "list" vs.toArray 0)).get? b = some o := fun b o q => by
    have hlt : b < s.heap.objs.size := Heap.lt_size q
    rw [Heap.get?_push_ne _ _ _ (by rw [hsz]; exact Nat.ne_of_lt (Nat.lt_succ_of_lt hlt)), Heap.get?_update_ne _ _ _ _ (Nat.ne_of_lt hlt), Heap.get?_push_ne _ _ _ (Nat.ne_of_lt hlt)]
    exact q
  have hL : L < s.heap.objs.size := F.ns.lt
  show wpAny _ _ _ _ _ { s with heap := ((s.heap.push (seqObj "list" #[] 0)).update s.heap.objs.size (Obj.mapSeq (· ++ vs.toArray))).push (seqObj "list" vs.toArray 0) }
  rw [hsz]
  refine wpAny_bind (wpAny_holding (wpAny_call_entry_kw slot_list_sort ⟨_, hoL, rfl⟩ entry_list_sort ?body (ksk_l1 _ _)))
  case body =>
    show wpAny (model prog w) A.in1.in1 (Builtin.«list.sort» ⟨[.ref (s.heap.objs.size + 1)], [(Str.ofString "key", .ref q)]⟩) _ _ _
    rw [ksk_t1]
    refine st_sort (rk := rk) (s := { s with heap := ((s.heap.push (seqObj "list" #[] 0)).update s.heap.objs.size (Obj.mapSeq (· ++ vs.toArray))).push (seqObj "list" vs.toArray 0) })
      (F.kept keep) (N.grown keep) hoL (Nat.ne_of_gt (Nat.lt_succ_of_lt hL)) (Heap.get?_none_of_le (Nat.le_trans F.above (Nat.le_succ_of_le (Nat.le_of_lt hL))))
      (fun p hp => Nat.ne_of_lt (Nat.lt_succ_of_lt (Heap.lt_size (N p hp).1))) hlen h64 hrk turn fun h' tk out c F' N' k' => ⟨_, rfl, ?_⟩
    exact wpAny_pure ⟨_, rfl, h _ h' tk out c F' N' (fun q hq => Nat.lt_succ_of_lt (Heap.lt_size (N q hq).1)) k'⟩
end
end
section
open PySem PySem.W PyProof.Rows PyProof.Rows.LCg
/-- the end of a turn of a for loop: the iterator stands ahead of the ledger -/
inductive FNext (h₀ : Heap) (L I : Addr) (oI : Obj) (J : (Str → Option Value) → Led → Prop) (g : Array GenState) (d : Drawn) (os : OsState) (s₃ : Shared) : Prop
  | mk (h' : Heap) (tk : Nat) (m' : Str → Option Value) (nw : Led) (e : s₃ = ⟨h', g, d, tk, os⟩) (F : Fr h₀ L h' m') (N : News h₀ L h' ((I, oI) :: nw)) (off : ∀ p ∈ nw, p.1 ≠ I) (j : J m' nw)
def FEnd (h₀ : Heap) (L I : Addr) (oI : Obj) (J : (Str → Option Value) → Led → Prop) (s : Shared) (Q : Flow → Shared → Prop) (f : Flow) (s₃ : Shared) : Prop := match f with
  | .next => FNext h₀ L I oI J s.gens s.drawn s.os s₃
  | .cont => FNext h₀ L I oI J s.gens s.drawn s.os s₃
  | .brk => Q .next s₃
  | .ret v => Q (.ret v) s₃
section
variable {prog : Program} {w : World} {A : Around} {E : Value → Shared → Prop} {s : Shared} {h₀ : Heap} {m : Str → Option Value} {env : Env} {news : Led}
def ForSrc (prog : Program) (w : World) (A : Around) (env : Env) (x : Str) (px : Pos) (body : List Stmt) (Q : Flow → Shared → Prop) (E : Value → Shared → Prop) (xv : Value) (s₁ : Shared) : Prop :=
  wpAny (model prog w) A (pyIter xv) (fun it s₂ => codeAny (model prog w) A (.forLoop (.Name x px) it body [] env) (fun r s' => match r with | .ok f => Q f s' | .error e => cameBackBy (model prog w) A env E e s') s₂) E s₁
theorem for_hold {iter : PySem.Expr} {x : Str} {px : Pos} {body : List Stmt} {pos : Pos} {Q : Flow → Shared → Prop}
    (h : wpAny (model prog w) A (eval iter env) (fun xv s₁ => Hold (ForSrc prog w A env x px body Q E xv s₁)) E s)
    (hs : ∀ x, foldedSetIterable iter env x = pure x := by intro _; rfl) :
    wpAny (model prog w) A (exec (.For (.Name x px) iter body [] pos) env) Q E s := wpAny_For h hs
theorem for_walk {x : Str} {px : Pos} {body : List Stmt} {Q : Flow → Shared → Prop} {I : Addr} {fp : List Addr} {n : Nat} {P : Nat → Value → Prop} {St : Nat → Heap → Prop} {S : Led → Prop}
    (W : Walks prog w A I fp [I] n P St) (hIo : ∀ i h, St i h → ∃ o, h.get? I = some o)
    (hSt : ∀ i h h' o nw, St i h → h.get? I = some o → h'.get? I = some o → (∀ b o, h₀.get? b = some o → h'.get? b = some o) → News h₀ env.locals h' nw → S nw → St i h')
    (hx : env.kindOf x = some .local) (hp : (env.scope.kind == .class || (env.scope.kind == .module && env.locals != env.globals)) = false)
    (hst : St 0 s.heap) (hLf : env.locals ∉ fp) (F : Fr h₀ env.locals s.heap m) (N : News h₀ env.locals s.heap news) (hI₀ : h₀.get? I = none) (off : ∀ p ∈ news, p.1 ≠ I)
    (J : Nat → (Str → Option Value) → Led → Prop) (hJS : ∀ i m nw, J i m nw → S nw) (h0 : J 0 m news)
    (step : ∀ i v m₁ nw oI h tk (E' : Value → Shared → Prop), i < n → P i v → J i m₁ nw → (∀ p ∈ nw, p.1 ≠ I) → Fr h₀ env.locals h (fun y => if y = x then some v else m₁ y) → News h₀ env.locals h ((I, oI) :: nw) →
      wpAny (model prog w) A (execs body env) (fun f s₃ => Hold (FEnd h₀ env.locals I oI (J (i + 1)) s Q f s₃)) E' { s with heap := h, toks := tk })
    (fin : ∀ h' tk m' nw, Fr h₀ env.locals h' m' → News h₀ env.locals h' nw → J n m' nw → Q .next { s with heap := h', toks := tk }) :
    codeAny (model prog w) A (.forLoop (.Name x px) (.ref I) body [] env) (fun r s' => match r with | .ok f => Q f s' | .error e => cameBackBy (model prog w) A env E e s') s := by
  have hIL : env.locals ≠ I := fun e => hLf (W.sub _ (by rw [e]; exact List.mem_singleton.mpr rfl))
  refine codeAny_forLoop
    (fun k s' => ∃ h' tk m' nw i, s' = { s with heap := h', toks := tk } ∧ St i h' ∧ Fr h₀ env.locals h' m' ∧ News h₀ env.locals h' nw ∧ (∀ p ∈ nw, p.1 ≠ I) ∧ J i m' nw ∧ i ≤ n ∧ k = n + 1 - i) ?_ (n + 1)
    ⟨s.heap, s.toks, m, news, 0, rfl, hst, F, N, off, h0, Nat.zero_le _, rfl⟩
  rintro k s' ⟨h', tk, m', nw, i, rfl, hst', F', N', off', hJ, hi, rfl⟩
  by_cases hlt : i < n
  · refine W.item i _ _ _ hlt hst' fun v h₁ tk₁ hP hst₁ hk₁ => ?_
    have F₁ := fr_but F' hk₁ hIL hI₀
    have N₁ := news_but N' hk₁ off'
    refine wpAny_assign_Name (wpAny_storeName_local hx F₁.ns (fun h₂ hn₂ hs₂ => ?_) hp)
    have F₂ := F₁.set hn₂ hs₂
    have hst₂ : St (i + 1) h₂ := W.frame _ _ _ hst₁ fun b hb o e => (hs₂.2 b fun q => hLf (q ▸ hb)).trans e
    obtain ⟨oI, heI⟩ := hIo _ _ hst₂
    have N₂ : News h₀ env.locals h₂ ((I, oI) :: nw) := fun p hp => by
      rcases List.mem_cons.mp hp with rfl | hp
      · exact ⟨heI, Ne.symm hIL, hI₀⟩
      · exact N₁.set hs₂ p hp
    have goon : ∀ s₃ : Shared, FNext h₀ env.locals I oI (J (i + 1)) s.gens s.drawn s.os s₃ →
        ∃ m₂, m₂ < n + 1 - i ∧ ∃ h' tk m' nw i, s₃ = { s with heap := h', toks := tk } ∧ St i h' ∧ Fr h₀ env.locals h' m' ∧ News h₀ env.locals h' nw ∧ (∀ p ∈ nw, p.1 ≠ I) ∧ J i m' nw ∧ i ≤ n ∧ m₂ = n + 1 - i := by
      rintro s₃ ⟨h₃, tk₃, m₃, nw₃, rfl, F₃, N₃, off₃, hJ₃⟩
      refine ⟨n + 1 - (i + 1), by omega, h₃, tk₃, m₃, nw₃, i + 1, rfl, ?_, F₃, fun p hp => N₃ p (List.mem_cons_of_mem _ hp), off₃, hJ₃, hlt, rfl⟩
      exact hSt _ _ _ oI nw₃ hst₂ heI (N₃ _ List.mem_cons_self).1 F₃.keep (fun p hp => N₃ p (List.mem_cons_of_mem _ hp)) (hJS _ _ _ hJ₃)
    refine wpAny_mono (step i v m' nw oI h₂ _ _ hlt hP hJ off' F₂ N₂) (fun f s₃ h₃ => ?_) fun _ _ e => e
    cases f with
    | next => exact goon s₃ h₃
    | cont => exact goon s₃ h₃
    | brk => exact h₃
    | ret v => exact h₃
  · have hin : i = n := by omega
    subst hin
    refine W.done _ _ _ hst' fun h₁ tk₁ hk₁ => wpAny_execs_nil ?_
    exact fin h₁ tk₁ m' nw (fr_but F' hk₁ hIL hI₀) (news_but N' hk₁ off') hJ
/-- over a list of the ledger that the loop leaves as it is -/
theorem for_list {x : Str} {px : Pos} {body : List Stmt} {Q : Flow → Shared → Prop} {ax : Addr} {its : Array Value}
    (hh : A.handled = none) (hx : env.kindOf x = some .local) (hp : (env.scope.kind == .class || (env.scope.kind == .module && env.locals != env.globals)) = false)
    (F : Fr h₀ env.locals s.heap m) (N : News h₀ env.locals s.heap news)
    (J : Nat → (Str → Option Value) → Led → Prop) (hJS : ∀ i m nw, J i m nw → SrcAt h₀ ax its nw) (h0 : J 0 m news)
    (step : ∀ I i v m₁ nw oI h tk (E' : Value → Shared → Prop), i < its.size → its[i]? = some v → J i m₁ nw → (∀ p ∈ nw, p.1 ≠ I) → Fr h₀ env.locals h (fun y => if y = x then some v else m₁ y) → News h₀ env.locals h ((I, oI) :: nw) →
      wpAny (model prog w) A (execs body env) (fun f s₃ => Hold (FEnd h₀ env.locals I oI (J (i + 1)) s Q f s₃)) E' { s with heap := h, toks := tk })
    (fin : ∀ h' tk m' nw, Fr h₀ env.locals h' m' → News h₀ env.locals h' nw → J its.size m' nw → Q .next { s with heap := h', toks := tk }) :
    ForSrc prog w A env x px body Q E (.ref ax) s := by
  have S := hJS _ _ _ h0
  have hl := S.list F.keep N
  have hlt : ax < s.heap.objs.size := by obtain ⟨_, e, _⟩ := hl; exact Heap.lt_size e
  have up : ∀ b o, s.heap.get? b = some o → (s.heap.push { cls := .type "list_iterator", data := .fields #[.ref ax, .int 0 0] }).get? b = some o := fun b o e => Heap.get?_push_of_some _ e
  unfold ForSrc
  refine wpAny_pyIter_list hl ?_
  refine for_walk (S := SrcAt h₀ ax its) (Walks.list hh s.heap.objs.size ax (Nat.ne_of_lt hlt) its) (fun i h st => by obtain ⟨o, e, _⟩ := st.1; exact ⟨o, e⟩) list_st hx hp ⟨⟨_, Heap.get?_push_size _ rfl, rfl, rfl⟩, hl.push _⟩ ?_
    (F.keeps up) (N.grown up) (next_is_new F) (fun p hp => Nat.ne_of_lt (Heap.lt_size (N p hp).1)) J hJS h0 (step s.heap.objs.size) fin
  intro hm
  rcases List.mem_cons.mp hm with e | hm
  · exact Nat.ne_of_lt F.ns.lt e
  · have e := List.mem_singleton.mp hm
    obtain ⟨o, ho, hc, _⟩ := hl
    obtain ⟨o', _, _, h', hc', hd⟩ := F.ns
    rw [e, ho] at h'
    cases h'
    rcases S with ⟨q, hq, _⟩ | ⟨q, hq, _⟩
    · have := Heap.lt_size hq
      have := F.above
      rw [e] at this; exact Nat.lt_irrefl _ (Nat.lt_of_lt_of_le (Heap.lt_size hq) this)
    · exact (N _ hq).2.1 e.symm
/-- over a range -/
theorem for_range {x : Str} {px : Pos} {body : List Stmt} {Q : Flow → Shared → Prop} {r : Addr} {a b c : Int} {t u v : Tok} {n : Nat}
    (hh : A.handled = none) (hx : env.kindOf x = some .local) (hp : (env.scope.kind == .class || (env.scope.kind == .module && env.locals != env.globals)) = false)
    (F : Fr h₀ env.locals s.heap m) (N : News h₀ env.locals s.heap news) (hr : IsRange s.heap r a b c t u v) (hsm : Builtin.Range.small a b c = true) (hn : Builtin.Range.rangeSize a b c = ((n : Nat) : Int))
    (J : Nat → (Str → Option Value) → Led → Prop) (h0 : J 0 m news)
    (step : ∀ I i v m₁ nw oI h tk (E' : Value → Shared → Prop), i < n → (∃ t, v = .int (a + i * c) t) → J i m₁ nw → (∀ p ∈ nw, p.1 ≠ I) → Fr h₀ env.locals h (fun y => if y = x then some v else m₁ y) → News h₀ env.locals h ((I, oI) :: nw) →
      wpAny (model prog w) A (execs body env) (fun f s₃ => Hold (FEnd h₀ env.locals I oI (J (i + 1)) s Q f s₃)) E' { s with heap := h, toks := tk })
    (fin : ∀ h' tk m' nw, Fr h₀ env.locals h' m' → News h₀ env.locals h' nw → J n m' nw → Q .next { s with heap := h', toks := tk }) :
    ForSrc prog w A env x px body Q E (.ref r) s := by
  unfold ForSrc
  refine wpAny_pyIter_range hr hsm ?_
  refine for_walk (S := fun _ => True) (Walks.range hh s.heap.objs.size a c n) (fun i h st => ⟨_, st⟩) (fun i h h' o nw st e e' _ _ _ => by
    have st' : h.get? s.heap.objs.size = some _ := st
    show h'.get? s.heap.objs.size = some _
    rw [e', ← e]; exact st') hx hp (by show IsRangeIter _ _ _ _ _; rw [hn]; simpa using Heap.get?_push_size _ rfl) (fun hm => Nat.ne_of_lt F.ns.lt (List.mem_singleton.mp hm))
    (F.keeps fun _ _ e => Heap.get?_push_of_some _ e) (N.grown fun _ _ e => Heap.get?_push_of_some _ e) (next_is_new F) (fun p hp => Nat.ne_of_lt (Heap.lt_size (N p hp).1)) J (fun _ _ _ _ => trivial) h0 (step s.heap.objs.size) fin
/-- over the signs of a text -/
theorem for_str {x : Str} {px : Pos} {body : List Stmt} {Q : Flow → Shared → Prop} {y : Str} {t : Tok}
    (hh : A.handled = none) (hx : env.kindOf x = some .local) (hp : (env.scope.kind == .class || (env.scope.kind == .module && env.locals != env.globals)) = false)
    (F : Fr h₀ env.locals s.heap m) (N : News h₀ env.locals s.heap news)
    (J : Nat → (Str → Option Value) → Led → Prop) (h0 : J 0 m news)
    (step : ∀ I i v m₁ nw oI h tk (E' : Value → Shared → Prop), i < y.cps.size → SignAt y i v → J i m₁ nw → (∀ p ∈ nw, p.1 ≠ I) → Fr h₀ env.locals h (fun y => if y = x then some v else m₁ y) → News h₀ env.locals h ((I, oI) :: nw) →
      wpAny (model prog w) A (execs body env) (fun f s₃ => Hold (FEnd h₀ env.locals I oI (J (i + 1)) s Q f s₃)) E' { s with heap := h, toks := tk })
    (fin : ∀ h' tk m' nw, Fr h₀ env.locals h' m' → News h₀ env.locals h' nw → J y.cps.size m' nw → Q .next { s with heap := h', toks := tk }) :
    ForSrc prog w A env x px body Q E (.str y t) s := by
  have go : ∀ (ty : String) (o : Obj), Walks prog w A s.heap.objs.size [s.heap.objs.size] [s.heap.objs.size] y.cps.size (SignAt y) (fun i h => h.IsStrIter s.heap.objs.size ty y t i) → (s.heap.push o).IsStrIter s.heap.objs.size ty y t 0 →
      codeAny (model prog w) A (.forLoop (.Name x px) (.ref s.heap.objs.size) body [] env) (fun r s' => match r with | .ok f => Q f s' | .error e => cameBackBy (model prog w) A env E e s') { s with heap := s.heap.push o } := fun ty o W hst =>
    for_walk (S := fun _ => True) W (fun i h st => by obtain ⟨o, e, _⟩ := st; exact ⟨o, e⟩) (fun i h h' o nw st e e' _ _ _ => by obtain ⟨o', q, r⟩ := st; rw [e] at q; cases q; exact ⟨o, e', r⟩) hx hp hst (fun hm => Nat.ne_of_lt F.ns.lt (List.mem_singleton.mp hm))
      (F.keeps fun _ _ e => Heap.get?_push_of_some _ e) (N.grown fun _ _ e => Heap.get?_push_of_some _ e) (next_is_new F) (fun p hp => Nat.ne_of_lt (Heap.lt_size (N p hp).1)) J (fun _ _ _ _ => trivial) h0 (step s.heap.objs.size) fin
  unfold ForSrc
  cases ha : y.cps.all (· < 128)
  · exact wpAny_pyIter_wide ha (go "str_iterator" _ (Walks.strWide hh _ y t) ⟨_, Heap.get?_push_size _ rfl, rfl, rfl⟩)
  · exact wpAny_pyIter_ascii ha (go "str_ascii_iterator" _ (Walks.strAscii hh _ y t) ⟨_, Heap.get?_push_size _ rfl, rfl, rfl⟩)
end
end
section
open PySem PySem.W PyProof.Rows PyProof.Rows.LCg
abbrev Apart (a : Addr) (l : Led) : Prop := ∀ p ∈ l, p.1 ≠ a
theorem Apart.cons {a : Addr} {l : Led} {p : Addr × Obj} (h : p.1 ≠ a) (k : Apart a l) : Apart a (p :: l) := fun q hq => by
  rcases List.mem_cons.mp hq with rfl | hq
  · exact h
  · exact k q hq
/-- the ledger without one address -/
def cut (a : Addr) (l : Led) : Led := l.filter fun p => p.1 != a
theorem cut_apart (a : Addr) (l : Led) : Apart a (cut a l) := fun p hp => by
  have := (List.mem_filter.mp hp).2
  simpa using this
theorem cut_mem {a : Addr} {l : Led} {p : Addr × Obj} (h : p ∈ l) (hn : p.1 ≠ a) : p ∈ cut a l := List.mem_filter.mpr ⟨h, by simpa using hn⟩
theorem cut_sub {a : Addr} {l : Led} {p : Addr × Obj} (h : p ∈ cut a l) : p ∈ l := (List.mem_filter.mp h).1
theorem News.cut {h₀ h : Heap} {L a : Addr} {l : Led} {o : Obj} (N : News h₀ L h l) (hm : (a, o) ∈ l) : News h₀ L h ((a, o) :: cut a l) := fun p hp => by
  rcases List.mem_cons.mp hp with rfl | hp
  · exact N _ hm
  · exact N _ (cut_sub hp)
/-- the table of a code with one lambda: empty, or the lambda's code lies in it -/
def TabOk (pos : Pos) (qual : Str) (ps : Array Value) (rest : Led) : Prop :=
  ps = #[] ∨ ∃ c' oc vs t, ps = #[rawInt pos.line, rawInt pos.col, .ref c'] ∧ (c', oc) ∈ rest ∧ oc.data = .fields vs ∧ vs[1]? = some (.str qual t)
section
variable {M : Model} {A : Around} {E : Value → Shared → Prop} {s : Shared} {h₀ : Heap} {L a c P : Addr} {m mg mb : Str → Option Value} {cn : Str} {cs : Scope} {ccd : Value} {cl : List (Str × Addr)} {rest : Led}
  {p : Program} {loose : List Str} {mean : ExcName → Option Value} {params : Arguments} {body : PySem.Expr} {scope : Scope} {ps : Array Value} {pos : Pos} {clos : List (Str × Addr)}
theorem lam_any {Q : Value → Shared → Prop} {rest0 : Led} (h00 : ∀ p ∈ rest0, p ∈ rest) (F : Fr h₀ L s.heap m) (N : News h₀ L s.heap ((P, tabObj ps) :: rest)) (T : Top p loose mean mg mb h₀) (C : CodeHd h₀ c P) (hcd : ccd = .ref c) (hP : Apart P rest)
    (tab : TabOk pos ((envX cn cs L a ccd cl).qual ++ "<lambda>") ps rest0) (hdef : defaultsOf params (envX cn cs L a ccd cl) = ([], [])) (hcl : closureFor scope (envX cn cs L a ccd cl) = pure clos)
    (h : ∀ f c' oc vs t ctv rest' h' tk, Fr h₀ L h' m → News h₀ L h' ((f, kla_obj "<lambda>" ((envX cn cs L a ccd cl).qual ++ "<lambda>") params body scope clos ((mg "__name__").getD .none) c' ctv) :: (P, tabObj #[rawInt pos.line, rawInt pos.col, .ref c']) :: rest') →
      (c', oc) ∈ rest' → ((c', oc) ∈ rest0 ∨ ∀ r ∈ (P, tabObj ps) :: rest, r.1 < c') → oc.data = .fields vs → vs[1]? = some (.str ((envX cn cs L a ccd cl).qual ++ "<lambda>") t) → (∀ q ∈ rest', q ∈ rest ∨ ∀ r ∈ (P, tabObj ps) :: rest, r.1 < q.1) → (∀ q ∈ rest, q ∈ rest') → (∀ q ∈ rest', q.1 < f) → P < f → (ps = #[] ∨ ps = #[rawInt pos.line, rawInt pos.col, .ref c']) → Q (.ref f) { s with heap := h', toks := tk }) :
    wpAny M A (eval (.Lambda params body scope pos) (envX cn cs L a ccd cl)) Q E s := by
  refine kla_eval hdef ?_
  rcases tab with rfl | ⟨c', oc, vs, t, rfl, hm, hd, hv⟩
  · refine kla_nest F N T C hcd (UpdF.head hP) trivial rfl hcl fun f c' oc vs t ctv h' tk F' N' d1 d2 l1 l2 => ?_
    refine h f c' oc vs t ctv ((c', oc) :: rest) h' tk F' (fun q hq => N' q ?_) List.mem_cons_self (.inr l1) d1 d2 (fun q hq => ?_) (fun q hq => List.mem_cons_of_mem _ hq) (fun q hq => ?_) (Nat.lt_trans (l1 _ List.mem_cons_self) l2) (.inl rfl)
    · rcases List.mem_cons.mp hq with rfl | hq
      · exact List.mem_cons_self
      · rcases List.mem_cons.mp hq with rfl | hq
        · exact List.mem_cons_of_mem _ (List.mem_cons_of_mem _ List.mem_cons_self)
        · rcases List.mem_cons.mp hq with rfl | hq
          · exact List.mem_cons_of_mem _ List.mem_cons_self
          · exact List.mem_cons_of_mem _ (List.mem_cons_of_mem _ (List.mem_cons_of_mem _ hq))
    · rcases List.mem_cons.mp hq with rfl | hq
      · exact .inr l1
      · exact .inl hq
    · rcases List.mem_cons.mp hq with rfl | hq
      · exact l2
      · exact Nat.lt_trans (l1 _ (List.mem_cons_of_mem _ hq)) l2
  · refine kla_hit (c' := c') F N T C hcd List.mem_cons_self (by simp [TriplesOk, rawInt]) (by simp [codeAmong, rawInt]) hcl fun f ctv h' tk F' N' l1 => ?_
    exact h f c' oc vs t ctv rest h' tk F' N' (h00 _ hm) (.inl hm) hd hv (fun q hq => .inl hq) (fun q hq => hq) (fun q hq => l1 q (List.mem_cons_of_mem _ hq)) (l1 _ List.mem_cons_self) (.inr rfl)
end
end
local macro_rules | `(tactic| k_all) => `(tactic| first | exact all_ne (by assumption) (by omega) | assumption | (refine' Apart.cons ?h9 ?t9; (case h9 => first | exact Nat.ne_of_lt (by assumption) | exact Nat.ne_of_gt (by assumption) | assumption | exact Ne.symm (by assumption)); (case t9 => k_all)))
section
/-- by their orders, like ones as in l -/
def Due (ords : List Int) (l out : List Int) : Prop := out.Perm l ∧ out.Pairwise (fun p q => ordAt ords p < ordAt ords q ∨ (ordAt ords p = ordAt ords q ∧ l.idxOf p < l.idxOf q))
theorem places_fin : ∀ s : Fin 12, ∀ j : Fin 21, 5 ≤ s.val → j.val < 2 * s.val - 1 → (placesL s.val j.val).Nodup ∧ (∀ x ∈ placesL s.val j.val, 0 ≤ x ∧ x < (s.val : Int)) ∧ (placesL s.val j.val).length ≤ 11 := by decide +kernel
theorem places_ok {n j : Nat} (h5 : 5 ≤ n) (h11 : n ≤ 11) (hj : j < 2 * n - 1) : (placesL n j).Nodup ∧ (∀ x ∈ placesL n j, 0 ≤ x ∧ x < (n : Int)) ∧ (placesL n j).length ≤ 11 :=
  places_fin ⟨n, by omega⟩ ⟨j, by omega⟩ h5 hj
def rkOf (l : List Int) (v : Value) : Nat := l.idxOf (numOf v)
theorem ints_nums {vs : List Value} {ns : List Int} (h : IntsAre vs ns) : vs.map numOf = ns := h.nums
theorem idxOf_nodup : ∀ {l : List Int} {i : Nat} {x : Int}, l.Nodup → l[i]? = some x → l.idxOf x = i
  | [], _, _, _, h => by simp at h
  | y :: l, 0, x, _, h => by simp at h; subst h; simp
  | y :: l, i + 1, x, hn, h => by
    simp at h
    have hn' := List.nodup_cons.mp hn
    have hx : x ∈ l := List.mem_of_getElem? h
    have hne : y ≠ x := fun e => hn'.1 (e ▸ hx)
    rw [List.idxOf_cons, idxOf_nodup hn'.2 h, beq_false_of_ne hne]
    rfl
theorem rk_ok {vs : List Value} {ns : List Int} (h : IntsAre vs ns) (hn : ns.Nodup) : ∀ i v, vs[i]? = some v → rkOf ns v = i := by
  intro i v e
  refine idxOf_nodup hn ?_
  rw [← ints_nums h, List.getElem?_map, e]; rfl
theorem ints_of_all : ∀ {vs : List Value}, (∀ v ∈ vs, ∃ n t, v = Value.int n t) → IntsAre vs (vs.map numOf)
  | [], _ => .nil
  | v :: vs, h => by
    obtain ⟨n, t, rfl⟩ := h v List.mem_cons_self
    exact .cons n t (ints_of_all fun v hv => h v (List.mem_cons_of_mem _ hv))
theorem ints_all : ∀ {vs : List Value} {ns : List Int}, IntsAre vs ns → ∀ v ∈ vs, ∃ n t, v = Value.int n t
  | _, _, .nil, v, hv => by cases hv
  | _, _, .cons n t h, v, hv => by
    rcases List.mem_cons.mp hv with rfl | hv
    · exact ⟨n, t, rfl⟩
    · exact ints_all h v hv
theorem zip_mem_key {ords : List Int} : ∀ {vs : List Value} {ns : List Int}, IntsAre vs ns → ∀ p ∈ (ns.map (ordAt ords)).zip vs, p.1 = ordAt ords (numOf p.2)
  | _, _, .nil, p, hp => by simp at hp
  | _, _, .cons n t h, p, hp => by
    simp only [List.map_cons, List.zip_cons_cons] at hp
    rcases List.mem_cons.mp hp with rfl | hp
    · rfl
    · exact zip_mem_key h p hp
theorem sout_due {ords : List Int} {vs out : List Value} {ns : List Int} (h : IntsAre vs ns) (so : SOut (rkOf ns) (ns.map (ordAt ords)) vs out) : ∃ on, IntsAre out on ∧ Due ords ns on := by
  obtain ⟨ps, hp, rfl, hw⟩ := so
  have hl : (ns.map (ordAt ords)).length = vs.length := by rw [List.length_map]; exact h.length.symm
  have hpv : (ps.map Prod.snd).Perm vs := by
    have := hp.map Prod.snd
    rwa [List.map_snd_zip (by omega)] at this
  refine ⟨(ps.map Prod.snd).map numOf, ints_of_all fun v hv => ints_all h v (hpv.mem_iff.mp hv), ?_, ?_⟩
  · rw [← ints_nums h]; exact hpv.map _
  · rw [List.pairwise_map, List.pairwise_map]
    refine hw.imp_of_mem fun {p q} hpm hqm hr => ?_
    rw [← zip_mem_key h p (hp.mem_iff.mp hpm), ← zip_mem_key h q (hp.mem_iff.mp hqm)]
    exact hr
end
section
open PySem PySem.W PyProof.Rows PyProof.Rows.LCg
theorem TabOk.sub {pos : Pos} {q : Str} {ps : Array Value} {rest rest' : Led} (h : TabOk pos q ps rest) (k : ∀ p ∈ rest, p ∈ rest') : TabOk pos q ps rest' := by
  rcases h with rfl | ⟨c', oc, vs, t, e, hm, r⟩
  · exact .inl rfl
  · exact .inr ⟨c', oc, vs, t, e, k _ hm, r⟩
abbrev QD : Str := (Str.ofString "_law_due" ++ Str.ofString ".<locals>.") ++ Str.ofString "<lambda>"
section
theorem wds_L3a : True := by
  k_with_none
  (k_with "call ref" => (k_here; k_dflt (refine' sp_new (places_c _ _ _ _ _ (by omega) (by omega) (by omega) (by omega)) (by kf1_first) trivial ?_); intro _ _ _ _ _ _ _ _ _; (try dsimp only); (try k_fold)))
  (k_with "eval Lambda" => (k_here; (try k_fold); refine Hold.out ?_))
  (k_with "call builtin:sorted" => (k_here; (try k_fold); refine Hold.out ?_))
  (k_with "exec For Name Call cons nil" => (k_here; (try k_fold); refine Hold.out ?_))
  (k_with "call builtin:len" => (k_here; k_dflt (refine' kun_lenL (isL (by k_asm) (by k_mem)) rfl (by ((simp only [List.size_toArray]; omega))) ?_); (try simp only [List.size_toArray])))
  trivial
/-- each list of the many holds the things due to its places -/
def DueAll (ords : List Int) (ls : List Addr) (nw : Led) : Prop := ∀ (j : Nat) (a : Addr), ls[j]? = some a → ∃ (vs : List Value) (k : Nat) (on : List Int), (a, PySem.W.listOf vs.toArray k) ∈ nw ∧ IntsAre vs on ∧ Due ords (placesL ords.length j) on
inductive DuJ (L' ld : Addr) (oO : Obj) (n0 : Nat) (ords : List Int) (news : Led) (i : Nat) (m : Str → Option Value) (nw : Led) : Prop
  | mk (k : Nat) (ls : List Addr) (ps : Array Value) (rest : Led) (t : Tok) (e : nw = (ld, PySem.W.listOf (ls.map Value.ref).toArray k) :: (L' + 1, oO) :: (181, tabObj ps) :: rest) (hls : ls.length = i) (m1 : m (Str.ofString "size") = some (.int n0 t)) (m2 : m (Str.ofString "due") = some (.ref ld)) (tab : TabOk ⟨145, 52, 145, 79⟩ QD ps rest) (a1 : Apart ld rest) (a2 : Apart (L' + 1) rest) (a3 : Apart 181 rest) (sub : ∀ p ∈ cut 181 news, p ∈ rest) (all : DueAll ords ls rest)
inductive DuePost (ords : List Int) (news : Led) (r : Value) (news' : Led) : Prop
  | mk (ld : Addr) (ls : List Addr) (k : Nat) (e : r = .ref ld) (m : (ld, PySem.W.listOf (ls.map Value.ref).toArray k) ∈ news') (hls : ls.length = 2 * ords.length - 1) (all : DueAll ords ls news') (sub : ∀ p ∈ news, p.1 ≠ 181 → p ∈ news') (tab : ∃ ps, (181, tabObj ps) ∈ news')
theorem due_c (w : World) (lo : Addr) (ords : List Int) (vo : List Value) (ko : Nat) (ho : IntsAre vo ords) (h5 : 5 ≤ ords.length) (h11 : ords.length ≤ 11) :
    Sp w 12 (.ref 186) [.ref lo] (fun news => (lo, PySem.W.listOf vo.toArray ko) ∈ news ∧ lo ≠ 181 ∧ (181, tabObj #[]) ∈ news)
      (DuePost ords) := by
  intro p loose mean mg mb dp un gd cn cs a ccd cl outer A₀ base h₀ L m news s Q E B F X N T c1 c2 hk hdp hu pre hret
  revert X; k_fill; intro X
  refine wpAny_call ?_
  k_dflt (refine' code_defC ?k1 ?k2 ?k3 ?k4 ?k5 ?kA ?kF ?kK ?k6 ?k7 ?k8 ?k9 ?kB ?kD ?_ ?c2 ?c3 ?c4; (case kA => exact rfl); (case kF => exact rfl); (case kK => assumption); (case k1 => k_asm); (case k2 => k_asm); (case k3 => k_asm); (case k4 => k_asm); (case k5 => k_asm); (case k6 => k_is); (case k7 => k_is); (case k8 => ktr_room); (case k9 => exact BindsTo.of_eq rfl); (case kB => exact rfl); (case kD => decide +kernel); (case c2 => exact rfl); (case c3 => exact rfl); (case c4 => exact rfl); k_whole; intro g' L' h' tk' cells' FG' F' N' Y' B' X' T' l1; (try k_lt l1); k_cells Y'; (try simp only [List.cons_append, List.nil_append] at N'); (try dsimp only); (try k_fold))
  have hb0 : Lt0 L' news := l1
  obtain ⟨p1, p2, p3⟩ := pre
  have hvl : vo.length = ords.length := ho.length
  have c1' := CodeHd.keeps c1 FG'.keep
  have c2' := CodeHd.keeps c2 FG'.keep
  k_steps
  refine Hold.mk (for_hold ?_)
  k_steps
  rename_i oO dO _ _ ld _ lt1 _ _ _ _ _ _ _ _ _ hR FF NN hkk
  refine Hold.mk (for_range (n := 2 * ords.length - 1) rfl rfl rfl FF (news := (ld, PySem.W.listOf (([] : List Addr).map Value.ref).toArray 0) :: (L' + 1, oO) :: (181, tabObj #[]) :: cut 181 news) ?_ hR (small_one (by omega) (by omega) (by omega) (by omega)) ?_ (DuJ L' ld oO vo.length ords news) ?_ ?_ ?_)
  rotate_left 3
  · intro I i v m' nw oI h tk E' hi pz1 pz2 offI F4 N4
    obtain ⟨tv, rfl⟩ := pz1
    obtain ⟨k, ls, ps, rest, t, rfl, hls, m1, m2, tab, a1, a2, a3, sub, all⟩ := pz2
    have F5 := canon (x := Str.ofString "j") (canon (x := Str.ofString "due") (canon (x := Str.ofString "size") F4 m1) m2) rfl
    k_steps
    rename_i h9 tk9 F9 lr vp kp hvp hlr N9 _ _
    have hij : (0 + (i : Int) * 1) = (i : Int) := by omega
    rw [hij, hvl] at hvp
    have n1 : (181 : Nat) < ld := allLt_mem lt1.2 _ p3
    have n2 : (181 : Nat) < L' := hb0 _ p3
    have n3 : lr ≠ 181 := fun e => hlr (181, tabObj ps) (by k_mem) e.symm
    have n4 : I ≠ 181 := fun e => offI (181, tabObj ps) (by k_mem) e.symm
    have n5 : lr ≠ ld := fun e => hlr (ld, _) (List.mem_cons_of_mem _ List.mem_cons_self) e.symm
    have n6 : I ≠ ld := fun e => offI (ld, _) List.mem_cons_self e.symm
    have n7 : lr ≠ L' + 1 := fun e => hlr (L' + 1, oO) (by k_mem) e.symm
    have n8 : I ≠ L' + 1 := fun e => offI (L' + 1, oO) (by k_mem) e.symm
    have n9 : lr ≠ I := fun e => hlr (I, oI) List.mem_cons_self e.symm
    have N10 : News g' L' h9 ((181, tabObj ps) :: (lr, PySem.W.listOf vp.toArray kp) :: (I, oI) :: (ld, PySem.W.listOf (ls.map Value.ref).toArray k) :: (L' + 1, oO) :: rest) := news_sub N9 (by (repeat refine sub_cons (by k_mem) ?_); (first | exact sub_nil | exact fun q h9 => by k_mem))
    refine Hold.mk (lam_any (rest0 := rest) (fun q hq => by k_mem) F9 N10 T' c1' rfl (Apart.cons n3 (Apart.cons n4 (Apart.cons (Nat.ne_of_gt n1) (Apart.cons (Nat.ne_of_gt (Nat.lt_succ_of_lt n2)) a3)))) tab rfl rfl ?_)
    intro f c' oc vs1 t1 ctv rest' h10 tk10 F10 N11 hc hc0 d1 d2 sub1 sub2 lt2 lt3 _
    clear N9 F9 N10 F4 N4 F5
    k_steps
    obtain ⟨q1, q2, q3⟩ := places_ok h5 h11 hi
    have hvpl : vp.length = (placesL ords.length i).length := hvp.length
    refine Hold.mk ?_
    with_unfolding_all refine st_sorted (rk := rkOf (placesL ords.length i)) (kz := (placesL ords.length i).map (ordAt ords)) F10 N11 (isL N11 (List.mem_cons_of_mem _ (List.mem_cons_of_mem _ (sub2 _ List.mem_cons_self)))) (by rw [List.length_map]; exact hvpl.symm) (by omega) (rk_ok hvp q1) ?_ ?_
    · intro i2 v2 k2 hv2 hk2 h12 tk12 own F12 N12
      have hn2 : (placesL ords.length i)[i2]? = some (numOf v2) := by rw [← ints_nums hvp, List.getElem?_map, hv2]; rfl
      obtain ⟨n2', t2', rfl⟩ := ints_all hvp v2 (List.mem_of_getElem? hv2)
      have hk3 : k2 = ordAt ords n2' := by
        rw [List.getElem?_map, hn2] at hk2
        exact (Option.some.inj hk2).symm
      have hr2 := q2 n2' (List.mem_of_getElem? hn2)
      simp only [List.cons_append] at N12
      have N14 : News g' L' h12 ((f, _) :: (c', oc) :: (L' + 1, oO) :: (lo, PySem.W.listOf vo.toArray ko) :: (181, _) :: (rest' ++ own)) := news_sub N12 (sub_cons List.mem_cons_self (sub_cons (List.mem_cons_of_mem _ (List.mem_cons_of_mem _ (List.mem_append_left _ hc))) (sub_cons (List.mem_cons_of_mem _ (List.mem_cons_of_mem _ (List.mem_append_left _ (sub2 _ (by k_mem))))) (sub_cons (List.mem_cons_of_mem _ (List.mem_cons_of_mem _ (List.mem_append_left _ (sub2 _ (by have := sub _ (cut_mem p1 p2); k_mem))))) (sub_cons (List.mem_cons_of_mem _ List.mem_cons_self) fun q h9 => List.mem_cons_of_mem _ (List.mem_cons_of_mem _ h9))))))
      clear N12 F10 N11 FF NN
      refine wpAny_call ?_
      k_dflt (refine' kla_code ?k1 ?k2 ?k3 ?k4 ?k5 ?kA ?kF ?kK ?k6 ?k7 ?k8 ?k9 ?kB ?_ ?c2 ?c3 ?c4 ?c5; (case kA => exact rfl); (case kF => exact rfl); (case kK => exact rfl); (case k1 => k_asm); (case k2 => k_asm); (case k3 => k_asm); (case k4 => k_asm); (case k5 => k_asm); (case k6 => k_mem); (case k7 => exact codeRec_news (by k_asm) (by k_mem) (by assumption) (by assumption)); (case k8 => ktr_room); (case k9 => exact rfl); (case c5 => decide); (case kB => exact locs rfl); (case c2 => exact rfl); (case c3 => exact rfl); (case c4 => exact rfl); k_whole; intro g3 L3 h3 FG3 F3 N3 B3 X3 T3; (try dsimp only); (try k_fold))
      k_steps
      rw [hk3]
      exact KskEnd.intro (by assumption) (by assumption) (by (try simp only [List.cons_append]); (repeat refine sub_cons (by k_mem) ?_); (first | exact sub_nil | exact fun q h9 => by k_mem))
    · intro D h13 tk13 out c13 F13 N13 lt4 so
      dsimp only
      have mld : (ld, PySem.W.listOf (ls.map Value.ref).toArray k) ∈ rest' := sub2 _ (by k_mem)
      have mI : (I, oI) ∈ rest' := sub2 _ (by k_mem)
      have mL : (L' + 1, oO) ∈ rest' := sub2 _ (by k_mem)
      have g1 : ld < D := lt4 _ (List.mem_cons_of_mem _ (List.mem_cons_of_mem _ mld))
      have g2 : I < D := lt4 _ (List.mem_cons_of_mem _ (List.mem_cons_of_mem _ mI))
      have g3 : L' + 1 < D := lt4 _ (List.mem_cons_of_mem _ (List.mem_cons_of_mem _ mL))
      have g4 : 181 < D := lt4 _ (List.mem_cons_of_mem _ List.mem_cons_self)
      have g5 : ld < f := lt2 _ mld
      have g6 : I < f := lt2 _ mI
      have g7 : L' + 1 < f := lt2 _ mL
      have h3 : Apart 181 rest' := fun q hq => by
        rcases sub1 q hq with hq | hq
        · exact (Apart.cons n3 (Apart.cons n4 (Apart.cons (Nat.ne_of_gt n1) (Apart.cons (Nat.ne_of_gt (Nat.lt_succ_of_lt n2)) a3)))) q hq
        · exact Nat.ne_of_gt (hq _ List.mem_cons_self)
      have N15 : News g' L' h13 ((I, oI) :: (ld, PySem.W.listOf (ls.map Value.ref).toArray k) :: (L' + 1, oO) :: (181, _) :: (D, PySem.W.listOf out.toList.toArray c13) :: (f, _) :: cut ld (cut (L' + 1) (cut I rest'))) := news_sub N13 (by (repeat refine sub_cons (by k_mem) ?_); exact fun q h9 => (have := cut_sub (cut_sub (cut_sub h9)); by k_mem))
      have e1 : Apart ld (cut ld (cut (L' + 1) (cut I rest'))) := cut_apart _ _
      have e2 : Apart (L' + 1) (cut ld (cut (L' + 1) (cut I rest'))) := fun q hq => cut_apart _ _ q (cut_sub hq)
      have e3 : Apart I (cut ld (cut (L' + 1) (cut I rest'))) := fun q hq => cut_apart _ _ q (cut_sub (cut_sub hq))
      have e4 : Apart 181 (cut ld (cut (L' + 1) (cut I rest'))) := fun q hq => h3 q (cut_sub (cut_sub (cut_sub hq)))
      have hin : ∀ q ∈ rest, q ∈ cut ld (cut (L' + 1) (cut I rest')) := fun q hq => cut_mem (cut_mem (cut_mem (sub2 _ (by k_mem)) (offI q (by k_mem))) (a2 q hq)) (a1 q hq)
      have lt1' : L' + 1 < ld := lt1.1
      clear N13 F10 N11 FF NN
      k_steps
      rename_i tkE hE FE NE
      obtain ⟨on, on1, on2⟩ := sout_due hvp so
      have eP : (List.map Value.ref ls).toArray.push (Value.ref D) = (List.map Value.ref (ls ++ [D])).toArray := by simp
      rw [eP] at NE
      refine Hold.mk ⟨_, _, _, _, rfl, FE, NE, ?_, k + 1, ls ++ [D], _, _, t, rfl, by simp [hls], rfl, rfl, ?_, ?_, ?_, ?_, ?_, ?_⟩
      · exact Apart.cons (Ne.symm n6) (Apart.cons (Ne.symm n8) (Apart.cons (Ne.symm n4) (Apart.cons (Nat.ne_of_gt g2) (Apart.cons (Nat.ne_of_gt g6) e3))))
      · refine .inr ⟨c', oc, vs1, t1, rfl, ?_, d1, d2⟩
        rcases hc0 with hq | hq
        · exact List.mem_cons_of_mem _ (List.mem_cons_of_mem _ (hin _ hq))
        · refine List.mem_cons_of_mem _ (List.mem_cons_of_mem _ (cut_mem (cut_mem (cut_mem hc ?_) ?_) ?_))
          · exact Nat.ne_of_gt (hq (I, oI) (by k_mem))
          · exact Nat.ne_of_gt (hq (L' + 1, oO) (by k_mem))
          · exact Nat.ne_of_gt (hq (ld, PySem.W.listOf (ls.map Value.ref).toArray k) (by k_mem))
      · exact Apart.cons (Nat.ne_of_gt g1) (Apart.cons (Nat.ne_of_gt g5) e1)
      · exact Apart.cons (Nat.ne_of_gt g3) (Apart.cons (Nat.ne_of_gt g7) e2)
      · exact Apart.cons (Nat.ne_of_gt g4) (Apart.cons (Nat.ne_of_gt lt3) e4)
      · exact fun q hq => List.mem_cons_of_mem _ (List.mem_cons_of_mem _ (hin _ (sub q hq)))
      · intro j a' hj
        rw [List.getElem?_append] at hj
        split at hj
        · obtain ⟨vs9, k9, on9, z1, z2, z3⟩ := all j a' hj
          exact ⟨vs9, k9, on9, List.mem_cons_of_mem _ (List.mem_cons_of_mem _ (hin _ z1)), z2, z3⟩
        · rename_i hge
          have hj0 : j - ls.length = 0 := by
            cases hz : j - ls.length with
            | zero => rfl
            | succ x => rw [hz] at hj; simp at hj
          rw [hj0] at hj
          have : j = i := by omega
          subst this
          cases hj
          exact ⟨out.toList, c13, on, List.mem_cons_self, on1, on2⟩
  · rintro h tk m' nw F4 N4 ⟨k, ls, ps, rest, t, rfl, hls, m1, m2, tab, a1, a2, a3, sub, all⟩
    have F5 := canon F4 m2
    dsimp only
    k_steps
    exact hret _ _ _ _ (by assumption) (by assumption) ⟨ld, ls, k, rfl, List.mem_cons_self, hls, fun j a' hj => by
      obtain ⟨vs9, k9, on9, z1, z2, z3⟩ := all j a' hj
      exact ⟨vs9, k9, on9, List.mem_cons_of_mem _ (List.mem_cons_of_mem _ (List.mem_cons_of_mem _ z1)), z2, z3⟩, fun q hq hne => List.mem_cons_of_mem _ (List.mem_cons_of_mem _ (List.mem_cons_of_mem _ (sub q (cut_mem hq hne)))), ps, List.mem_cons_of_mem _ (List.mem_cons_of_mem _ List.mem_cons_self)⟩
  · exact news_sub NN (by (repeat refine sub_cons (by k_mem) ?_); exact fun q h9 => (have := cut_sub h9; by k_mem))
  · have e9 : (2 * (ords.length : Int) - 1) = ((2 * ords.length - 1 : Nat) : Int) := by omega
    rw [e9, rangeSize_nat]; simp
  · exact ⟨0, [], #[], cut 181 news, _, rfl, rfl, rfl, rfl, .inl rfl, fun q hq => Nat.ne_of_lt (allLt_mem lt1.2 q (cut_sub hq)), fun q hq => Nat.ne_of_lt (Nat.lt_succ_of_lt (hb0 q (cut_sub hq))), cut_apart _ _, fun q hq => hq, fun j a' hj => by simp at hj⟩
end
theorem wde_L3 : True := by
  k_with_none
  trivial
end
section
open PySem PySem.W PyProof.Rows PyProof.Rows.LCg
theorem strs_signs : ∀ (us : List Value) (ys : List Nat), us.length = ys.length → (∀ (j : Nat) (v : Value), us[j]? = some v → ∃ (c : Nat) (u : Tok), ys[j]? = some c ∧ v = .str (sg [c]) u) → StrsAre us (ys.map fun c => sg [c])
  | [], [], _, _ => .nil
  | [], _ :: _, h, _ => by simp at h
  | _ :: _, [], h, _ => by simp at h
  | v :: us, y :: ys, h, k => by
    obtain ⟨c, u, e, rfl⟩ := k 0 v rfl
    cases e
    exact .cons _ u (strs_signs us ys (by simpa using h) fun j v hv => k (j + 1) v hv)
section
variable {prog : Program} {w : World} {A : Around} {E : Value → Shared → Prop} {s : Shared} {h₀ : Heap} {L : Addr} {m : Str → Option Value} {news news' : Led} {Q : Value → Shared → Prop}
theorem pop0_led {D : Addr} {v : Value} {vs : List Value} {n : Nat} {u : Tok} (F : Fr h₀ L s.heap m) (N : News h₀ L s.heap news) (U : Upd D (PySem.W.listOf (v :: vs).toArray n) (PySem.W.listOf vs.toArray (n + 1)) news news') (hz : vs.length ≤ 2000)
    (h : ∀ h', Fr h₀ L h' m → News h₀ L h' news' → Q v { s with heap := h' }) : wpAny (model prog w) A (call (.builtin "list.pop") [.ref D, .int 0 u]) Q E s := by
  refine kl_popAt (k := 0) (p := []) (y := v) (q := vs) F N rfl ?_ rfl U (by rw [sizeLine_eq]; show (v :: vs).length ≤ _; rw [List.length_cons]; omega) h
  unfold seqIndex?
  simp
theorem list_led {x : List Nat} {t : Tok} (hh : A.handled = none) (F : Fr h₀ L s.heap m) (N : News h₀ L s.heap news) (hx : x.length ≤ 2000)
    (h : ∀ D us c h' tk, Fr h₀ L h' m → News h₀ L h' ((D, PySem.W.listOf (List.toArray us) c) :: news) → (∀ p ∈ news, p.1 < D) → StrsAre us (x.map fun c => sg [c]) → Q (.ref D) { s with heap := h', toks := tk }) :
    wpAny (model prog w) A (call (.type "list") [.str (sg x) t]) Q E s := by
  refine call_list_str hh (sg x) t (hn := by show x.toArray.size ≤ _; rw [List.size_toArray, sizeLine_eq]; omega) fun h' tk acc c hk hD hI => ?_
  have hD' : h'.get? s.heap.objs.size = some (PySem.W.listOf (List.toArray acc.toList) c) := by
    rw [Array.toArray_toList]
    exact hD
  refine h _ acc.toList c h' tk (F.keeps hk) (news_pushed F N hk hD' rfl) (fun p hp => Heap.lt_size (N p hp).1) (strs_signs _ _ ?_ fun j v hj => ?_)
  · rw [Array.length_toList, hI.1]; simp [sg]
  · obtain ⟨c, u, hc, rfl⟩ := hI.2 j v (by rw [← hj, Array.getElem?_toList])
    exact ⟨c, u, by simpa [sg] using hc, rfl⟩
end
theorem take_min {xs : List Nat} {ys : List Value} {f : Nat → Str} (h : StrsAre ys ((xs.take (min 1 xs.length)).map f)) : StrsAre ys ((xs.take 1).map f) := by
  cases xs with
  | nil => exact h
  | cons c xs => rwa [Nat.min_eq_left (by simp)] at h
/-- the tape's read(1): the first sign goes -/
def ReadOk (w : World) (fr sl : Addr) (lamO : Obj) (ca : Addr) (oC : Obj) (c' : Addr) (oc : Obj) : Prop :=
  ∀ (t : Tok) (sv : List Value) (xs : List Nat) (ks : Nat) (rest : Led), xs.length ≤ 2000 → StrsAre sv (xs.map fun c => sg [c]) → Apart sl rest → (fr, lamO) ∈ rest → (ca, oC) ∈ rest → (c', oc) ∈ rest →
    Sp w 6 (.ref fr) [.int 1 t] (fun news => news = (sl, PySem.W.listOf sv.toArray ks) :: rest) (fun _ r news' => ∃ t' ks', r = .str (sg (xs.take 1)) t' ∧ news' = (sl, PySem.W.listOf (sv.drop 1).toArray ks') :: rest)
theorem with_read {w : World} {fr sl ca c' : Addr} {lamO oC oc : Obj} {rest : Led} {h₀ h : Heap} {L : Addr} {G : Prop} (_N : News h₀ L h ((fr, lamO) :: rest)) (k : ReadOk w fr sl lamO ca oC c' oc) (g : ReadOk w fr sl lamO ca oC c' oc → G) : G := g k
theorem sliceTo1 (vs : List Value) : (slicePick vs.toArray none (some 1) none).toList = vs.take 1 := by
  have := slicePick_upto' vs.toArray 1
  rw [show (1 : Int) = ((1 : Nat) : Int) from rfl, this]
theorem in_news {a : Addr} {o : Obj} {l : Led} {h₀ h : Heap} {L : Addr} {G : Prop} (_N : News h₀ L h l) (hm : (a, o) ∈ l) (k : ∀ o', o' = o ∧ (a, o') ∈ l → G) : G := k o ⟨rfl, hm⟩
def Tape (w : World) (sl tp : Addr) (nw : Led) : Prop := ∃ dt e1 pbt kt kr fr lamO ca oC c' oc, (tp, instObj 59 dt) ∈ nw ∧ (dt, dictOf (e1 ++ [ent w "read" kr (.ref fr)]) kt) ∈ nw ∧ LexE w 1 .none pbt e1 ∧ (fr, lamO) ∈ nw ∧ (∃ fd, lamO.data = .func fd) ∧ (ca, oC) ∈ nw ∧ (c', oc) ∈ nw ∧ ReadOk w fr sl lamO ca oC c' oc ∧ (∃ v, oC.data = .cell (some v)) ∧ (∃ vs, oc.data = .fields vs)
/-- what of a line stands still -/
structure Stat (w : World) (x tp pb dx sl : Addr) (rest : Led) : Prop where
  inst : (x, instObj 59 dx) ∈ rest
  tape : Tape w sl tp rest
  apb : Apart pb rest
  adx : Apart dx rest
  asl : Apart sl rest
  n1 : pb ≠ dx
  n2 : pb ≠ sl
  n3 : dx ≠ sl
/-- what of a line moves -/
inductive Mut (w : World) (tp pb dx sl : Addr) (K : Int) (xs : List Nat) (pv : List Value) (rest nn : Led) : Prop
  | mk (es : List DictEntry) (ln : Int) (ks kp : Nat) (sv : List Value) (e : nn = (pb, PySem.W.listOf (List.toArray pv) kp) :: (dx, dictOf es 4) :: (sl, PySem.W.listOf (List.toArray sv) ks) :: rest) (hE : LexE w ln (.ref tp) pb es) (hK : ln + ((xs.count 10 : Nat) : Int) = K) (hsv : StrsAre sv (xs.map fun c => sg [c])) (hxs : xs.length ≤ 2000)
abbrev QL : Str := (Str.ofString "_law_lexer" ++ Str.ofString ".<locals>.") ++ Str.ofString "<lambda>"
section
theorem wds_L4a : True := by
  k_with_none
  (k_with "call ref" => (k_here; k_dflt (refine' sp_at (new_c _ _) (by kf1_first) trivial ?_); (intro _ _ _ _ _ _ P9; obtain ⟨_, _, _, _, e9, e9p, _, _, _, _⟩ := P9; subst e9 e9p); (try dsimp only); (try k_fold)))
  (k_with "call type:list" => (k_here; (with_reducible show wpAny _ _ (call (Value.type _) [Value.str _ _]) _ _ _); k_dflt (refine' list_led rfl (by k_asm) (by k_asm) (by assumption) ?_); intro _ _ _ _ _ _ _ l1 _; revert l1; kpr_short))
  (k_with "call builtin:list.pop" => (k_here; (with_reducible show wpAny _ _ (call (Value.builtin _) [Value.ref _, Value.int _ _]) _ _ _); k_dflt (refine' pop0_led (by k_asm) (by k_asm) (by k_upd) (by omega) ?_); intro _ _ N'; (try dsimp only [List.nil_append, List.cons_append] at N'); (try (revert N'; intro _))))
  (k_with "eval ListComp" => (k_here; k_dflt (refine comp_hold (F₀ := by k_asm) (by with_unfolding_all rfl) (by decide) (by rfl) (by decide) (by rfl) ?_)))
  (k_with "subscriptTail Name Slice ref ref" => (k_here; (with_reducible show wpAny _ _ (subscriptTail _ (PySem.Expr.Slice _ _ none _) (Value.ref _) (Value.ref _)) _ _ _); k_dflt (refine' kmk_slice_lit (by k_asm) (by k_asm) (by (exact isL (by k_asm) (by k_mem))) (by kmk_part) (by kmk_part) (by (exact sliceTo1 _)) ?_ (by (with_unfolding_all rfl)) (by kmk_pure) (by ((simp only [List.size_toArray, sizeLine]; omega)))); intro _ _ _ _; kpr_short))
  (k_with "eval Lambda" => (k_here; (try k_fold); refine Hold.out ?_))
  trivial
inductive LexPost (w : World) (x : List Nat) (ps : Array Value) (rest : Led) (r : Value) (news' : Led) : Prop
  | mk (xl tp pb dx sl : Addr) (ps' : Array Value) (restF nn : Led) (e1 : r = .ref xl) (S : Stat w xl tp pb dx sl restF) (M : Mut w tp pb dx sl (1 + ((x.count 10 : Nat) : Int)) x [] restF nn) (e2 : news' = (124, tabObj ps') :: nn) (ap : Apart 124 nn) (hps : (ps = #[] ∨ ps' = ps) ∧ ps' ≠ #[]) (tab : TabOk ⟨102, 16, 102, 77⟩ QL ps' restF) (sub : ∀ p ∈ rest, p ∈ restF)
theorem lexer_c (w : World) (x : List Nat) (t : Tok) (hx : x.length ≤ 2000) (ps : Array Value) (rest : Led) (h124 : Apart 124 rest) (tab : TabOk ⟨102, 16, 102, 77⟩ QL ps rest) :
    Sp w 12 (.ref 129) [.str (sg x) t] (fun news => news = (124, tabObj ps) :: rest)
      (fun _ => LexPost w x ps rest) := by
  intro p loose mean mg mb dp un gd cn cs a ccd cl outer A₀ base h₀ L m news s Q E B F X N T c1 c2 hk hdp hu pre hret
  revert X; k_fill; intro X
  refine wpAny_call ?_
  k_dflt (refine' code_defC ?k1 ?k2 ?k3 ?k4 ?k5 ?kA ?kF ?kK ?k6 ?k7 ?k8 ?k9 ?kB ?kD ?_ ?c2 ?c3 ?c4; (case kA => exact rfl); (case kF => exact rfl); (case kK => assumption); (case k1 => k_asm); (case k2 => k_asm); (case k3 => k_asm); (case k4 => k_asm); (case k5 => k_asm); (case k6 => k_is); (case k7 => k_is); (case k8 => ktr_room); (case k9 => exact BindsTo.of_eq rfl); (case kB => exact rfl); (case kD => decide +kernel); (case c2 => exact rfl); (case c3 => exact rfl); (case c4 => exact rfl); k_whole; intro g' L' h' tk' cells' FG' F' N' Y' B' X' T' l1; (try k_lt l1); k_cells Y'; (try simp only [List.cons_append, List.nil_append] at N'); (try dsimp only); (try k_fold))
  have hb0 : Lt0 L' news := l1
  have c1' := CodeHd.keeps c1 FG'.keep
  have c2' := CodeHd.keeps c2 FG'.keep
  subst pre
  k_steps
  rename_i oS _ sl us ks _ _ hus lt1 _ oC dC _ h9 tk9 tp dt pbt e1 hE l91 l92 l93 _ _ h10 F10 N10
  have N11 : News g' L' h10 ((124, tabObj ps) :: (pbt, PySem.W.listOf #[] 0) :: (tp, instObj 59 dt) :: (dt, dictOf e1 4) :: (sl, PySem.W.listOf us.toArray ks) :: (L' + 1, oC) :: rest) := news_sub N10 (by (repeat refine sub_cons (by k_mem) ?_); (first | exact sub_nil | exact fun q h9 => by k_mem))
  have n1 : (124 : Nat) < L' := hb0 _ List.mem_cons_self
  have n2 : L' + 1 < sl := lt1.1
  have n3 : sl < dt := l91 _ List.mem_cons_self
  have n4 : (124 : Nat) < sl := lt1.2.1
  have n5 : L' + 1 < dt := l91 _ (List.mem_cons_of_mem _ List.mem_cons_self)
  have n6 : (124 : Nat) < dt := Nat.lt_trans n4 n3
  have n7 : (124 : Nat) < tp := Nat.lt_trans n6 l92
  have n8 : (124 : Nat) < pbt := Nat.lt_trans n7 l93
  refine Hold.mk (lam_any (rest0 := rest) (fun q hq => by k_mem) F10 N11 T' c2' rfl (Apart.cons (Nat.ne_of_gt n8) (Apart.cons (Nat.ne_of_gt n7) (Apart.cons (Nat.ne_of_gt n6) (Apart.cons (Nat.ne_of_gt n4) (Apart.cons (Nat.ne_of_gt (Nat.lt_succ_of_lt n1)) h124))))) tab rfl rfl ?_)
  intro f c' oc vs1 t1 ctv rest' h11 tk11 F11 N12 hc hc0 d1 d2 sub1 sub2 lt2 lt3 hps
  clear F10 N11 N10
  refine with_read (w := w) (sl := sl) (ca := L' + 1) (oC := oC) (c' := c') (oc := oc) N12 ?_ fun hread => ?_
  · clear hus lt1 hE l91 l92 l93 n1 n3 n4 n5 n6 n7 n8 F11 N12 hc hc0 sub1 sub2 lt2 lt3 B' X' T' c1' c2' FG' l1 hb0 h124 tab hx hret B F X N T c1 c2 hk hdp hu
    intro t sv xs ks rest2 hxs hsv a1 mf mc mcc
    intro p loose mean mg mb dp un gd cn cs a ccd cl outer A₀ base h₀ L m news s Q E B F X N T c1 c2 hk hdp hu pre hret
    subst pre
    have N2 : News h₀ L s.heap ((f, _) :: (c', oc) :: (L' + 1, oC) :: (sl, PySem.W.listOf sv.toArray ks) :: rest2) := news_sub N (by (repeat refine sub_cons (by k_mem) ?_); (first | exact sub_nil | exact fun q h9 => by k_mem))
    revert X; k_fill; intro X
    refine wpAny_call ?_
    k_dflt (refine' kla_code ?k1 ?k2 ?k3 ?k4 ?k5 ?kA ?kF ?kK ?k6 ?k7 ?k8 ?k9 ?kB ?_ ?c2 ?c3 ?c4 ?c5; (case kA => exact rfl); (case kF => exact rfl); (case kK => assumption); (case k1 => exact B); (case k2 => exact F); (case k3 => exact X); (case k4 => exact N2); (case k5 => exact T); (case k6 => k_mem); (case k7 => exact codeRec_news N2 (by k_mem) (by assumption) (by assumption)); (case k8 => ktr_room); (case k9 => exact rfl); (case c5 => decide); (case kB => exact locs rfl); (case c2 => exact rfl); (case c3 => exact rfl); (case c4 => exact rfl); k_whole; intro g3 L3 h3 FG3 F3 N3 B3 X3 T3; (try dsimp only); (try k_fold))
    clear N N2
    have hsl : sv.length = xs.length := by have := hsv.length; rwa [List.length_map] at this
    k_steps
    rename_i D4 h4 F4 N4 l4
    have nsD : sl < D4 := l4.2.2.2.1
    have N5 : News g3 L3 h4 ((sl, PySem.W.listOf (sv.drop 0).toArray ks) :: (D4, PySem.W.listOf (sv.take 1).toArray 0) :: (L' + 1, oC) :: rest2) := news_sub N4 (by (try simp only [List.drop_zero]); (repeat refine sub_cons (by k_mem) ?_); (first | exact sub_nil | exact fun q h9 => by k_mem))
    refine Hold.mk (CompSrc.ledger rfl F4 N5 (List.mem_cons_of_mem _ List.mem_cons_self) (by rw [List.size_toArray, List.length_take, sizeLine_eq]; omega) fun gg => rest_ind (fun i ys nw => ∃ ks', nw = (sl, PySem.W.listOf (sv.drop i).toArray ks') :: (D4, PySem.W.listOf (sv.take 1).toArray 0) :: (L' + 1, oC) :: rest2 ∧ StrsAre ys ((xs.take i).map fun c => sg [c])) ?_ ?_ _ 0 [] _ (Nat.zero_add _) ⟨_, rfl, .nil⟩)
    · rintro i ys nw hi ⟨ks', rfl, hys⟩ v I oI C oC2 D m₂ h tk E' hP hN hm F2 N2 o3 ne
      clear N4 F4 N5 N3 F3
      cases xs with
      | nil => cases sv with
        | nil => exact absurd hi (by simp)
        | cons _ _ => simp at hsl
      | cons c xs => cases sv with
        | nil => simp at hsl
        | cons v0 vs =>
        have hi0 : i = 0 := by simp at hi; exact hi
        subst hi0
        have hc0 : ∃ t0, v0 = .str (sg [c]) t0 ∧ StrsAre vs (xs.map fun c => sg [c]) := by
          cases hsv with
          | cons _ t0 r => exact ⟨t0, rfl, r⟩
        obtain ⟨t0, rfl, hvs⟩ := hc0
        have hvl : vs.length ≤ 2000 := by simp only [List.length_cons] at hsl hxs; omega
        simp only [List.drop_zero] at N2
        obtain ⟨o31, o32, o33⟩ := o3.1
        k_steps
        rename_i hE FE NE
        refine Hold.mk (CompEnd.intro FE NE _ (fun _ h => h) ⟨⟨o31, o32, o33⟩, o3.2⟩ (.inr ⟨_, List.mem_cons_of_mem _ List.mem_cons_self, rfl, _, rfl⟩) ⟨_, rfl, ?_⟩)
        exact strs_snoc _ _ hys
    · rintro ys nw ⟨ks', rfl, hys⟩ D h tk F3 N3 o1
      dsimp only
      k_steps
      have hs1 : ∀ y ∈ (xs.take 1).map (fun c => [c]), y.length ≤ 1 := fun y hy => by
        obtain ⟨c, _, rfl⟩ := List.mem_map.mp hy
        exact Nat.le_refl _
      have hs := sum_le 1 _ hs1
      have hk : (sv.take 1).toArray.size = min 1 xs.length := by rw [List.size_toArray, List.length_take, hsl]
      rw [hk] at hys N3
      refine join_c (xs := (xs.take 1).map (fun c => [c])) c0 ⟨_, (N3 _ (List.mem_cons_self ..)).1, rfl, _, rfl⟩ (by rw [List.map_map]; exact take_min hys) (by simp only [List.length_map, List.length_take, List.length_nil] at hs ⊢; omega) fun t' k hk' => ?_
      dsimp only
      k_steps
      rename_i kN _ _
      have e : joinL [] ((xs.take 1).map (fun c => [c])) = xs.take 1 := by rw [joinL_nil]; cases xs <;> rfl
      rw [e]
      have e2 : sv.drop (min 1 xs.length) = sv.drop 1 := by
        cases xs with
        | nil => cases sv with
          | nil => rfl
          | cons _ _ => simp at hsl
        | cons _ _ => rw [Nat.min_eq_left (by simp)]
      rw [e2] at kN
      exact hret _ ((sl, PySem.W.listOf (sv.drop 1).toArray ks') :: rest2) _ _ (by assumption) (news_sub kN (by (repeat refine sub_cons (by k_mem) ?_); (first | exact sub_nil | exact fun q h9 => by k_mem))) ⟨_, _, rfl, rfl⟩
  obtain ⟨k1, k2, k3, k4, u1, u3, rfl⟩ := hE
  have mdt : (dt, dictOf _ 4) ∈ rest' := sub2 _ (List.mem_cons_of_mem _ (List.mem_cons_of_mem _ List.mem_cons_self))
  have mtp : (tp, instObj 59 dt) ∈ rest' := sub2 _ (List.mem_cons_of_mem _ List.mem_cons_self)
  have n9 : dt < f := lt2 _ mdt
  have N13 : News g' L' h11 ((dt, dictOf _ 4) :: (tp, instObj 59 dt) :: (f, _) :: (124, _) :: cut dt rest') := news_sub N12 (by (repeat refine sub_cons (by k_mem) ?_); exact fun q h9 => (have := cut_sub h9; by k_mem))
  have e1 : Apart dt (cut dt rest') := cut_apart _ _
  clear N12
  have mtab : Apart 124 rest' := fun q hq => by
    rcases sub1 q hq with hq | hq
    · exact (Apart.cons (Nat.ne_of_gt n8) (Apart.cons (Nat.ne_of_gt n7) (Apart.cons (Nat.ne_of_gt n6) (Apart.cons (Nat.ne_of_gt n4) (Apart.cons (Nat.ne_of_gt (Nat.lt_succ_of_lt n1)) h124))))) q hq
    · exact Nat.ne_of_gt (hq _ List.mem_cons_self)
  have msl : (sl, _) ∈ rest' := sub2 _ (List.mem_cons_of_mem _ (List.mem_cons_of_mem _ (List.mem_cons_of_mem _ List.mem_cons_self)))
  have mcl : (L' + 1, oC) ∈ rest' := sub2 _ (List.mem_cons_of_mem _ (List.mem_cons_of_mem _ (List.mem_cons_of_mem _ (List.mem_cons_of_mem _ List.mem_cons_self))))
  have mrest : ∀ q ∈ rest, q ∈ cut sl (cut dt rest') := fun q hq => by
    have h1 : q.1 < L' := hb0 q (List.mem_cons_of_mem _ hq)
    have h2 : q.1 < sl := Nat.lt_trans h1 (Nat.lt_trans (Nat.lt_succ_self _) n2)
    exact cut_mem (cut_mem (sub2 q (by k_mem)) (Nat.ne_of_lt (Nat.lt_trans h2 n3))) (Nat.ne_of_lt h2)
  have mc' : (c', oc) ∈ cut sl (cut dt rest') := by
    rcases hc0 with h | h
    · exact mrest _ h
    · exact cut_mem (cut_mem hc (Nat.ne_of_gt (h (dt, _) (by k_mem)))) (Nat.ne_of_gt (h (sl, _) (by k_mem)))
  have mcl' : (L' + 1, oC) ∈ cut sl (cut dt rest') := cut_mem (cut_mem mcl (Nat.ne_of_lt n5)) (Nat.ne_of_lt n2)
  have msl' : (sl, PySem.W.listOf us.toArray ks) ∈ cut dt rest' := cut_mem msl (Nat.ne_of_lt n3)
  have nslf : sl < f := lt2 _ msl
  k_steps
  rename_i hQ FQ NQ h9 tk9 F9 xn dn pn es hEn l91n l92n l93n N9 kF kN kT kX
  have lrest : ∀ q ∈ cut sl (cut dt rest'), q.1 < dn := fun q hq => l91n q (by simp [cut_sub hq])
  have z1 : dt < dn := l91n (dt, _) (by k_mem)
  have z2 : tp < dn := l91n (tp, _) (by k_mem)
  have z3 : f < dn := l91n (f, _) (by k_mem)
  have z4 : sl < dn := l91n (sl, _) (by k_mem)
  have z5 : 124 < dn := l91n (124, _) (by k_mem)
  refine in_news kN (a := dt) (by k_mem) fun oD hD => ?_
  refine in_news kN (a := f) (by k_mem) fun oF hF => ?_
  obtain ⟨kr, hkr⟩ : ∃ kr, oD = dictOf ([ent w "lineno" k1 (.int 1 u1), ent w "instream" k2 .none, ent w "whitespace" k3 (.str (Str.ofString "\n\t\x0d ") u3), ent w "pushback" k4 (.ref pbt)] ++ [ent w "read" kr (.ref f)]) 5 := ⟨_, hD.1⟩
  refine hret _ _ _ _ kF (fun q hq => ?_) ⟨xn, tp, pn, dn, sl, _, (xn, instObj 59 dn) :: (dt, oD) :: (tp, instObj 59 dt) :: (f, oF) :: cut sl (cut dt rest'), _, rfl, ?_, ⟨_, _, ks, 0, _, rfl, hEn, rfl, hus, hx⟩, rfl, ?_, ?_, .inr ⟨c', oc, vs1, t1, rfl, by k_mem, d1, d2⟩, fun q hq => List.mem_cons_of_mem _ (List.mem_cons_of_mem _ (List.mem_cons_of_mem _ (List.mem_cons_of_mem _ (mrest q hq))))⟩
  · refine kN q ?_
    simp only [List.mem_cons] at hq ⊢
    rcases hq with rfl | rfl | rfl | rfl | rfl | rfl | rfl | rfl | hq
    · exact .inr (.inr (.inr (.inr (.inr (.inr (.inl rfl))))))
    · exact .inl rfl
    · exact .inr (.inr (.inl rfl))
    · exact .inr (.inr (.inr (.inr (.inr (.inr (.inr msl'))))))
    · exact .inr (.inl rfl)
    · rw [hD.1]; exact .inr (.inr (.inr (.inl rfl)))
    · exact .inr (.inr (.inr (.inr (.inl rfl))))
    · rw [hF.1]; exact .inr (.inr (.inr (.inr (.inr (.inl rfl)))))
    · exact .inr (.inr (.inr (.inr (.inr (.inr (.inr (cut_sub hq)))))))
  · refine ⟨List.mem_cons_self, ⟨dt, [ent w "lineno" k1 (.int 1 u1), ent w "instream" k2 .none, ent w "whitespace" k3 (.str (Str.ofString "\n\t\x0d ") u3), ent w "pushback" k4 (.ref pbt)], pbt, 5, kr, f, oF, L' + 1, oC, c', oc, by k_mem, ?_, ⟨_, _, _, _, _, _, rfl⟩, by k_mem, by rw [hF.1]; exact ⟨_, rfl⟩, by k_mem, by k_mem, ?_, ⟨_, dC⟩, ⟨_, d1⟩⟩, ?_, ?_, ?_, Nat.ne_of_gt (Nat.lt_trans l92n l93n), Nat.ne_of_gt (Nat.lt_trans z4 (Nat.lt_trans l92n l93n)), Nat.ne_of_gt z4⟩
    · rw [hkr]; exact List.mem_cons_of_mem _ List.mem_cons_self
    · rw [hF.1]; exact hread
    · exact Apart.cons (Nat.ne_of_lt l93n) (Apart.cons (Nat.ne_of_lt (Nat.lt_trans z1 (Nat.lt_trans l92n l93n))) (Apart.cons (Nat.ne_of_lt (Nat.lt_trans z2 (Nat.lt_trans l92n l93n))) (Apart.cons (Nat.ne_of_lt (Nat.lt_trans z3 (Nat.lt_trans l92n l93n))) fun q hq => Nat.ne_of_lt (Nat.lt_trans (lrest q hq) (Nat.lt_trans l92n l93n)))))
    · exact Apart.cons (Nat.ne_of_gt l92n) (Apart.cons (Nat.ne_of_lt z1) (Apart.cons (Nat.ne_of_lt z2) (Apart.cons (Nat.ne_of_lt z3) fun q hq => Nat.ne_of_lt (lrest q hq))))
    · exact Apart.cons (Nat.ne_of_gt (Nat.lt_trans z4 l92n)) (Apart.cons (Nat.ne_of_gt n3) (Apart.cons (Nat.ne_of_gt (Nat.lt_trans n3 l92)) (Apart.cons (Nat.ne_of_gt nslf) (cut_apart _ _))))
  · exact Apart.cons (Nat.ne_of_gt (Nat.lt_trans z5 (Nat.lt_trans l92n l93n))) (Apart.cons (Nat.ne_of_gt z5) (Apart.cons (Nat.ne_of_gt n4) (Apart.cons (Nat.ne_of_gt (Nat.lt_trans z5 l92n)) (Apart.cons (Nat.ne_of_gt n6) (Apart.cons (Nat.ne_of_gt n7) (Apart.cons (Nat.ne_of_gt lt3) fun q hq => mtab q (cut_sub (cut_sub hq))))))))
  · exact ⟨hps.imp id Eq.symm, by simp⟩
end
theorem wde_L4 : True := by
  k_with_none
  trivial
end
section
def wsp (c : Nat) : Bool := c == 10 || c == 9 || c == 13 || c == 32
def lexQ : List Nat → List Nat × List Nat
  | [] => ([], [])
  | c :: r => if c = 34 then ([], r) else if c = 92 then
      match r with
      | [] => ([], [])
      | d :: r' => (d :: (lexQ r').1, (lexQ r').2)
    else (c :: (lexQ r).1, (lexQ r).2)
def lexW : List Nat → List Nat × List Nat
  | [] => ([], [])
  | c :: r => if wsp c then ([], r) else if c = 92 then
      match r with
      | [] => ([], [])
      | d :: r' => (d :: (lexW r').1, (lexW r').2)
    else (c :: (lexW r).1, (lexW r).2)
def lexT : List Nat → List Nat × List Nat
  | [] => ([], [])
  | c :: r => if wsp c then lexT r else if c = 34 then lexQ r else if c = 92 then
      match r with
      | [] => ([], [])
      | d :: r' => (d :: (lexW r').1, (lexW r').2)
    else (c :: (lexW r).1, (lexW r).2)
theorem lexQ_end (r : List Nat) : lexQ (34 :: r) = ([], r) := by cases r <;> simp [lexQ]
theorem lexQ_bs (d : Nat) (r : List Nat) : lexQ (92 :: d :: r) = (d :: (lexQ r).1, (lexQ r).2) := by simp [lexQ]
theorem lexQ_c {c : Nat} (r : List Nat) (h1 : c ≠ 34) (h2 : c ≠ 92) : lexQ (c :: r) = (c :: (lexQ r).1, (lexQ r).2) := by cases r <;> simp [lexQ, h1, h2]
theorem lexW_end {c : Nat} (r : List Nat) (h : wsp c = true) : lexW (c :: r) = ([], r) := by cases r <;> simp [lexW, h]
theorem lexW_b (d : Nat) (r : List Nat) : lexW (92 :: d :: r) = (d :: (lexW r).1, (lexW r).2) := by simp [lexW, wsp]
theorem lexW_c {c : Nat} (r : List Nat) (h1 : wsp c = false) (h2 : c ≠ 92) : lexW (c :: r) = (c :: (lexW r).1, (lexW r).2) := by cases r <;> simp [lexW, h1, h2]
theorem lexT_ws {c : Nat} (r : List Nat) (h : wsp c = true) : lexT (c :: r) = lexT r := by cases r <;> simp [lexT, h]
theorem lexT_q (r : List Nat) : lexT (34 :: r) = lexQ r := by cases r <;> simp [lexT, wsp]
theorem lexT_b (d : Nat) (r : List Nat) : lexT (92 :: d :: r) = (d :: (lexW r).1, (lexW r).2) := by simp [lexT, wsp]
theorem lexT_c {c : Nat} (r : List Nat) (h1 : wsp c = false) (h2 : c ≠ 92) (h3 : c ≠ 34) : lexT (c :: r) = (c :: (lexW r).1, (lexW r).2) := by cases r <;> simp [lexT, h1, h2, h3]
theorem lexQ_esc : ∀ (x rest : List Nat), lexQ (esc x ++ 34 :: rest) = (x, rest)
  | [], rest => lexQ_end rest
  | c :: r, rest => by
    have ih := lexQ_esc r rest
    unfold esc
    by_cases h : c = 92 ∨ c = 34
    · rw [if_pos h]
      show lexQ (92 :: c :: (esc r ++ 34 :: rest)) = _
      rw [lexQ_bs, ih]
    · rw [if_neg h]
      show lexQ (c :: (esc r ++ 34 :: rest)) = _
      rw [lexQ_c _ (fun e => h (.inr e)) (fun e => h (.inl e)), ih]
theorem lexW_bs : ∀ (h rest : List Nat), lexW (h.flatMap (fun c => [92, c]) ++ 10 :: rest) = (h, rest)
  | [], rest => lexW_end rest rfl
  | c :: r, rest => by
    have ih := lexW_bs r rest
    show lexW (92 :: c :: (r.flatMap (fun c => [92, c]) ++ 10 :: rest)) = _
    rw [lexW_b, ih]
theorem header_one (x : List Nat) : header [x] = 34 :: (esc x ++ [34]) := rfl
theorem lexT_word (n : Int) (x rest : List Nat) : lexT (word n x ++ rest) = (header [x], rest) := by
  unfold word
  split
  · show lexT (34 :: ((esc (header [x]) ++ [34]) ++ rest)) = _
    rw [lexT_q, List.append_assoc]
    exact lexQ_esc _ _
  · rw [header_one, List.flatMap_cons]
    show lexT (92 :: 34 :: (((esc x ++ [34]).flatMap (fun c => [92, c]) ++ [10]) ++ rest)) = _
    rw [lexT_b, List.append_assoc]
    have e := lexW_bs (esc x ++ [34]) rest
    rw [show [10] ++ rest = 10 :: rest from rfl, e]
theorem lexT_z : lexT [122] = ([122], []) := by decide
/-- parse_http_list ahead of the strip -/
def parseL : Bool → Bool → List Nat → List Nat → List (List Nat)
  | _, _, part, [] => if part = [] then [] else [part]
  | e, q, part, c :: r =>
    if e = true then parseL false q (part ++ [c]) r
    else if q = true then (if c = 92 then parseL true q part r else if c = 34 then parseL e false (part ++ [c]) r else parseL e q (part ++ [c]) r)
    else if c = 44 then part :: parseL e q [] r
    else if c = 34 then parseL e true (part ++ [c]) r else parseL e q (part ++ [c]) r
theorem parse_q : ∀ (x part rest : List Nat), parseL false true part (esc x ++ 34 :: rest) = parseL false false (part ++ x ++ [34]) rest
  | [], part, rest => by simp [esc, parseL]
  | c :: r, part, rest => by
    have ih := parse_q r (part ++ [c]) rest
    have e : part ++ [c] ++ r = part ++ (c :: r) := by simp
    rw [e] at ih
    unfold esc
    by_cases h : c = 92 ∨ c = 34
    · rw [if_pos h]
      show parseL false true part (92 :: c :: (esc r ++ 34 :: rest)) = _
      rw [parseL, if_neg (by decide), if_pos rfl, if_pos rfl, parseL, if_pos rfl, ih]
    · rw [if_neg h]
      show parseL false true part (c :: (esc r ++ 34 :: rest)) = _
      rw [parseL, if_neg (by decide), if_pos rfl, if_neg (fun e => h (.inl e)), if_neg (fun e => h (.inr e)), ih]
def quoted (t : List Nat) : List Nat := 34 :: (t ++ [34])
theorem parse_one (t part rest : List Nat) : parseL false false part (qesc t ++ rest) = parseL false false (part ++ quoted t) rest := by
  show parseL false false part (34 :: ((esc t ++ [34]) ++ rest)) = _
  rw [parseL, if_neg (by decide), if_neg (by decide), if_neg (by decide), if_pos rfl, List.append_assoc]
  show parseL false true (part ++ [34]) (esc t ++ 34 :: rest) = _
  rw [parse_q]
  simp [quoted]
theorem quoted_ne (p t : List Nat) : p ++ quoted t ≠ [] := by simp [quoted]
theorem parse_header : ∀ (ts : List (List Nat)) (t part : List Nat), parseL false false part (header (t :: ts)) = (part ++ quoted t) :: ts.map (fun t => 9 :: quoted t)
  | [], t, part => by
    have := parse_one t part []
    rw [List.append_nil] at this
    show parseL false false part (qesc t) = _
    rw [this, parseL, if_neg (quoted_ne _ _)]; rfl
  | u :: ts, t, part => by
    have ih := parse_header ts u [9]
    show parseL false false part (qesc t ++ [44, 9] ++ header (u :: ts)) = _
    rw [List.append_assoc, parse_one]
    show parseL false false (part ++ quoted t) (44 :: 9 :: header (u :: ts)) = _
    rw [parseL, if_neg (by decide), if_neg (by decide), if_pos rfl, parseL, if_neg (by decide), if_neg (by decide), if_neg (by decide), if_neg (by decide)]
    show _ :: parseL false false [9] (header (u :: ts)) = _
    rw [ih]; rfl
/-- the places -/
theorem places_one_fin : ∀ s : Fin 12, ∀ j : Fin 12, 5 ≤ s.val → j.val < s.val → placesL s.val j.val = [(j.val : Int)] := by decide +kernel
theorem places_one {n j : Nat} (h5 : 5 ≤ n) (h11 : n ≤ 11) (hj : j < n) : placesL n j = [(j : Int)] := places_one_fin ⟨n, by omega⟩ ⟨j, by omega⟩ h5 hj
theorem places_two_fin : ∀ s : Fin 12, ∀ t : Fin 12, 5 ≤ s.val → t.val + 2 ≤ s.val → placesL s.val ((s.val + t.val : Nat) : Int) = placesL s.val ((2 * t.val : Nat) : Int) ++ placesL s.val ((2 * t.val + 1 : Nat) : Int) := by decide +kernel
theorem places_two {n t : Nat} (h5 : 5 ≤ n) (h11 : n ≤ 11) (ht : t + 2 ≤ n) : placesL n ((n + t : Nat) : Int) = placesL n ((2 * t : Nat) : Int) ++ placesL n ((2 * t + 1 : Nat) : Int) := places_two_fin ⟨n, by omega⟩ ⟨t, by omega⟩ h5 ht
abbrev Rk (ords l : List Int) (p q : Int) : Prop := ordAt ords p < ordAt ords q ∨ (ordAt ords p = ordAt ords q ∧ l.idxOf p < l.idxOf q)
theorem due_unique {ords l : List Int} : ∀ {a b : List Int}, a.Perm b → a.Pairwise (Rk ords l) → b.Pairwise (Rk ords l) → a = b
  | [], b, h, _, _ => (List.nil_perm.mp h).symm
  | x :: a, [], h, _, _ => absurd h (by simp)
  | x :: a, y :: b, h, ha, hb => by
    have ha' := List.pairwise_cons.mp ha
    have hb' := List.pairwise_cons.mp hb
    have e : x = y := by
      have h1 : x ∈ y :: b := h.mem_iff.mp List.mem_cons_self
      have h2 : y ∈ x :: a := h.mem_iff.mpr List.mem_cons_self
      rcases List.mem_cons.mp h1 with e | h1
      · exact e
      · rcases List.mem_cons.mp h2 with e | h2
        · exact e.symm
        · have q1 := hb'.1 x h1
          have q2 := ha'.1 y h2
          unfold Rk at q1 q2
          omega
    subst e
    rw [due_unique ((List.perm_cons x).mp h) ha'.2 hb'.2]
theorem merge_rk {ords l : List Int} : ∀ (one two : List Int), one.Pairwise (Rk ords l) → two.Pairwise (Rk ords l) → (∀ p ∈ one, ∀ q ∈ two, l.idxOf p < l.idxOf q) → (mergeL (ordAt ords) one two).Pairwise (Rk ords l)
  | [], two, _, h2, _ => by rw [mergeL_left]; exact h2
  | a :: one, [], h1, _, _ => by rw [mergeL_nil]; exact h1
  | a :: one, b :: two, h1, h2, hi => by
    have p1 := List.pairwise_cons.mp h1
    have p2 := List.pairwise_cons.mp h2
    by_cases h : ordAt ords b < ordAt ords a
    · rw [mergeL_two _ _ _ h]
      have ih := merge_rk (a :: one) two h1 p2.2 fun p hp q hq => hi p hp q (List.mem_cons_of_mem _ hq)
      refine List.pairwise_cons.mpr ⟨fun z hz => ?_, ih⟩
      have hz' := (List.merge_perm_append (xs := a :: one) (ys := two) _).mem_iff.mp hz
      rcases List.mem_append.mp hz' with hz | hz
      · rcases List.mem_cons.mp hz with rfl | hz
        · exact .inl h
        · have := p1.1 z hz
          unfold Rk at this ⊢
          omega
      · exact p2.1 z hz
    · rw [mergeL_one _ _ _ h]
      have ih := merge_rk one (b :: two) p1.2 h2 fun p hp q hq => hi p (List.mem_cons_of_mem _ hp) q hq
      refine List.pairwise_cons.mpr ⟨fun z hz => ?_, ih⟩
      have hz' := (List.merge_perm_append (xs := one) (ys := b :: two) _).mem_iff.mp hz
      rcases List.mem_append.mp hz' with hz | hz
      · exact p1.1 z hz
      · have hi' := hi a List.mem_cons_self z hz
        rcases List.mem_cons.mp hz with rfl | hz
        · unfold Rk; omega
        · have := p2.1 z hz
          unfold Rk at this ⊢
          omega
  termination_by one two => one.length + two.length
theorem due_merge {ords l1 l2 one two out : List Int} (h1 : Due ords l1 one) (h2 : Due ords l2 two) (ho : Due ords (l1 ++ l2) out) (hn : (l1 ++ l2).Nodup) : mergeL (ordAt ords) one two = out := by
  have hd := List.nodup_append.mp hn
  have hp : (mergeL (ordAt ords) one two).Perm (l1 ++ l2) := (List.merge_perm_append _).trans (h1.1.append h2.1)
  have i1 : ∀ p ∈ l1, (l1 ++ l2).idxOf p = l1.idxOf p := fun p hp => by rw [List.idxOf_append, if_pos hp]
  have i2 : ∀ p ∈ l2, (l1 ++ l2).idxOf p = l2.idxOf p + l1.length := fun p hp => by
    rw [List.idxOf_append, if_neg (fun h => hd.2.2 p h p hp rfl)]
  refine due_unique (hp.trans ho.1.symm) (merge_rk one two ?_ ?_ ?_) ho.2
  · refine h1.2.imp_of_mem fun {p q} hp hq h => ?_
    unfold Rk
    rw [i1 p (h1.1.mem_iff.mp hp), i1 q (h1.1.mem_iff.mp hq)]; exact h
  · refine h2.2.imp_of_mem fun {p q} hp hq h => ?_
    unfold Rk
    rw [i2 p (h2.1.mem_iff.mp hp), i2 q (h2.1.mem_iff.mp hq)]; omega
  · intro p hp q hq
    have hp' := h1.1.mem_iff.mp hp
    rw [i1 p hp', i2 q (h2.1.mem_iff.mp hq)]
    have := List.idxOf_lt_length_of_mem hp'
    omega
end
section
open PySem PySem.W PyProof.Rows PyProof.Rows.LCg
theorem strs_drop {vs : List Value} {xs : List Nat} (h : StrsAre vs (xs.map fun c => sg [c])) : StrsAre (vs.drop 1) ((xs.drop 1).map fun c => sg [c]) := by
  cases xs with
  | nil => cases h; exact .nil
  | cons c xs => cases h with
    | cons _ _ h => exact h
/-- as Sp, of the code -/
def SpC (w : World) (need : Nat) (f : Value) (args : List Value) (Pre : Led → Prop) (Post : Led → Value → Led → Prop) : Prop :=
  ∀ (p : Program) (loose : List Str) (mean : ExcName → Option Value) (mg mb : Str → Option Value) (dp un : Nat) (gd : Option (List Code)) (cn : Str) (cs : Scope) (a : Addr) (ccd : Value) (cl : List (Str × Addr)) (outer : List Env) (A₀ : Around) (base h₀ : Heap) (L : Addr) (m : Str → Option Value) (news : Led) (s : Shared)
    (Q E : Value → Shared → Prop), Below A₀ base outer h₀ → Fr h₀ L s.heap m → (hd.heap_39 w.params).In h₀ → News h₀ L s.heap news → Top p loose mean mg mb h₀ → CodeHd h₀ 185 181 → CodeHd h₀ 128 124 → cs.kind = .function →
    dp + need < 900 → un + 8 * need < 900 → Pre news →
    (∀ r news' h' tk', Fr h₀ L h' m → News h₀ L h' news' → Post news r news' → Q r { s with heap := h', toks := tk' }) →
    codeAny (model PySem.Challenge.rw_pk0065_01.row.prog w) (ktrTop dp un gd cn cs L a ccd cl outer) (.call f ⟨args, []⟩) (fun r s' => match r with | .ok (.ret v) => Q v s' | .ok _ => False | .error e => E e s') s
theorem SpC.sp {w : World} {need : Nat} {f : Value} {args : List Value} {Pre : Led → Prop} {Post : Led → Value → Led → Prop} (C : SpC w need f args Pre Post) : Sp w need f args Pre Post :=
  fun p loose mean mg mb dp un gd cn cs a ccd cl outer A₀ base h₀ L m news s Q E B F X N T c1 c2 hk hdp hu pre hret => wpAny_call (C p loose mean mg mb dp un gd cn cs a ccd cl outer A₀ base h₀ L m news s Q E B F X N T c1 c2 hk hdp hu pre hret)
theorem callFn1 {prog : Program} {w : World} {A : Around} {E : Value → Shared → Prop} {s : Shared} {a : Addr} {o : Obj} {fd : FuncData} {pos cpos : Pos} {arg : PySem.Expr} {env : Env} {Q : Value → Shared → Prop}
    (h : wpAny (model prog w) A (eval arg env) (fun v s₁ => Hold ((s₁.heap.get? a = some o ∧ o.data = .func fd) ∧ wpAny (model prog w) A (call (.ref a) [v]) Q E s₁)) E s) (hst : starEach [arg] env = [(false, eval arg env)] := by rfl) :
    wpAny (model prog w) A (callWith pos (.ref a) [] (backTo cpos (starEach [arg] env)) []) Q E s := by
  rw [hst]
  exact Calls.callWith_function (o := o) (fd := fd) (Calls.evalArgs_plain (Calls.spliced_cons (wpAny_mono h (fun v s₁ h₁ => Calls.spliced_nil h₁) fun _ _ e => e)))
section
theorem read_char_k (w : World) (x tp pb dx sl : Addr) (K : Int) (xs : List Nat) (pv : List Value) (rest : Led) (S : Stat w x tp pb dx sl rest) :
    SpC w 10 (.ref 42) [.ref x] (fun news => Mut w tp pb dx sl K xs pv rest news) (fun _ r news' => ∃ t, r = .str (sg (xs.take 1)) t ∧ Mut w tp pb dx sl K (xs.drop 1) pv rest news') := by
  intro p loose mean mg mb dp un gd cn cs a ccd cl outer A₀ base h₀ L m news s Q E B F X N T c1 c2 hk hdp hu pre hret
  revert X; k_fill; intro X
  k_dflt ktr_enter
  rename_i g1 L1 hp1 FG1 F1 N1 B1 X1 T1
  have c1' := CodeHd.keeps c1 FG1.keep
  have c2' := CodeHd.keeps c2 FG1.keep
  (try k_fold)
  obtain ⟨es, ln, ks, kp, sv, rfl, ⟨k1, k2, k3, k4, t1, t3, rfl⟩, hK, hsv, hxs⟩ := pre
  (try k_fold)
  obtain ⟨dt, e1, pbt, kt, kr, fr, lamO, ca, oC, c', oc, mtp, mdt, ⟨q1, q2, q3, q4, u1, u3, rfl⟩, mfr, ⟨fd, hfd⟩, mca, mc', hread, _, _⟩ := S.tape
  have xdx : @Ne Nat x dx := S.adx _ S.inst
  have tdx : @Ne Nat tp dx := S.adx _ mtp
  have ddx : @Ne Nat dt dx := S.adx _ mdt
  have xsl : @Ne Nat x sl := S.asl _ S.inst
  have tsl : @Ne Nat tp sl := S.asl _ mtp
  have dsl : @Ne Nat dt sl := S.asl _ mdt
  have pdx : @Ne Nat pb dx := S.n1
  have psl : @Ne Nat pb sl := S.n2
  have xnsl : @Ne Nat dx sl := S.n3
  have adx := S.adx
  have N2 : News g1 L1 hp1 ((sl, PySem.W.listOf sv.toArray ks) :: (dx, dictOf [ent w "lineno" k1 (.int ln t1), ent w "instream" k2 (.ref tp), ent w "whitespace" k3 (.str (Str.ofString "\n\t\x0d ") t3), ent w "pushback" k4 (.ref pb)] 4) :: (pb, PySem.W.listOf pv.toArray kp) :: (x, instObj 59 dx) :: (tp, instObj 59 dt) :: (dt, _) :: rest) := fun q hq => N1 q (by
    simp only [List.mem_cons] at hq ⊢
    rcases hq with h | h | h | h | h | h | h
    · exact .inr (.inr (.inl h))
    · exact .inr (.inl h)
    · exact .inl h
    · exact .inr (.inr (.inr (h ▸ S.inst)))
    · exact .inr (.inr (.inr (h ▸ mtp)))
    · exact .inr (.inr (.inr (h ▸ mdt)))
    · exact .inr (.inr (.inr h)))
  clear N1
  k_steps
  refine callFn1 (o := lamO) (fd := fd) ?_
  k_steps
  (try k_unfold)
  refine Hold.mk ⟨⟨(N2 (fr, lamO) (by simp [mfr])).1, hfd⟩, ?_⟩
  (try k_fold)
  k_dflt (refine' sp_use (hread _ sv xs ks _ hxs hsv ?a1 ?a2 ?a3 ?a4) ?k1 ?k2 ?k3 ?k4 ?k5 ?k6 ?k7 ?k8 ?k9 ?k10 rfl ?_; (case k1 => k_asm); (case k2 => k_asm); (case k3 => k_asm); (case k4 => k_asm); (case k5 => k_asm); (case k6 => k_asm); (case k7 => k_asm); (case k8 => exact rfl); (case k9 => ((try simp only [depth_in1, depth_deeper]); (try dsimp only [ktrTop]); omega)); (case k10 => ((try simp only [units_in1, units_deeper, Around.mark_units]); (try dsimp only [ktrTop]); omega)); (case a1 => exact Apart.cons xnsl (Apart.cons psl (Apart.cons xsl (Apart.cons tsl (Apart.cons dsl S.asl))))); (case a2 => simp [mfr]); (case a3 => simp [mca]); (case a4 => simp [mc']))
  rintro r9 nw9 h9 tk9 F9 N9 ⟨t9, ks9, rfl, rfl⟩
  clear N2 hread
  k_steps
  · rename_i ha _ _ _ kF kN _ _
    have ha' : xs.take 1 = [10] := by
      have h1 := eq_of_beq ha
      rw [c10] at h1
      simpa [sg] using h1
    (try k_unfold)
    refine hret _ ((pb, PySem.W.listOf pv.toArray kp) :: (dx, dictOf _ 4) :: (sl, PySem.W.listOf (sv.drop 1).toArray ks9) :: rest) _ _ kF (fun q hq => kN q (by
      simp only [List.mem_cons] at hq ⊢
      rcases hq with h | h | h | h
      · exact .inr (.inr (.inl h))
      · exact .inr (.inl h)
      · exact .inl h
      · exact .inr (.inr (.inr (.inr (.inr (.inr h))))))) ⟨_, rfl, _, ln + 1, _, _, _, rfl, ⟨_, _, _, _, _, _, rfl⟩, ?_, strs_drop hsv, by rw [List.length_drop]; omega⟩
    rw [← hK]
    cases xs with
    | nil => simp at ha'
    | cons c xs =>
      simp at ha'
      subst ha'
      simp
      omega
  · rename_i ha kF kN _ _
    have ha' : xs.take 1 ≠ [10] := fun e => by
      rw [e, c10] at ha
      simp at ha
    (try k_unfold)
    refine hret _ ((pb, PySem.W.listOf pv.toArray kp) :: (dx, dictOf _ 4) :: (sl, PySem.W.listOf (sv.drop 1).toArray ks9) :: rest) _ _ kF (fun q hq => kN q (by
      simp only [List.mem_cons] at hq ⊢
      rcases hq with h | h | h | h
      · exact .inr (.inr (.inl h))
      · exact .inr (.inl h)
      · exact .inl h
      · exact .inr (.inr (.inr (.inr (.inr (.inr h))))))) ⟨_, rfl, _, ln, _, _, _, rfl, ⟨_, _, _, _, _, _, rfl⟩, ?_, strs_drop hsv, by rw [List.length_drop]; omega⟩
    rw [← hK]
    cases xs with
    | nil => rfl
    | cons c xs =>
      have hc : c ≠ 10 := fun e => ha' (by simp [e])
      simp [hc]
theorem read_char_c (w : World) (x tp pb dx sl : Addr) (K : Int) (xs : List Nat) (pv : List Value) (rest : Led) (S : Stat w x tp pb dx sl rest) :
    Sp w 10 (.ref 42) [.ref x] (fun news => Mut w tp pb dx sl K xs pv rest news) (fun _ r news' => ∃ t, r = .str (sg (xs.take 1)) t ∧ Mut w tp pb dx sl K (xs.drop 1) pv rest news') := (read_char_k w x tp pb dx sl K xs pv rest S).sp
end
end
section
open PySem PySem.W PyProof.Rows PySem.Calls
abbrev ciObj (f y : Value) (e : Bool) : Obj := { cls := .type "callable_iterator", data := .fields #[f, y, .bool e] }
theorem kind_iter : builtinKind "iter" = none := by decide +kernel
theorem plain_iter : plainId "iter" = true := by decide +kernel
theorem entry_iter : entryFor table "iter" = some Builtin.«iter» := entryFor_of_tree (by kernel_rfl)
theorem args_iter (a b : Value) : argsOk "iter" ⟨[a, b], []⟩ := by unfold argsOk; kernel_rfl
theorem slot_ci_next : Slot "callable_iterator" "__next__" "callable_iterator.__next__" :=
  .of (owner := "callable_iterator") (n := "__next__") (by rw [typeLookup_type, builtinLookup_eq_fast]; kernel_rfl) (by decide +kernel) (by decide +kernel) (by decide +kernel)
    (by first | exact .inl (by decide +kernel) | exact .inr (by decide +kernel)) (by rw [isSubtype_type]; kernel_rfl)
theorem slot_ci_iter : Slot "callable_iterator" "__iter__" "callable_iterator.__iter__" :=
  .of (owner := "callable_iterator") (n := "__iter__") (by rw [typeLookup_type, builtinLookup_eq_fast]; kernel_rfl) (by decide +kernel) (by decide +kernel) (by decide +kernel)
    (by first | exact .inl (by decide +kernel) | exact .inr (by decide +kernel)) (by rw [isSubtype_type]; kernel_rfl)
theorem entry_ci_next : entryFor table "callable_iterator.__next__" = some Builtin.«callable_iterator.__next__» := entryFor_of_tree (by kernel_rfl)
theorem entry_ci_iter : entryFor table "callable_iterator.__iter__" = some Builtin.«dict_keyiterator.__iter__» :=
  entryFor_alias (id' := "dict_keyiterator.__iter__") (by kernel_rfl) rfl (by decide +kernel) (by kernel_rfl)
theorem args_ci_next (a : Value) : argsOk "callable_iterator.__next__" ⟨[a], []⟩ := by unfold argsOk; kernel_rfl
theorem args_ci_iter (a : Value) : argsOk "callable_iterator.__iter__" ⟨[a], []⟩ := by unfold argsOk; kernel_rfl
theorem look_method_call : typeLookup (.type "method") "__call__" = pure (some (.builtin "method.__call__")) := by rw [typeLookup_type, builtinLookup_eq_fast]; kernel_rfl
section
variable {M : Model} {A : Around} {E : Value → Shared → Prop} {s : Shared}
theorem wpAny_callBorrowed {f : Value} {pos : List Value} {Q : Value → Shared → Prop}
    (hc : codeAny M A (.call f ⟨pos, []⟩) (fun r s' => match r with | .ok (.ret v) => Q v s' | .ok _ => False | .error e => E e s') s) : wpAny M A (callBorrowed f pos) Q E s := fun Γ p hΓ => by
  unfold callBorrowed
  rw [Sem.wp_call]
  refine wpCode_mono ?_ (hc (Γ.enter (.call f ⟨pos, []⟩) none p) p rfl (hΓ.enter _ none p (by intro x; cases x)))
  intro r s' h
  cases r with
  | error e => exact h
  | ok f => cases f with
    | ret v => exact h
    | next => exact h.elim
    | brk => exact h.elim
    | cont => exact h.elim
end
section
variable {prog : Program} {w : World} {A : Around} {E : Value → Shared → Prop} {s : Shared} {h₀ : Heap} {L : Addr} {m : Str → Option Value} {news : Led} {I b f x : Addr}
theorem typ_at {T : String} {a : Addr} {o : Obj} (N : News h₀ L s.heap news) (hm : (a, o) ∈ news) (hc : o.cls = .type T) : s.TypeIs (.ref a) T := ⟨o, (N _ hm).1, hc⟩
theorem iter2_led {y : Str} {t : Tok} {Q : Value → Shared → Prop} (F : Fr h₀ L s.heap m) (N : News h₀ L s.heap news) (hb : (b, methodObj (.ref f) (.ref x)) ∈ news)
    (h : ∀ I h', Fr h₀ L h' m → News h₀ L h' ((I, ciObj (.ref b) (.str y t) false) :: news) → (∀ p ∈ news, p.1 < I) → Q (.ref I) { s with heap := h' }) :
    wpAny (model prog w) A (call (.builtin "iter") [.ref b, .str y t]) Q E s := by
  refine Calls.call_function_entry kind_iter plain_iter entry_iter (args_iter _ _) ?_
  unfold Builtin.«iter»
  refine wpAny_bind (wpAny_of_eq (a := [.ref b, .str y t]) (by rfl) ?_)
  dsimp only
  refine wpAny_bind (wpAny_specialOf (typ_at N hb rfl) look_method_call ?_)
  refine wpAny_bind (wpAny_rule ?_)
  refine wpAny_bind (wpAny_newObj_type (wpAny_pure ⟨_, rfl, ?_⟩))
  exact h _ _ (F.keeps fun _ _ e => Heap.get?_push_of_some _ e) (news_pushed F N (fun _ _ e => Heap.get?_push_of_some _ e) (Heap.get?_push_size _ rfl) rfl) fun p hp => Heap.lt_size (N p hp).1
theorem ci_iter {f y : Value} {e : Bool} {Q : Value → Shared → Prop} (N : News h₀ L s.heap news) (hI : (I, ciObj f y e) ∈ news) (h : Q (.ref I) s) : wpAny (model prog w) A (pyIter (.ref I)) Q E s := by
  refine wpAny_pyIter_slot (typ_at N hI rfl) slot_ci_iter (wpAny_call_entry slot_ci_iter (typ_at N hI rfl) entry_ci_iter ?_ (args_ci_iter _))
  exact wpAny_pure ⟨_, rfl, "callable_iterator", _, typ_at N hI rfl, slot_ci_next.lookup, h⟩
theorem stop_now {α : Type} {Q : α → Shared → Prop} {B : Around} (hh : B.handled = none)
    (h : ∀ h' e, (∀ a o, s.heap.get? a = some o → h'.get? a = some o) → (∃ o, h'.get? e = some o ∧ o.cls = .type "StopIteration") → E (.ref e) { s with heap := h' }) :
    wpAny (model prog w) B (Builtin.SmallTypes.stopIteration : Sem α) Q E s := by
  unfold Builtin.SmallTypes.stopIteration
  refine wpAny_bind ?_
  simp only [newExc, newTuple]
  refine wpAny_bind (wpAny_newObj_type ?_ (by size_fits))
  refine wpAny_bind (m := firstArgMember _ _) (wpAny_of_eq (a := Value.none) (by first | rfl | (simp only [firstArgMember]; rfl)) ?_)
  refine wpAny_newObj_type ?_ (by size_fits)
  simp only [raiseNew]
  refine wpAny_bind (wpAny_handled ?_)
  rw [hh]
  refine wpAny_bind (wpAny_pure (wpAny_throw ?_))
  exact h _ _ (fun a o e => Heap.get?_push_of_some _ (Heap.get?_push_of_some _ e)) ⟨_, Heap.get?_push_size _ rfl, rfl⟩
theorem borrows_method {of : Obj} {fd : FuncData} {Q : Bool → Shared → Prop} (hb : s.heap.get? b = some (methodObj (.ref f) (.ref x))) (hf : s.heap.get? f = some of) (hfd : of.data = .func fd) (h : Q true s) :
    wpAny (model prog w) A (borrowsExactly (.ref b)) Q E s := by
  unfold borrowsExactly
  refine wpAny_bind (wpAny_load hb ?_)
  dsimp only
  refine wpAny_bind (wpAny_load hf ?_)
  rw [hfd]
  exact wpAny_pure h
theorem ci_set {h : Heap} {o : Obj} {vs : Array Value} (F : Fr h₀ L h m) (N : News h₀ L h ((I, o) :: news)) (ap : Apart I news) (hd : o.data = .fields vs) (i : Nat) (v : Value) :
    Fr h₀ L (h.update I (Obj.mapFields (·.setIfInBounds i v))) m ∧ News h₀ L (h.update I (Obj.mapFields (·.setIfInBounds i v))) ((I, Obj.mapFields (·.setIfInBounds i v) o) :: news) := by
  have z := N _ List.mem_cons_self
  refine ⟨F.change (Heap.SameBut.update ..) z.2.1 z.2.2, ?_⟩
  exact news_set (pre := []) (post := news) N (by intro p hp; cases hp) ap (Heap.SameBut.update ..) (Heap.get?_update_self _ z.1 (Obj.isFreed_of_fields (Obj.data_mapFields hd _)))
/-- what the called method gives, and what is then known -/
def CiOut (h₀ : Heap) (L : Addr) (m : Str → Option Value) (s : Shared) (I : Addr) (oI : Obj) (Q : Option Value → Shared → Prop) (r : Value) (s₁ : Shared) : Prop :=
  ∃ y t h' tk news', r = .str y t ∧ s₁ = { s with heap := h', toks := tk } ∧ Fr h₀ L h' m ∧ News h₀ L h' ((I, oI) :: news') ∧ Apart I news' ∧
    (y ≠ Str.ofString "" → Q (some (.str y t)) s₁) ∧ (y = Str.ofString "" → ∀ h'', Fr h₀ L h'' m → News h₀ L h'' ((I, ciObj .none .none true) :: news') → Q none { s with heap := h'', toks := tk })
theorem ci_next_go {of : Obj} {fd : FuncData} {ts : Tok} {Q : Option Value → Shared → Prop} (hh : A.handled = none) (F : Fr h₀ L s.heap m) (N : News h₀ L s.heap news) (hI : (I, ciObj (.ref b) (.str (Str.ofString "") ts) false) ∈ news) (hb : (b, methodObj (.ref f) (.ref x)) ∈ news)
    (hf : h₀.get? f = some of) (hfd : of.data = .func fd)
    (hc : codeAny (model prog w) A.in1 (.call (.ref f) ⟨[.ref x], []⟩) (fun r s' => match r with | .ok (.ret v) => CiOut h₀ L m s I (ciObj (.ref b) (.str (Str.ofString "") ts) false) Q v s' ∧ (∃ o, s'.heap.get? b = some o ∧ o = methodObj (.ref f) (.ref x)) | .ok _ => False | .error _ => False) s) :
    wpAny (model prog w) A (pyNext (.ref I)) Q E s := by
  unfold pyNext
  refine wpAny_bind (wpAny_attempt (wpAny_callSpecial?_slot (name := Str.ofString "__next__") (typ_at N hI rfl) slot_ci_next
    (wpAny_call_entry slot_ci_next (typ_at N hI rfl) entry_ci_next ?_ (args_ci_next _))))
  have hoI := (N _ hI).1
  have hob := (N _ hb).1
  have hof := F.keep _ _ hf
  unfold Builtin.«callable_iterator.__next__»
  refine wpAny_bind (wpAny_of_eq (a := (.ref I, [])) (by rfl) ?_)
  dsimp only
  refine wpAny_bind (wpAny_field hoI rfl (x := .bool false) rfl ?_)
  rw [if_neg (by decide)]
  refine wpAny_bind (wpAny_field hoI rfl (x := .ref b) rfl ?_)
  refine wpAny_bind (wpAny_attempt ?_)
  unfold callOutOfASlot
  refine wpAny_bind (borrows_method hob hof hfd ?_)
  rw [if_pos rfl]
  refine wpAny_callBorrowed (method_call hob (codeAny_mono hc fun r s₁ hr => ?_))
  cases r with
  | error e => exact hr.elim
  | ok fl =>
    cases fl with
    | next => exact hr.elim
    | brk => exact hr.elim
    | cont => exact hr.elim
    | ret v =>
      obtain ⟨⟨y, t, h', tk, news', rfl, rfl, F', N', ap, go, stop⟩, ⟨_, hb2, rfl⟩⟩ := hr
      have hoI' := (N' _ List.mem_cons_self).1
      have hof' := F'.keep _ _ hf
      dsimp only
      refine wpAny_bind (wpAny_field hoI' rfl (x := .bool false) rfl ?_)
      rw [if_neg (by decide)]
      refine wpAny_bind (wpAny_field hoI' rfl (x := .str (Str.ofString "") ts) rfl ?_)
      refine wpAny_bind (wpAny_holding (wpAny_eqBool_str ?_))
      by_cases hy : y = Str.ofString ""
      · subst hy
        rw [decide_eq_true rfl]
        simp only [Bool.not_true, Bool.false_eq_true, if_false]
        refine wpAny_bind (wpAny_rule (wpAny_bind ?_))
        k_dflt (refine wpAny_bind (wpAny_field hoI' rfl (x := .ref b) rfl ?_))
        unfold slotLetsGo
        dsimp only
        refine wpAny_bind (wpAny_bind (borrows_method hb2 hof' hfd ?_))
        rw [if_pos rfl]
        refine wpAny_pure ?_
        obtain ⟨F1, N1⟩ := ci_set F' N' ap rfl 0 .none
        refine wpAny_bind (wpAny_setField hoI' rfl (by simp) ?_)
        obtain ⟨F2, N2⟩ := ci_set F1 N1 ap rfl 1 .none
        refine wpAny_bind (wpAny_setField (N1 _ List.mem_cons_self).1 rfl (by simp) ?_)
        obtain ⟨F3, N3⟩ := ci_set F2 N2 ap rfl 2 (.bool true)
        refine wpAny_setField (N2 _ List.mem_cons_self).1 rfl (by simp) ?_
        refine stop_now hh fun h' e k T => ?_
        refine wpAny_bind (wpAny_isInstance (T := "StopIteration") (b := true) T isSubtype_stop ?_)
        exact wpAny_pure (stop rfl h' (F3.keeps k) (N3.grown k))
      · rw [decide_eq_false (fun e => hy e.symm)]
        simp only [Bool.not_false, if_true]
        exact wpAny_bind (wpAny_pure (wpAny_pure ⟨_, rfl, wpAny_pure (go hy)⟩))
theorem ci_next_end {Q : Option Value → Shared → Prop} (hh : A.handled = none) (F : Fr h₀ L s.heap m) (N : News h₀ L s.heap news) (hI : (I, ciObj .none .none true) ∈ news)
    (h : ∀ h', Fr h₀ L h' m → News h₀ L h' news → Q none { s with heap := h' }) : wpAny (model prog w) A (pyNext (.ref I)) Q E s := by
  unfold pyNext
  refine wpAny_bind (wpAny_attempt (wpAny_callSpecial?_slot (name := Str.ofString "__next__") (typ_at N hI rfl) slot_ci_next
    (wpAny_call_entry slot_ci_next (typ_at N hI rfl) entry_ci_next ?_ (args_ci_next _))))
  unfold Builtin.«callable_iterator.__next__»
  refine wpAny_bind (wpAny_of_eq (a := (.ref I, [])) (by rfl) ?_)
  dsimp only
  refine wpAny_bind (wpAny_field (N _ hI).1 rfl (x := .bool true) rfl ?_)
  rw [if_pos (by decide)]
  refine wpAny_bind (wpAny_rule (wpAny_bind (stop_now hh fun h' e k T => ?_)))
  refine wpAny_bind (wpAny_isInstance (T := "StopIteration") (b := true) T isSubtype_stop ?_)
  exact wpAny_pure (h h' (F.keeps k) (N.grown k))
end
end
section
open PySem PySem.W PyProof.Rows PyProof.Rows.LCg
section
theorem push_token_c (w : World) (x tp pb dx sl : Addr) (K : Int) (xs : List Nat) (pv : List Value) (rest : Led) (v : Value) (S : Stat w x tp pb dx sl rest) (hpv : pv.length ≤ 100) :
    Sp w 6 (.ref 56) [.ref x, v] (fun news => Mut w tp pb dx sl K xs pv rest news) (fun _ r news' => r = .none ∧ Mut w tp pb dx sl K xs (pv ++ [v]) rest news') := by
  intro p loose mean mg mb dp un gd cn cs a ccd cl outer A₀ base h₀ L m news s Q E B F X N T c1 c2 hk hdp hu pre hret
  revert X; k_fill; intro X
  refine wpAny_call ?_
  k_dflt ktr_enter
  rename_i g1 L1 hp1 FG1 F1 N1 B1 X1 T1
  have c1' := CodeHd.keeps c1 FG1.keep
  have c2' := CodeHd.keeps c2 FG1.keep
  (try k_fold)
  obtain ⟨es, ln, ks, kp, sv, rfl, ⟨k1, k2, k3, k4, t1, t3, rfl⟩, hK, hsv, hxs⟩ := pre
  have xpb : @Ne Nat x pb := S.apb _ S.inst
  have pdx : @Ne Nat pb dx := S.n1
  have psl : @Ne Nat pb sl := S.n2
  have apb := S.apb
  have N2 : News g1 L1 hp1 ((pb, PySem.W.listOf pv.toArray kp) :: (dx, dictOf [ent w "lineno" k1 (.int ln t1), ent w "instream" k2 (.ref tp), ent w "whitespace" k3 (.str (Str.ofString "\n\t\x0d ") t3), ent w "pushback" k4 (.ref pb)] 4) :: (sl, PySem.W.listOf sv.toArray ks) :: (x, instObj 59 dx) :: rest) := fun q hq => N1 q (by
    simp only [List.mem_cons] at hq ⊢
    rcases hq with h | h | h | h | h
    · exact .inl h
    · exact .inr (.inl h)
    · exact .inr (.inr (.inl h))
    · exact .inr (.inr (.inr (h ▸ S.inst)))
    · exact .inr (.inr (.inr h)))
  clear N1
  k_steps
  rename_i kF kN _ _
  (try k_unfold)
  refine hret _ ((pb, PySem.W.listOf (pv ++ [v]).toArray (kp + 1)) :: (dx, dictOf _ 4) :: (sl, PySem.W.listOf sv.toArray ks) :: rest) _ _ kF (fun q hq => kN q (by
    have e : (pv ++ [v]).toArray = pv.toArray.push v := by simp
    rw [e] at hq
    simp only [List.mem_cons] at hq ⊢
    rcases hq with h | h | h | h
    · exact .inl h
    · exact .inr (.inl h)
    · exact .inr (.inr (.inl h))
    · exact .inr (.inr (.inr (.inr h))))) ⟨rfl, _, _, _, _, _, rfl, ⟨_, _, _, _, _, _, rfl⟩, hK, hsv, hxs⟩
theorem Stat.more {w : World} {x tp pb dx sl : Addr} {rest : Led} (S : Stat w x tp pb dx sl rest) {p : Addr × Obj} (h1 : p.1 ≠ pb) (h2 : p.1 ≠ dx) (h3 : p.1 ≠ sl) : Stat w x tp pb dx sl (p :: rest) :=
  ⟨List.mem_cons_of_mem _ S.inst, let ⟨dt, e1, pbt, kt, kr, fr, lamO, ca, oC, c', oc, a, b, c, d, e, f, g, h⟩ := S.tape; ⟨dt, e1, pbt, kt, kr, fr, lamO, ca, oC, c', oc, List.mem_cons_of_mem _ a, List.mem_cons_of_mem _ b, c, List.mem_cons_of_mem _ d, e, List.mem_cons_of_mem _ f, List.mem_cons_of_mem _ g, h⟩, S.apb.cons h1, S.adx.cons h2, S.asl.cons h3, S.n1, S.n2, S.n3⟩
end
section
variable {prog : Program} {w : World} {A : Around} {E : Value → Shared → Prop} {s : Shared} {h₀ : Heap} {m : Str → Option Value} {env : Env} {news : Led}
/-- over an iterator of one's own: what a turn gives -/
def CiTurn (prog : Program) (w : World) (A : Around) (env : Env) (h₀ : Heap) (x : Str) (body : List Stmt) (s : Shared) (Q : Flow → Shared → Prop) (m : Str → Option Value) (J : Nat → (Str → Option Value) → Led → Prop) (n : Nat) (r : Option Value) (s₁ : Shared) : Prop := match r with
  | none => Q .next s₁
  | some v => ∃ h' tk' nw', s₁ = { s with heap := h', toks := tk' } ∧ Fr h₀ env.locals h' m ∧ News h₀ env.locals h' nw' ∧ ∀ h'' tk'' (E'' : Value → Shared → Prop), Fr h₀ env.locals h'' (fun y => if y = x then some v else m y) → News h₀ env.locals h'' nw' →
      wpAny (model prog w) A (execs body env) (fun f s₃ => Hold (TEnd h₀ env.locals J n s Q f s₃)) E'' { s with heap := h'', toks := tk'' }
theorem for_ci {x : Str} {px : Pos} {body : List Stmt} {Q : Flow → Shared → Prop} {I : Addr} {f y : Value} {e : Bool}
    (hx : env.kindOf x = some .local) (hp : (env.scope.kind == .class || (env.scope.kind == .module && env.locals != env.globals)) = false)
    (F : Fr h₀ env.locals s.heap m) (N : News h₀ env.locals s.heap news) (hI : (I, ciObj f y e) ∈ news) (J : Nat → (Str → Option Value) → Led → Prop) (n : Nat) (hj : J n m news)
    (turn : ∀ n m nw h tk (E' : Value → Shared → Prop), J n m nw → Fr h₀ env.locals h m → News h₀ env.locals h nw →
      wpAny (model prog w) A (pyNext (.ref I)) (CiTurn prog w A env h₀ x body s Q m J n) E' { s with heap := h, toks := tk }) :
    ForSrc prog w A env x px body Q E (.ref I) s := by
  unfold ForSrc
  refine ci_iter N hI ?_
  refine codeAny_forLoop (fun n s' => ∃ h tk m news, s' = { s with heap := h, toks := tk } ∧ Fr h₀ env.locals h m ∧ News h₀ env.locals h news ∧ J n m news) ?_ n ⟨s.heap, s.toks, m, news, rfl, F, N, hj⟩
  rintro n s' ⟨h, tk, m', nw, rfl, F', N', hj'⟩
  refine wpAny_mono (turn n m' nw h tk _ hj' F' N') (fun r s₁ h₁ => ?_) fun _ _ x => x
  cases r with
  | none => exact wpAny_execs_nil h₁
  | some v =>
    (try k_fold)
    obtain ⟨h2, tk2, nw2, rfl, F2, N2, go⟩ := h₁
    refine wpAny_assign_Name (wpAny_storeName_local hx F2.ns (fun h₂ hn₂ hs₂ => ?_) hp)
    refine wpAny_mono (go h₂ _ _ (F2.set hn₂ hs₂) (N2.set hs₂)) (fun f s₃ h₃ => ?_) fun _ _ x => x
    cases f with
    | next => obtain ⟨h', tk', m'', nw', e, F'', N'', n', hn, hj''⟩ := h₃; exact ⟨n', hn, h', tk', m'', nw', e, F'', N'', hj''⟩
    | cont => obtain ⟨h', tk', m'', nw', e, F'', N'', n', hn, hj''⟩ := h₃; exact ⟨n', hn, h', tk', m'', nw', e, F'', N'', hj''⟩
    | brk => exact h₃
    | ret v => exact h₃
end
section
variable {w : World} {E : Value → Shared → Prop} {s : Shared} {h₀ : Heap} {L : Addr} {m : Str → Option Value} {news : Led} {x tp pb dx sl I b : Addr} {rest : Led} {K : Int} {xs : List Nat} {ts : Tok}
  {p : Program} {loose : List Str} {mean : ExcName → Option Value} {mg mb : Str → Option Value} {dp un : Nat} {gd : Option (List Code)} {cn : Str} {cs : Scope} {a : Addr} {ccd : Value} {cl : List (Str × Addr)} {outer : List Env} {A₀ : Around} {base : Heap}
abbrev mObj (x : Addr) : Obj := methodObj (.ref 42) (.ref x)
def ciO (b : Addr) (ts : Tok) (e : Bool) : Obj := if e = true then ciObj .none .none true else ciObj (.ref b) (.str (Str.ofString "") ts) false
theorem ci_read {Q : Option Value → Shared → Prop} (S : Stat w x tp pb dx sl rest) (hIb : I ≠ b) (hIp : I ≠ pb) (hId : I ≠ dx) (hIs : I ≠ sl) (hIr : Apart I rest) (hbp : b ≠ pb) (hbd : b ≠ dx) (hbs : b ≠ sl)
    (B : Below A₀ base outer h₀) (F : Fr h₀ L s.heap m) (X : (hd.heap_39 w.params).In h₀) (N : News h₀ L s.heap news) (T : Top p loose mean mg mb h₀) (c1 : CodeHd h₀ 185 181) (c2 : CodeHd h₀ 128 124) (hk : cs.kind = .function)
    (hdp : dp + 12 < 900) (hu : un + 8 * 12 < 900) (M : Mut w tp pb dx sl K xs [] ((I, ciO b ts false) :: (b, mObj x) :: rest) news)
    (h : ∀ r h' tk' nw', Fr h₀ L h' m → News h₀ L h' nw' → ((∃ c xs' t, xs = c :: xs' ∧ r = some (.str (sg [c]) t) ∧ Mut w tp pb dx sl K xs' [] ((I, ciO b ts false) :: (b, mObj x) :: rest) nw') ∨ (xs = [] ∧ r = none ∧ Mut w tp pb dx sl K [] [] ((I, ciO b ts true) :: (b, mObj x) :: rest) nw')) → Q r { s with heap := h', toks := tk' }) :
    wpAny (model PySem.Challenge.rw_pk0065_01.row.prog w) (ktrTop dp un gd cn cs L a ccd cl outer) (pyNext (.ref I)) Q E s := by
  have hf0 : (((hd.heap_39 w.params).lookup 42).any fun o => match o.data with | .func _ => true | _ => false) = true := by kernel_rfl
  (try k_fold)
  obtain ⟨of, hof, hof1⟩ := any_some hf0
  (try k_fold)
  obtain ⟨fd, hfd⟩ : ∃ fd, of.data = .func fd := by
    revert hof1
    cases of.data <;> simp
  have S2 : Stat w x tp pb dx sl ((I, ciO b ts false) :: (b, mObj x) :: rest) := (S.more (p := (b, mObj x)) hbp hbd hbs).more hIp hId hIs
  (try k_fold)
  obtain ⟨es, ln, ks, kp, sv, rfl, hE8, hK8, hs8, hx8⟩ := id M
  refine ci_next_go (b := b) (f := 42) (x := x) (ts := ts) (of := of) (fd := fd) rfl F N ?_ ?_ (X _ _ hof) hfd ?_
  · simp [ciO]
  · simp
  · refine codeAny_mono (read_char_k w x tp pb dx sl K xs [] _ S2 p loose mean mg mb dp (un + 1) gd cn cs a ccd cl outer A₀ base h₀ L m _ s (fun v s' => CiOut h₀ L m s I (ciObj (.ref b) (.str (Str.ofString "") ts) false) Q v s' ∧ (∃ o, s'.heap.get? b = some o ∧ o = methodObj (.ref 42) (.ref x))) (fun _ _ => False) B F X N T c1 c2 hk (by omega) (by omega) M ?_) fun r s' hr => ?_
    · rintro r nw' h' tk' F' N' ⟨t, rfl, es', ln', ks', kp', sv', rfl, hE9, hK9, hs9, hx9⟩
      (try k_unfold)
      refine ⟨⟨_, t, h', tk', (pb, PySem.W.listOf (List.toArray []) kp') :: (dx, dictOf es' 4) :: (sl, PySem.W.listOf sv'.toArray ks') :: (b, mObj x) :: rest, rfl, rfl, F', fun q hq => N' q ?_, ?_, fun hy => ?_, fun hy h'' F'' N'' => ?_⟩, _, (N' (b, mObj x) (by simp)).1, rfl⟩
      · simp only [List.mem_cons] at hq ⊢
        rcases hq with h | h | h | h | h | h
        · exact .inr (.inr (.inr (.inl (by rw [h]; simp [ciO]))))
        · exact .inl h
        · exact .inr (.inl h)
        · exact .inr (.inr (.inl h))
        · exact .inr (.inr (.inr (.inr (.inl h))))
        · exact .inr (.inr (.inr (.inr (.inr h))))
      · exact Apart.cons (Ne.symm hIp) (Apart.cons (Ne.symm hId) (Apart.cons (Ne.symm hIs) (Apart.cons (Ne.symm hIb) hIr)))
      · cases xs with
        | nil => exact absurd c0.symm hy
        | cons c xs' => exact h _ _ _ _ F' N' (.inl ⟨c, xs', t, rfl, rfl, ⟨es', ln', ks', kp', sv', rfl, hE9, hK9, hs9, hx9⟩⟩)
      · cases xs with
        | nil =>
          refine h none h'' tk' ((pb, PySem.W.listOf (List.toArray []) kp') :: (dx, dictOf es' 4) :: (sl, PySem.W.listOf sv'.toArray ks') :: (I, ciO b ts true) :: (b, mObj x) :: rest) F'' (fun q hq => N'' q ?_) (.inr ⟨rfl, rfl, ⟨es', ln', ks', kp', sv', rfl, hE9, hK9, hs9, hx9⟩⟩)
          simp only [List.mem_cons] at hq ⊢
          rcases hq with h | h | h | h | h | h
          · exact .inr (.inl h)
          · exact .inr (.inr (.inl h))
          · exact .inr (.inr (.inr (.inl h)))
          · exact .inl (by rw [h]; simp [ciO])
          · exact .inr (.inr (.inr (.inr (.inl h))))
          · exact .inr (.inr (.inr (.inr (.inr h))))
        | cons c xs' =>
          rw [c0] at hy
          simp at hy
    · cases r with
      | error e => exact hr.elim
      | ok f => cases f with
        | ret v => exact hr
        | next => exact hr.elim
        | brk => exact hr.elim
        | cont => exact hr.elim
end
end
section
open PySem PySem.W PyProof.Rows PyProof.Rows.LCg
section
variable {w : World} {A : Around} {E : Value → Shared → Prop} {s : Shared} {h₀ h : Heap} {L : Addr} {m : Str → Option Value} {news : Led} {x dx pb : Addr} {es : List DictEntry} {k : Nat} {ln : Int} {ins : Value}
theorem line_ws {expr : Bool} {Q : Value → Shared → Prop} (F : Fr h₀ L s.heap m) (X : (hd.heap_39 w.params).In h₀) (N : News h₀ L s.heap news) (h1 : (x, instObj 59 dx) ∈ news) (hE : LexE w ln ins pb es) (h2 : (dx, dictOf es k) ∈ news) (h : ∀ t', Q (.str (Str.ofString "\n\t\x0d ") t') { s with toks := s.toks + 1 }) :
    wpAny (model PySem.Challenge.rw_pk0065_01.row.prog w) A (getAttr (.ref x) (Str.ofString "whitespace") expr) Q E s := by
  revert X; k_fill; intro X
  obtain ⟨k1, k2, k3, k4, t1, t3, rfl⟩ := hE
  have I := InstAt.of_news N h1 h2
  k_dflt (refine' get_own F X I ?k4 ?k5 ?k6 ?k7 ?k8 ?k9 ?_; (case k4 => k_is); (case k5 => k_is); (case k6 => k_is); (case k7 => k_is); (case k8 => k_get); (case k9 => k_handed); exact h _)
theorem line_rd {pl : Sem Bool} {Q : Value × List Value → Shared → Prop} (F : Fr h₀ L s.heap m) (X : (hd.heap_39 w.params).In h₀) (N : News h₀ L s.heap news) (h1 : (x, instObj 59 dx) ∈ news) (hE : LexE w ln ins pb es) (h2 : (dx, dictOf es k) ∈ news) (h : Q (.ref 42, [.ref x]) s) :
    wpAny (model PySem.Challenge.rw_pk0065_01.row.prog w) A (getMethod (.ref x) (Str.ofString "_read_char") pl) Q E s := by
  revert X; k_fill; intro X
  obtain ⟨k1, k2, k3, k4, t1, t3, rfl⟩ := hE
  have I := InstAt.of_news N h1 h2
  k_dflt (refine' method_inst F X I ?k4 ?k5 ?k6 ?k7 ?_; (case k4 => k_is); (case k5 => k_is); (case k6 => k_is); (case k7 => k_get); exact h)
variable {tp sl : Addr} {K : Int} {xs : List Nat} {pv : List Value} {rest nn : Led}
inductive MutP (w : World) (tp pb dx : Addr) (nn : Led) : Prop
  | mk (es : List DictEntry) (ln : Int) (m : (dx, dictOf es 4) ∈ nn) (hE : LexE w ln (.ref tp) pb es)
inductive MutN (w : World) (tp pb dx sl : Addr) (K : Int) (xs : List Nat) (pv : List Value) (rest : Led) (N : Led → Prop) : Prop
  | mk (nn : Led) (M : Mut w tp pb dx sl K xs pv rest nn) (n : N nn)
/-- a line's parts and a line's facts, as the ledger bears them -/
theorem Mut.parts (M : Mut w tp pb dx sl K xs pv rest nn) : MutP w tp pb dx nn := by
  obtain ⟨es, ln, ks, kp, sv, rfl, hE, _⟩ := M
  exact ⟨es, ln, List.mem_cons_of_mem _ List.mem_cons_self, hE⟩
theorem Mut.len (M : Mut w tp pb dx sl K xs pv rest nn) : xs.length ≤ 2000 := by
  obtain ⟨_, _, _, _, _, _, _, _, _, h⟩ := M
  exact h
theorem Mut.sub (M : Mut w tp pb dx sl K xs pv rest nn) : ∀ p ∈ rest, p ∈ nn := by
  obtain ⟨es, ln, ks, kp, sv, rfl, _⟩ := M
  exact fun p hp => List.mem_cons_of_mem _ (List.mem_cons_of_mem _ (List.mem_cons_of_mem _ hp))
theorem Mut.focus (P : Led) (M : Mut w tp pb dx sl K xs pv rest nn) (N : News h₀ L h (P ++ nn)) : MutN w tp pb dx sl K xs pv (P ++ rest) (fun nn' => News h₀ L h nn') := by
  obtain ⟨es, ln, ks, kp, sv, rfl, hE, hK, hsv, hxs⟩ := M
  refine ⟨_, ⟨es, ln, ks, kp, sv, rfl, hE, hK, hsv, hxs⟩, news_sub N ?_⟩
  refine sub_cons (List.mem_append_right _ List.mem_cons_self) (sub_cons (List.mem_append_right _ (by k_mem)) (sub_cons (List.mem_append_right _ (by k_mem)) fun q hq => ?_))
  rcases List.mem_append.mp hq with e | e
  · exact List.mem_append_left _ e
  · exact List.mem_append_right _ (by k_mem)
theorem Mut.blur (P : Led) (M : Mut w tp pb dx sl K xs pv (P ++ rest) nn) (N : News h₀ L h nn) : MutN w tp pb dx sl K xs pv rest (fun nn' => News h₀ L h (P ++ nn')) := by
  obtain ⟨es, ln, ks, kp, sv, rfl, hE, hK, hsv, hxs⟩ := M
  refine ⟨_, ⟨es, ln, ks, kp, sv, rfl, hE, hK, hsv, hxs⟩, news_sub N fun q hq => ?_⟩
  rcases List.mem_append.mp hq with e | e
  · have := List.mem_append_left rest e
    k_mem
  · exact sub_cons (by k_mem) (sub_cons (by k_mem) (sub_cons (by k_mem) fun q h9 => by have := List.mem_append_right P h9; k_mem)) q e
theorem Mut.cases (M : Mut w tp pb dx sl K xs pv rest nn) : ∀ p ∈ nn, p.1 = pb ∨ p.1 = dx ∨ p.1 = sl ∨ p ∈ rest := by
  obtain ⟨es, ln, ks, kp, sv, rfl, _⟩ := M
  exact all_cons (.inl rfl) (all_cons (.inr (.inl rfl)) (all_cons (.inr (.inr (.inl rfl))) fun q h => .inr (.inr (.inr h))))
theorem Mut.addr (M : Mut w tp pb dx sl K xs pv rest nn) : (∃ o, (pb, o) ∈ nn) ∧ (∃ o, (dx, o) ∈ nn) ∧ (∃ o, (sl, o) ∈ nn) := by
  obtain ⟨es, ln, ks, kp, sv, rfl, _⟩ := M
  exact ⟨⟨_, List.mem_cons_self⟩, ⟨_, List.mem_cons_of_mem _ List.mem_cons_self⟩, ⟨_, List.mem_cons_of_mem _ (List.mem_cons_of_mem _ List.mem_cons_self)⟩⟩
/-- an address off a line's parts -/
structure NeL (a pb dx sl : Addr) : Prop where
  p : a ≠ pb
  d : a ≠ dx
  s : a ≠ sl
theorem Stat.moreL (S : Stat w x tp pb dx sl rest) {p : Addr × Obj} (h : NeL p.1 pb dx sl) : Stat w x tp pb dx sl (p :: rest) := S.more h.p h.d h.s
theorem Mut.ne {a : Addr} (M : Mut w tp pb dx sl K xs pv rest nn) (h : Apart a nn) : NeL a pb dx sl := by
  obtain ⟨⟨o1, h1⟩, ⟨o2, h2⟩, ⟨o3, h3⟩⟩ := M.addr
  exact ⟨Ne.symm (h _ h1), Ne.symm (h _ h2), Ne.symm (h _ h3)⟩
theorem Mut.apart {a : Addr} (M : Mut w tp pb dx sl K xs pv rest nn) (k : NeL a pb dx sl) (h : Apart a rest) : Apart a nn := fun p hp => by
  obtain ⟨h1, h2, h3⟩ := k
  rcases M.cases p hp with e | e | e | e
  · rw [e]; exact Ne.symm h1
  · rw [e]; exact Ne.symm h2
  · rw [e]; exact Ne.symm h3
  · exact h p e
end
section
variable {w : World} {E : Value → Shared → Prop} {s : Shared} {h₀ : Heap} {m : Str → Option Value} {news : Led} {x tp pb dx sl I b : Addr} {rest : Led} {K : Int} {xs : List Nat} {ts : Tok}
  {p : Program} {loose : List Str} {mean : ExcName → Option Value} {mg mb : Str → Option Value} {dp un : Nat} {gd : Option (List Code)} {cn : Str} {cs : Scope} {a : Addr} {ccd : Value} {cl : List (Str × Addr)} {outer : List Env} {A₀ : Around} {base : Heap} {env : Env}
/-- how a turn over a line's signs ends when it goes on -/
inductive ReadN (w : World) (x tp pb dx sl I b : Addr) (K : Int) (ts : Tok) (rest : Led) (h₀ : Heap) (L : Addr) (J : Bool → List Nat → (Str → Option Value) → Prop) (n : Nat) (s s₃ : Shared) : Prop
  | mk (h' : Heap) (tk : Nat) (m' : Str → Option Value) (nw : Led) (e : Bool) (xs : List Nat) (e1 : s₃ = { s with heap := h', toks := tk }) (F : Fr h₀ L h' m') (N : News h₀ L h' nw) (M : Mut w tp pb dx sl K xs [] ((I, ciO b ts e) :: (b, mObj x) :: rest) nw) (hn : e = false → xs.length < n) (j : J e xs m')
def REnd (w : World) (x tp pb dx sl I b : Addr) (K : Int) (ts : Tok) (rest : Led) (h₀ : Heap) (L : Addr) (J : Bool → List Nat → (Str → Option Value) → Prop) (n : Nat) (s : Shared) (Q : Flow → Shared → Prop) (f : Flow) (s₃ : Shared) : Prop := match f with
  | .next => ReadN w x tp pb dx sl I b K ts rest h₀ L J n s s₃
  | .cont => ReadN w x tp pb dx sl I b K ts rest h₀ L J n s s₃
  | .brk => Q .next s₃
  | .ret v => Q (.ret v) s₃
/-- a loop over a line's signs -/
theorem for_read {L : Addr} {var : Str} {px : Pos} {body : List Stmt} {Q : Flow → Shared → Prop} (hx : env.kindOf var = some .local) (hp : (env.scope.kind == .class || (env.scope.kind == .module && env.locals != env.globals)) = false)
    (hL : env.locals = L) (S : Stat w x tp pb dx sl rest) (hIb : I ≠ b) (hIp : I ≠ pb) (hId : I ≠ dx) (hIs : I ≠ sl) (hIr : Apart I rest) (hbp : b ≠ pb) (hbd : b ≠ dx) (hbs : b ≠ sl)
    (B : Below A₀ base outer h₀) (F : Fr h₀ L s.heap m) (X : (hd.heap_39 w.params).In h₀) (N : News h₀ L s.heap news) (T : Top p loose mean mg mb h₀) (c1 : CodeHd h₀ 185 181) (c2 : CodeHd h₀ 128 124) (hk : cs.kind = .function)
    (hdp : dp + 12 < 900) (hu : un + 8 * 12 < 900) (M : Mut w tp pb dx sl K xs [] ((I, ciO b ts false) :: (b, mObj x) :: rest) news) (J : Bool → List Nat → (Str → Option Value) → Prop) (j : J false xs m)
    (turn : ∀ c xs' m' nw h tk t (E' : Value → Shared → Prop), J false (c :: xs') m' → xs'.length ≤ 1999 → Mut w tp pb dx sl K xs' [] ((I, ciO b ts false) :: (b, mObj x) :: rest) nw → Fr h₀ L h (fun y => if y = var then some (.str (sg [c]) t) else m' y) → News h₀ L h nw →
      wpAny (model PySem.Challenge.rw_pk0065_01.row.prog w) (ktrTop dp un gd cn cs L a ccd cl outer) (execs body env) (fun f s₃ => Hold (REnd w x tp pb dx sl I b K ts rest h₀ L J (xs'.length + 1) s Q f s₃)) E' { s with heap := h, toks := tk })
    (fin : ∀ xs' m' nw h tk, (J true xs' m' ∨ (xs' = [] ∧ J false [] m')) → Mut w tp pb dx sl K xs' [] ((I, ciO b ts true) :: (b, mObj x) :: rest) nw → Fr h₀ L h m' → News h₀ L h nw → Q .next { s with heap := h, toks := tk }) :
    ForSrc PySem.Challenge.rw_pk0065_01.row.prog w (ktrTop dp un gd cn cs L a ccd cl outer) env var px body Q E (.ref I) s := by
  subst hL
  refine for_ci (I := I) (f := .ref b) (y := .str (Str.ofString "") ts) (e := false) hx hp F N (M.sub _ List.mem_cons_self)
    (fun n m nw => ∃ e xs', Mut w tp pb dx sl K xs' [] ((I, ciO b ts e) :: (b, mObj x) :: rest) nw ∧ J e xs' m ∧ n = cond e 0 (xs'.length + 1)) (xs.length + 1) ⟨false, xs, M, j, rfl⟩ ?_
  rintro n m' nw h tk E' ⟨e, xs', M', j', rfl⟩ F' N'
  have end_ : ∀ (xs2 : List Nat) (n' : Nat), xs2.length + 1 ≤ n' → ∀ f s₃, Hold (REnd w x tp pb dx sl I b K ts rest h₀ env.locals J (xs2.length + 1) s Q f s₃) → Hold (TEnd h₀ env.locals (fun n m nw => ∃ e xs', Mut w tp pb dx sl K xs' [] ((I, ciO b ts e) :: (b, mObj x) :: rest) nw ∧ J e xs' m ∧ n = cond e 0 (xs'.length + 1)) (n' + 1) s Q f s₃) := fun xs2 n' hn' f s₃ q => by
    have g : ReadN w x tp pb dx sl I b K ts rest h₀ env.locals J (xs2.length + 1) s s₃ → TNext h₀ env.locals (fun n m nw => ∃ e xs', Mut w tp pb dx sl K xs' [] ((I, ciO b ts e) :: (b, mObj x) :: rest) nw ∧ J e xs' m ∧ n = cond e 0 (xs'.length + 1)) (n' + 1) s s₃ := by
      rintro ⟨h', tk, m', nw, e, xs3, e1, F, N, M, hn, j⟩
      refine ⟨h', tk, m', nw, e1, F, N, _, ?_, e, xs3, M, j, rfl⟩
      cases e with
      | true => exact Nat.succ_pos _
      | false => have := hn rfl; show xs3.length + 1 < n' + 1; omega
    cases f with
    | next => exact Hold.mk (g q)
    | cont => exact Hold.mk (g q)
    | brk => exact q
    | ret v => exact q
  cases e with
  | true => exact ci_next_end (I := I) rfl F' N' (M'.sub _ List.mem_cons_self) fun h5 F9 N9 => fin xs' m' nw h5 tk (.inl j') M' F9 N9
  | false =>
    refine ci_read S hIb hIp hId hIs hIr hbp hbd hbs B F' X N' T c1 c2 hk hdp hu M' ?_
    have hl := M'.len
    rintro r h3 tk3 nw3 F6 N6 (⟨c, xs2, tc, rfl, rfl, M2⟩ | ⟨rfl, rfl, M2⟩)
    · refine ⟨_, _, _, rfl, F6, N6, fun h7 tk7 E7 F7 N7 => wpAny_mono (turn c xs2 m' nw3 h7 tk7 tc _ j' (by simp only [List.length_cons] at hl; omega) M2 F7 N7) (end_ xs2 _ (by simp)) fun _ _ x => x⟩
    · exact fin [] m' nw3 h3 tk3 (.inr ⟨rfl, j'⟩) M2 F6 N6
end
end
section
open PySem PySem.W PyProof.Rows PyProof.Rows.LCg
theorem news_dup {h₀ h : Heap} {L : Addr} {l : Led} {q : Addr × Obj} (N : News h₀ L h l) (hm : q ∈ l) : News h₀ L h (q :: l) := fun p hp => by
  rcases List.mem_cons.mp hp with rfl | hp
  · exact N _ hm
  · exact N _ hp
theorem news_in4 {h₀ h : Heap} {L : Addr} {a b c q : Addr × Obj} {l : Led} (N : News h₀ L h (a :: b :: c :: l)) (hm : q ∈ l) : News h₀ L h (a :: b :: c :: q :: l) := fun p hp => by
  simp only [List.mem_cons] at hp
  rcases hp with h | h | h | h | h
  · exact N p (by simp [h])
  · exact N p (by simp [h])
  · exact N p (by simp [h])
  · exact N p (by simp [h, hm])
  · exact N p (by simp [h])
theorem news_out4 {h₀ h : Heap} {L : Addr} {a b c q : Addr × Obj} {l : Led} (N : News h₀ L h (a :: b :: c :: q :: l)) : News h₀ L h (a :: b :: c :: l) := fun p hp => N p (by
  simp only [List.mem_cons] at hp ⊢
  rcases hp with h | h | h | h <;> simp [h])
theorem iaddL {prog : Program} {w : World} {A : Around} {E : Value → Shared → Prop} {s : Shared} {x y : Str} {a b : List Nat} {t u : Tok} {Q : Value → Shared → Prop} (hx : x = sg a) (hy : y = sg b) (hsz : a.length + b.length ≤ 1000000) (h : ∀ t' tk, Q (.str (sg (a ++ b)) t') { s with toks := tk }) : wpAny (model prog w) A (inplaceOp .Add (.str x t) (.str y u)) Q E s := by
  subst hx hy
  refine iadd_str (fun t' tk => ?_) ?_
  · have e : (sg a ++ sg b : Str) = sg (a ++ b) := Str.ext' (by simp [Str.cps_append])
    rw [e]; exact h t' tk
  · show (sg a).cps.size + (sg b).cps.size ≤ sizeLine
    simp only [List.size_toArray, sizeLine]; omega
theorem news_out6 {h₀ h : Heap} {L : Addr} {a b c q r t : Addr × Obj} {l : Led} (N : News h₀ L h (a :: b :: c :: q :: r :: t :: l)) : News h₀ L h (a :: b :: c :: l) := fun p hp => N p (by
  simp only [List.mem_cons] at hp ⊢
  rcases hp with h | h | h | h <;> simp [h])
theorem news_out5 {h₀ h : Heap} {L : Addr} {a b c q r : Addr × Obj} {l : Led} (N : News h₀ L h (a :: b :: c :: q :: r :: l)) : News h₀ L h (a :: b :: c :: l) := fun p hp => N p (by
  simp only [List.mem_cons] at hp ⊢
  rcases hp with h | h | h | h <;> simp [h])
theorem bs_fin (f : List Nat → List Nat × List Nat) (h0 : f [92] = ([], [])) (h00 : f [] = ([], [])) (h1 : ∀ d r, f (92 :: d :: r) = (d :: (f r).1, (f r).2)) (tok xs : List Nat) :
    (tok ++ xs.take 1 ++ (f (xs.drop 1)).1, (f (xs.drop 1)).2) = (tok ++ (f (92 :: xs)).1, (f (92 :: xs)).2) := by
  cases xs with
  | nil => simp [h0, h00]
  | cons d r => simp [h1]
theorem bs_start (xs : List Nat) : ([] ++ xs.take 1 ++ (lexW (xs.drop 1)).1, (lexW (xs.drop 1)).2) = lexT (92 :: xs) := by
  cases xs with
  | nil => rfl
  | cons d r => rw [lexT_b]; rfl
theorem ws_toList : (Str.ofString "\n\t\x0d ").cps.toList = [10, 9, 13, 32] := by decide +kernel
theorem ws_in (c : Nat) : (!(Builtin.Str.occurrences (Str.ofString "\n\t\x0d ") (sg [c]) 0 (Str.ofString "\n\t\x0d ").length 1).isEmpty) = wsp c := by
  have h := StrLaws.found_one (Str.ofString "\n\t\x0d ") c
  rw [ws_toList] at h
  refine Eq.trans h ?_
  by_cases h1 : c = 10
  · subst h1; rfl
  · by_cases h2 : c = 9
    · subst h2; rfl
    · by_cases h3 : c = 13
      · subst h3; rfl
      · by_cases h4 : c = 32
        · subst h4; rfl
        · simp [wsp, h1, h2, h3, h4]
theorem ws_yes {c : Nat} (h : (Builtin.Str.occurrences (Str.ofString "\n\t\x0d ") (sg [c]) 0 (Str.ofString "\n\t\x0d ").length 1).isEmpty = false) : wsp c = true := by rw [← ws_in c, h]; rfl
theorem ws_no {c : Nat} (h : (Builtin.Str.occurrences (Str.ofString "\n\t\x0d ") (sg [c]) 0 (Str.ofString "\n\t\x0d ").length 1).isEmpty = true) : wsp c = false := by rw [← ws_in c, h]; rfl
theorem sg_eq {c d : Nat} {y : Str} (hy : y = sg [d]) (h : (sg [c] == y) = true) : c = d := by
  have := eq_of_beq h
  rw [hy] at this
  simpa [sg] using this
theorem sg_ne {c d : Nat} {y : Str} (hy : y = sg [d]) (h : (sg [c] == y) = false) : c ≠ d := by
  intro e
  subst e
  rw [hy] at h
  simp at h
section
theorem wds_L7a : True := by
  k_with_none
  (k_with "call builtin:list.pop" => (k_here; (with_reducible show wpAny _ _ (call (Value.builtin _) [Value.ref _, Value.int _ _]) _ _ _); k_dflt (refine' pop0_led (by k_asm) (by k_asm) (by k_upd) (by omega) ?_); intro _ _ N'; (try dsimp only [List.nil_append, List.cons_append] at N'); (try (revert N'; intro _))))
  trivial
theorem get_push_c (w : World) (x tp pb dx sl : Addr) (K : Int) (xs : List Nat) (v : Value) (pv : List Value) (rest : Led) (S : Stat w x tp pb dx sl rest) (hpv : pv.length ≤ 100) :
    Sp w 6 (.ref 49) [.ref x] (fun news => Mut w tp pb dx sl K xs (v :: pv) rest news) (fun _ r news' => r = v ∧ Mut w tp pb dx sl K xs pv rest news') := by
  intro p loose mean mg mb dp un gd cn cs a ccd cl outer A₀ base h₀ L m news s Q E B F X N T c1 c2 hk hdp hu pre hret
  revert X; k_fill; intro X
  refine wpAny_call ?_
  k_dflt ktr_enter
  rename_i g1 L1 hp1 FG1 F1 N1 B1 X1 T1
  have c1' := CodeHd.keeps c1 FG1.keep
  have c2' := CodeHd.keeps c2 FG1.keep
  obtain ⟨es, ln, ks, kp, sv, rfl, ⟨k1, k2, k3, k4, t1, t3, rfl⟩, hK, hsv, hxs⟩ := pre
  have xpb : @Ne Nat x pb := S.apb _ S.inst
  have pdx : @Ne Nat pb dx := S.n1
  have psl : @Ne Nat pb sl := S.n2
  have xdx : @Ne Nat x dx := S.adx _ S.inst
  have xsl : @Ne Nat x sl := S.asl _ S.inst
  have dsl : @Ne Nat dx sl := S.n3
  have apb := S.apb
  have adx := S.adx
  have asl := S.asl
  have N2 := news_in4 N1 S.inst
  clear N1
  k_steps
  rename_i kF kN _ _
  exact hret _ ((pb, PySem.W.listOf pv.toArray (kp + 1)) :: (dx, dictOf _ 4) :: (sl, PySem.W.listOf sv.toArray ks) :: rest) _ _ kF (news_out4 kN) ⟨rfl, _, _, _, _, _, rfl, ⟨_, _, _, _, _, _, rfl⟩, hK, hsv, hxs⟩
theorem wds_L7b : True := by
  (k_with "call builtin:iter" => (k_here; (with_reducible show wpAny _ _ (call (Value.builtin _) [Value.ref _, Value.str _ _]) _ _ _); k_dflt (refine' iter2_led (by k_asm) (by k_asm) (by k_mem) ?_); intro _ _ _ _; kpr_short))
  (k_with "exec For Name Name cons nil" => (k_here; (try k_fold); refine Hold.out ?_))
  (k_with "call ref" => (k_here; (with_reducible show wpAny _ _ (call (Value.ref 42) _) _ _ _); refine Hold.out ?_))
  (k_with "getAttr ref" => (k_here; (with_reducible show wpAny _ _ (getAttr (Value.ref _) (PySem.Str.ofString "whitespace") _) _ _ _); k_dflt (refine' line_ws (by k_asm) (by k_asm) (by k_asm) (by k_mem) (by assumption) (by k_mem) ?_); intro _))
  (k_with "getMethod ref" => (k_here; (with_reducible show wpAny _ _ (getMethod (Value.ref _) (PySem.Str.ofString "_read_char") _) _ _ _); k_dflt (refine' line_rd (by k_asm) (by k_asm) (by k_asm) (by k_mem) (by assumption) (by k_mem) ?_)))
  (k_with "inplaceOp Add str str" => (k_here; (with_unfolding_all refine' iaddL (by (exact rfl)) (by (exact rfl)) (by ((simp only [List.length_append, List.length_cons, List.length_nil, List.length_take]; omega))) ?_); intro _ _))
  trivial
/-- where the outer loop stands: with e, the token is read -/
inductive OutJ (x I : Addr) (xs : List Nat) (e : Bool) (xs' : List Nat) (m : Str → Option Value) : Prop
  | mk (tok : List Nat) (t : Tok) (ms : m (Str.ofString "self") = some (.ref x)) (mt : m (Str.ofString "token") = some (.str (sg tok) t)) (mf : m (Str.ofString "fiter") = some (.ref I)) (h : (e = false ∧ tok = [] ∧ lexT xs' = lexT xs) ∨ (e = true ∧ (tok, xs') = lexT xs))
inductive InnJ (f : List Nat → List Nat × List Nat) (x I : Addr) (xs : List Nat) (e : Bool) (xs' : List Nat) (m : Str → Option Value) : Prop
  | mk (tok : List Nat) (t : Tok) (ms : m (Str.ofString "self") = some (.ref x)) (mt : m (Str.ofString "token") = some (.str (sg tok) t)) (mf : m (Str.ofString "fiter") = some (.ref I)) (he : e = false) (htl : tok.length + xs'.length ≤ 2000) (hl : (tok ++ (f xs').1, (f xs').2) = lexT xs)
theorem get_read_c (w : World) (x tp pb dx sl : Addr) (K : Int) (xs : List Nat) (rest : Led) (S : Stat w x tp pb dx sl rest) :
    Sp w 20 (.ref 49) [.ref x] (fun news => Mut w tp pb dx sl K xs [] rest news) (fun _ r news' => ∃ t, r = .str (sg (lexT xs).1) t ∧ Mut w tp pb dx sl K (lexT xs).2 [] rest news') := by
  intro p loose mean mg mb dp un gd cn cs a ccd cl outer A₀ base h₀ L m news s Q E B F X N T c1 c2 hk hdp hu pre hret
  revert X; k_fill; intro X
  refine wpAny_call ?_
  k_dflt ktr_enter
  rename_i g1 L1 hp1 FG1 F1 N1 B1 X1 T1
  have c1' := CodeHd.keeps c1 FG1.keep
  have c2' := CodeHd.keeps c2 FG1.keep
  obtain ⟨es, ln, ks, kp, sv, rfl, ⟨k1, k2, k3, k4, t1, t3, rfl⟩, hK, hsv, hxs⟩ := pre
  have xpb : @Ne Nat x pb := S.apb _ S.inst
  have pdx : @Ne Nat pb dx := S.n1
  have psl : @Ne Nat pb sl := S.n2
  have xdx : @Ne Nat x dx := S.adx _ S.inst
  have xsl : @Ne Nat x sl := S.asl _ S.inst
  have dsl : @Ne Nat dx sl := S.n3
  have apb := S.apb
  have adx := S.adx
  have asl := S.asl
  have N2 := news_in4 N1 S.inst
  clear N1
  k_steps
  refine Hold.mk (for_hold ?_)
  k_steps
  rename_i b _ lb I _ lI h2 F2 N3
  have hIb : I ≠ b := Nat.ne_of_gt lI.1
  have hIp : I ≠ pb := Nat.ne_of_gt lI.2.1
  have hId : I ≠ dx := Nat.ne_of_gt lI.2.2.1
  have hIs : I ≠ sl := Nat.ne_of_gt lI.2.2.2.1
  have hIr : Apart I rest := fun q hq => Nat.ne_of_lt (allLt_mem lI.2.2.2.2.2 q hq)
  have hbp : b ≠ pb := Nat.ne_of_gt lb.1
  have hbd : b ≠ dx := Nat.ne_of_gt lb.2.1
  have hbs : b ≠ sl := Nat.ne_of_gt lb.2.2.1
  have c1' := CodeHd.keeps c1 FG1.keep
  have c2' := CodeHd.keeps c2 FG1.keep
  obtain ⟨ts, N4⟩ : ∃ ts, News g1 L1 h2 ((I, ciObj (.ref b) (.str (Str.ofString "") ts) false) :: (b, mObj x) :: (pb, PySem.W.listOf (List.toArray []) kp) :: (dx, dictOf [ent w "lineno" k1 (.int ln t1), ent w "instream" k2 (.ref tp), ent w "whitespace" k3 (.str (Str.ofString "\n\t\x0d ") t3), ent w "pushback" k4 (.ref pb)] 4) :: (sl, PySem.W.listOf sv.toArray ks) :: (x, instObj 59 dx) :: rest) := ⟨_, N3⟩
  have S2 : Stat w x tp pb dx sl ((I, ciO b ts false) :: (b, mObj x) :: rest) := (S.more (p := (b, mObj x)) hbp hbd hbs).more hIp hId hIs
  clear N3
  have M5 : Mut w tp pb dx sl K xs [] ((I, ciO b ts false) :: (b, mObj x) :: rest) ((pb, PySem.W.listOf (List.toArray []) kp) :: (dx, dictOf [ent w "lineno" k1 (.int ln t1), ent w "instream" k2 (.ref tp), ent w "whitespace" k3 (.str (Str.ofString "\n\t\x0d ") t3), ent w "pushback" k4 (.ref pb)] 4) :: (sl, PySem.W.listOf sv.toArray ks) :: (I, ciO b ts false) :: (b, mObj x) :: rest) := ⟨_, _, _, _, _, rfl, ⟨_, _, _, _, _, _, rfl⟩, hK, hsv, hxs⟩
  have N5 := news_sub N4 (l := (pb, PySem.W.listOf (List.toArray []) kp) :: (dx, dictOf [ent w "lineno" k1 (.int ln t1), ent w "instream" k2 (.ref tp), ent w "whitespace" k3 (.str (Str.ofString "\n\t\x0d ") t3), ent w "pushback" k4 (.ref pb)] 4) :: (sl, PySem.W.listOf sv.toArray ks) :: (I, ciO b ts false) :: (b, mObj x) :: rest) (by (repeat refine sub_cons (by k_mem) ?_); (first | exact sub_nil | exact fun q h9 => by k_mem))
  (try k_fold)
  generalize (pb, PySem.W.listOf (List.toArray []) kp) :: (dx, dictOf [ent w "lineno" k1 (.int ln t1), ent w "instream" k2 (.ref tp), ent w "whitespace" k3 (.str (Str.ofString "\n\t\x0d ") t3), ent w "pushback" k4 (.ref pb)] 4) :: (sl, PySem.W.listOf sv.toArray ks) :: (I, ciO b ts false) :: (b, mObj x) :: rest = nw5 at M5 N5
  clear N4
  refine Hold.mk (for_read (I := I) (b := b) (ts := ts) rfl rfl rfl S hIb hIp hId hIs hIr hbp hbd hbs B1 F2 X1 N5 T1 c1' c2' rfl (by ((try simp only [depth_in1, depth_deeper]); (try dsimp only [ktrTop]); omega)) (by ((try simp only [units_in1, units_deeper, Around.mark_units]); (try dsimp only [ktrTop]); omega)) M5 (OutJ x I xs) ⟨[], _, rfl, congrArg (fun y => some (Value.str y _)) c0, rfl, .inl ⟨rfl, rfl, rfl⟩⟩ ?_ ?_)
  · clear M5 N5 F2 hK hsv hxs
    rintro c xs2 m' nw h7 tk7 tc E7 ⟨tok0, t0, ms, mt, mf, hcase⟩ hcx M7 F7 N7
    have hc9 : tok0 = [] ∧ lexT (c :: xs2) = lexT xs := by
      rcases hcase with ⟨_, h1, h2⟩ | ⟨h, _⟩
      · exact ⟨h1, h2⟩
      · cases h
    obtain ⟨rfl, hl⟩ := hc9
    clear hcase
    obtain ⟨es7, ln7, m7x, hE7⟩ := M7.parts
    have mx7 : (x, instObj 59 dx) ∈ nw := M7.sub _ S2.inst
    have F8 := canon (x := Str.ofString "ch") (canon (x := Str.ofString "fiter") (canon (x := Str.ofString "token") (canon (x := Str.ofString "self") F7 ms) mt) mf) rfl
    clear F7 ms mt mf
    k_steps
    · -- the quote
      rename_i hw _ hc
      have hc' := sg_eq c34 hc
      subst hc'
      rw [lexT_q] at hl
      refine Hold.mk (for_hold ?_)
      k_steps
      refine Hold.mk (for_read (I := I) (b := b) (ts := ts) rfl rfl rfl S hIb hIp hId hIs hIr hbp hbd hbs B1 F8 X1 N7 T1 c1' c2' rfl (by ((try simp only [depth_in1, depth_deeper]); (try dsimp only [ktrTop]); omega)) (by ((try simp only [units_in1, units_deeper, Around.mark_units]); (try dsimp only [ktrTop]); omega)) M7 (InnJ lexQ x I xs) ⟨[], _, rfl, rfl, rfl, rfl, (by simp only [List.length_nil]; omega), hl⟩ ?_ ?_)
      · rintro c3 xs3 m9 nw9 h9 tk9 tc9 E9 ⟨tok, t, ms, mt, mf, _, htl, hl⟩ hcx3 M9 F9 N9
        obtain ⟨es9, ln9, m9x, hE9⟩ := M9.parts
        have mx9 : (x, instObj 59 dx) ∈ nw9 := M9.sub _ S2.inst
        have F10 := canon (x := Str.ofString "ch") (canon (x := Str.ofString "fiter") (canon (x := Str.ofString "token") (canon (x := Str.ofString "self") F9 ms) mt) mf) rfl
        have htl2 : tok.length + xs3.length ≤ 1999 := by simp only [List.length_cons] at htl; omega
        clear F9 ms mt mf
        k_steps
        · rename_i hc2
          have e34 := sg_eq c34 hc2
          subst e34
          rw [lexQ_end, List.append_nil] at hl
          (try dsimp only)
          refine Hold.mk ?_
          dsimp only [REnd]
          k_steps
          refine Hold.mk ?_
          (try k_unfold)
          dsimp only [REnd]
          k_steps
          rename_i kF kN _ _
          have e1 : (lexT xs).1 = tok := by rw [← hl]
          have e2 : (lexT xs).2 = xs3 := by rw [← hl]
          obtain ⟨nnr, Mr, Nr⟩ := M9.blur [(I, ciO b ts false), (b, mObj x)] kN
          (try k_unfold)
          exact hret _ nnr _ _ kF (fun q hq => Nr q (List.mem_cons_of_mem _ (List.mem_cons_of_mem _ hq))) ⟨_, by rw [e1], by rw [e2]; exact Mr⟩
        · rename_i hn2 _ hc2
          have e92 := sg_eq c92 hc2
          subst e92
          refine Hold.mk ?_
          k_dflt (refine' sp_at (read_char_c w x tp pb dx sl K _ [] ((I, ciO b ts false) :: (b, mObj x) :: rest) S2) (by kf1_first) M9 ?_)
          rintro r9 nwa ha tka Fa Na ⟨ta, rfl, Ma⟩
          clear F10 N9
          k_steps
          rename_i FE NE
          refine Hold.mk ⟨_, _, _, _, false, xs3.drop 1, rfl, FE, NE, Ma, fun _ => ?_, tok ++ xs3.take 1, _, rfl, rfl, rfl, rfl, ?_, ?_⟩
          · rw [List.length_drop]; omega
          · simp only [List.length_append, List.length_take, List.length_drop]; omega
          · rw [← hl]; exact bs_fin lexQ rfl rfl lexQ_bs tok xs3
        · rename_i hn1 _ hn2 _ _ _ FE NE
          have h34 := sg_ne c34 hn1
          have h92 := sg_ne c92 hn2
          refine Hold.mk ⟨_, _, _, _, false, xs3, rfl, FE, NE, M9, fun _ => Nat.lt_succ_self _, tok ++ [c3], _, rfl, rfl, rfl, rfl, ?_, ?_⟩
          · simp only [List.length_append, List.length_cons, List.length_nil]; omega
          · rw [← hl, lexQ_c _ h34 h92]; simp
      · rintro xs3 m9 nw9 h9 tk9 j9 M9 F9 N9
        have h9 : InnJ lexQ x I xs false [] m9 ∧ xs3 = [] := by
          rcases j9 with ⟨_, _, _, _, _, h, _, _⟩ | ⟨h, j⟩
          · cases h
          · exact ⟨j, h⟩
        obtain ⟨⟨tok, t, ms, mt, mf, _, htl, hl⟩, rfl⟩ := h9
        have F10 := canon (x := Str.ofString "fiter") (canon (x := Str.ofString "token") (canon (x := Str.ofString "self") F9 ms) mt) mf
        have hl' : (tok, []) = lexT xs := by rw [← hl]; simp [lexQ]
        clear F9 ms mt mf
        (try dsimp only)
        k_steps
        exact Hold.mk ⟨_, _, _, _, true, [], rfl, F10, N9, M9, (fun h => nomatch h), tok, _, rfl, rfl, rfl, .inr ⟨rfl, hl'⟩⟩
    · -- a backslash
      rename_i hw _ _ _ hc
      have hc' := sg_eq c92 hc
      subst hc'
      refine Hold.mk ?_
      k_dflt (refine' sp_at (read_char_c w x tp pb dx sl K _ [] ((I, ciO b ts false) :: (b, mObj x) :: rest) S2) (by kf1_first) M7 ?_)
      rintro r9 nw9 h9 tk9 F9 N9 ⟨t9, rfl, M9⟩
      clear F8 N7
      k_steps
      rename_i FE NE
      refine Hold.mk (for_hold ?_)
      k_steps
      refine Hold.mk (for_read (I := I) (b := b) (ts := ts) rfl rfl rfl S hIb hIp hId hIs hIr hbp hbd hbs B1 FE X1 NE T1 c1' c2' rfl (by ((try simp only [depth_in1, depth_deeper]); (try dsimp only [ktrTop]); omega)) (by ((try simp only [units_in1, units_deeper, Around.mark_units]); (try dsimp only [ktrTop]); omega)) M9 (InnJ lexW x I xs) ⟨[] ++ xs2.take 1, _, rfl, rfl, rfl, rfl, (by simp only [List.length_append, List.length_take, List.length_drop, List.length_nil]; omega), (by rw [← hl]; exact bs_start xs2)⟩ ?_ ?_)
      · rintro c3 xs3 m9 nw9 h9 tk9 tc9 E9 ⟨tok, t, ms, mt, mf, _, htl, hl⟩ hcx3 M9 F9 N9
        obtain ⟨es9, ln9, m9x, hE9⟩ := M9.parts
        have mx9 : (x, instObj 59 dx) ∈ nw9 := M9.sub _ S2.inst
        have F10 := canon (x := Str.ofString "ch") (canon (x := Str.ofString "fiter") (canon (x := Str.ofString "token") (canon (x := Str.ofString "self") F9 ms) mt) mf) rfl
        have htl2 : tok.length + xs3.length ≤ 1999 := by simp only [List.length_cons] at htl; omega
        clear F9 ms mt mf
        k_steps
        · rename_i hw2 _ hc2
          have e92 := sg_eq c92 hc2
          subst e92
          refine Hold.mk ?_
          k_dflt (refine' sp_at (read_char_c w x tp pb dx sl K _ [] ((I, ciO b ts false) :: (b, mObj x) :: rest) S2) (by kf1_first) M9 ?_)
          rintro r9 nwa ha tka Fa Na ⟨ta, rfl, Ma⟩
          clear F10 N9
          k_steps
          rename_i FE NE
          refine Hold.mk ⟨_, _, _, _, false, xs3.drop 1, rfl, FE, NE, Ma, fun _ => ?_, tok ++ xs3.take 1, _, rfl, rfl, rfl, rfl, ?_, ?_⟩
          · rw [List.length_drop]; omega
          · simp only [List.length_append, List.length_take, List.length_drop]; omega
          · rw [← hl]; exact bs_fin lexW rfl rfl lexW_b tok xs3
        · rename_i hw2 _ hn2 _ _ _ FE NE
          have hws := ws_no hw2
          have h92 := sg_ne c92 hn2
          refine Hold.mk ⟨_, _, _, _, false, xs3, rfl, FE, NE, M9, fun _ => Nat.lt_succ_self _, tok ++ [c3], _, rfl, rfl, rfl, rfl, ?_, ?_⟩
          · simp only [List.length_append, List.length_cons, List.length_nil]; omega
          · rw [← hl, lexW_c _ hws h92]; simp
        · rename_i hw2
          have hws := ws_yes hw2
          rw [lexW_end _ hws, List.append_nil] at hl
          (try dsimp only)
          refine Hold.mk ?_
          dsimp only [REnd]
          k_steps
          refine Hold.mk ?_
          (try k_unfold)
          dsimp only [REnd]
          k_steps
          rename_i kF kN _ _
          have e1 : (lexT xs).1 = tok := by rw [← hl]
          have e2 : (lexT xs).2 = xs3 := by rw [← hl]
          obtain ⟨nnr, Mr, Nr⟩ := M9.blur [(I, ciO b ts false), (b, mObj x)] kN
          (try k_unfold)
          exact hret _ nnr _ _ kF (fun q hq => Nr q (List.mem_cons_of_mem _ (List.mem_cons_of_mem _ hq))) ⟨_, by rw [e1], by rw [e2]; exact Mr⟩
      · rintro xs3 m9 nw9 h9 tk9 j9 M9 F9 N9
        have h9 : InnJ lexW x I xs false [] m9 ∧ xs3 = [] := by
          rcases j9 with ⟨_, _, _, _, _, h, _, _⟩ | ⟨h, j⟩
          · cases h
          · exact ⟨j, h⟩
        obtain ⟨⟨tok, t, ms, mt, mf, _, htl, hl⟩, rfl⟩ := h9
        have F10 := canon (x := Str.ofString "fiter") (canon (x := Str.ofString "token") (canon (x := Str.ofString "self") F9 ms) mt) mf
        have hl' : (tok, []) = lexT xs := by rw [← hl]; simp [lexW]
        clear F9 ms mt mf
        (try dsimp only)
        k_steps
        exact Hold.mk ⟨_, _, _, _, true, [], rfl, F10, N9, M9, (fun h => nomatch h), tok, _, rfl, rfl, rfl, .inr ⟨rfl, hl'⟩⟩
    · -- another sign
      rename_i hw _ hn1 _ hn2 _ _ _ FE NE
      have hws := ws_no hw
      have h34 := sg_ne c34 hn1
      have h92 := sg_ne c92 hn2
      rw [lexT_c _ hws h92 h34] at hl
      refine Hold.mk (for_hold ?_)
      k_steps
      refine Hold.mk (for_read (I := I) (b := b) (ts := ts) rfl rfl rfl S hIb hIp hId hIs hIr hbp hbd hbs B1 FE X1 NE T1 c1' c2' rfl (by ((try simp only [depth_in1, depth_deeper]); (try dsimp only [ktrTop]); omega)) (by ((try simp only [units_in1, units_deeper, Around.mark_units]); (try dsimp only [ktrTop]); omega)) M7 (InnJ lexW x I xs) ⟨[] ++ [c], _, rfl, rfl, rfl, rfl, (by simp only [List.length_append, List.length_cons, List.length_nil]; omega), hl⟩ ?_ ?_)
      · rintro c3 xs3 m9 nw9 h9 tk9 tc9 E9 ⟨tok, t, ms, mt, mf, _, htl, hl⟩ hcx3 M9 F9 N9
        obtain ⟨es9, ln9, m9x, hE9⟩ := M9.parts
        have mx9 : (x, instObj 59 dx) ∈ nw9 := M9.sub _ S2.inst
        have F10 := canon (x := Str.ofString "ch") (canon (x := Str.ofString "fiter") (canon (x := Str.ofString "token") (canon (x := Str.ofString "self") F9 ms) mt) mf) rfl
        have htl2 : tok.length + xs3.length ≤ 1999 := by simp only [List.length_cons] at htl; omega
        clear F9 ms mt mf
        k_steps
        · rename_i hw2 _ hc2
          have e92 := sg_eq c92 hc2
          subst e92
          refine Hold.mk ?_
          k_dflt (refine' sp_at (read_char_c w x tp pb dx sl K _ [] ((I, ciO b ts false) :: (b, mObj x) :: rest) S2) (by kf1_first) M9 ?_)
          rintro r9 nwa ha tka Fa Na ⟨ta, rfl, Ma⟩
          clear F10 N9
          k_steps
          rename_i FE NE
          refine Hold.mk ⟨_, _, _, _, false, xs3.drop 1, rfl, FE, NE, Ma, fun _ => ?_, tok ++ xs3.take 1, _, rfl, rfl, rfl, rfl, ?_, ?_⟩
          · rw [List.length_drop]; omega
          · simp only [List.length_append, List.length_take, List.length_drop]; omega
          · rw [← hl]; exact bs_fin lexW rfl rfl lexW_b tok xs3
        · rename_i hw2 _ hn2 _ _ _ FE NE
          have hws := ws_no hw2
          have h92 := sg_ne c92 hn2
          refine Hold.mk ⟨_, _, _, _, false, xs3, rfl, FE, NE, M9, fun _ => Nat.lt_succ_self _, tok ++ [c3], _, rfl, rfl, rfl, rfl, ?_, ?_⟩
          · simp only [List.length_append, List.length_cons, List.length_nil]; omega
          · rw [← hl, lexW_c _ hws h92]; simp
        · rename_i hw2
          have hws := ws_yes hw2
          rw [lexW_end _ hws, List.append_nil] at hl
          (try dsimp only)
          refine Hold.mk ?_
          dsimp only [REnd]
          k_steps
          refine Hold.mk ?_
          (try k_unfold)
          dsimp only [REnd]
          k_steps
          rename_i kF kN _ _
          have e1 : (lexT xs).1 = tok := by rw [← hl]
          have e2 : (lexT xs).2 = xs3 := by rw [← hl]
          obtain ⟨nnr, Mr, Nr⟩ := M9.blur [(I, ciO b ts false), (b, mObj x)] kN
          (try k_unfold)
          exact hret _ nnr _ _ kF (fun q hq => Nr q (List.mem_cons_of_mem _ (List.mem_cons_of_mem _ hq))) ⟨_, by rw [e1], by rw [e2]; exact Mr⟩
      · rintro xs3 m9 nw9 h9 tk9 j9 M9 F9 N9
        have h9 : InnJ lexW x I xs false [] m9 ∧ xs3 = [] := by
          rcases j9 with ⟨_, _, _, _, _, h, _, _⟩ | ⟨h, j⟩
          · cases h
          · exact ⟨j, h⟩
        obtain ⟨⟨tok, t, ms, mt, mf, _, htl, hl⟩, rfl⟩ := h9
        have F10 := canon (x := Str.ofString "fiter") (canon (x := Str.ofString "token") (canon (x := Str.ofString "self") F9 ms) mt) mf
        have hl' : (tok, []) = lexT xs := by rw [← hl]; simp [lexW]
        clear F9 ms mt mf
        (try dsimp only)
        k_steps
        exact Hold.mk ⟨_, _, _, _, true, [], rfl, F10, N9, M9, (fun h => nomatch h), tok, _, rfl, rfl, rfl, .inr ⟨rfl, hl'⟩⟩
    · -- a blank
      rename_i hw
      have hws := ws_yes hw
      rw [lexT_ws _ hws] at hl
      (try dsimp only)
      exact Hold.mk ⟨_, _, _, _, false, xs2, rfl, F8, N7, M7, (fun _ => Nat.lt_succ_self _), [], _, rfl, rfl, rfl, .inl ⟨rfl, rfl, hl⟩⟩
  · clear M5 N5 F2 hK hsv hxs
    rintro xs2 m' nw h7 tk7 j M7 F7 N7
    have j2 : ∃ tok t, m' (Str.ofString "self") = some (.ref x) ∧ m' (Str.ofString "token") = some (.str (sg tok) t) ∧ m' (Str.ofString "fiter") = some (.ref I) ∧ (tok, xs2) = lexT xs := by
      rcases j with ⟨tok, t, ms, mt, mf, (⟨h, _⟩ | ⟨_, hl⟩)⟩ | ⟨rfl, tok, t, ms, mt, mf, (⟨_, rfl, hl⟩ | ⟨h, _⟩)⟩
      · cases h
      · exact ⟨tok, t, ms, mt, mf, hl⟩
      · exact ⟨[], t, ms, mt, mf, by rw [← hl]; rfl⟩
      · cases h
    obtain ⟨tok, t, ms, mt, mf, hl⟩ := j2
    have F8 := canon (x := Str.ofString "token") F7 mt
    clear F7
    (try dsimp only)
    k_steps
    rename_i kF kN _ _
    have e1 : (lexT xs).1 = tok := by rw [← hl]
    have e2 : (lexT xs).2 = xs2 := by rw [← hl]
    obtain ⟨nnr, Mr, Nr⟩ := M7.blur [(I, ciO b ts true), (b, mObj x)] kN
    (try k_unfold)
    exact hret _ nnr _ _ kF (fun q hq => Nr q (List.mem_cons_of_mem _ (List.mem_cons_of_mem _ hq))) ⟨_, by rw [e1], by rw [e2]; exact Mr⟩
theorem wde_L7 : True := by
  k_with_none
  trivial
end
end
section
open PySem PySem.W PyProof.Rows PyProof.Rows.LCg
theorem pl_e (q : Bool) (part : List Nat) (c : Nat) (r : List Nat) : parseL true q part (c :: r) = parseL false q (part ++ [c]) r := by rw [parseL, if_pos rfl]
theorem pl_q92 (part r : List Nat) : parseL false true part (92 :: r) = parseL true true part r := by rw [parseL, if_neg (by decide), if_pos rfl, if_pos rfl]
theorem pl_q34 (part r : List Nat) : parseL false true part (34 :: r) = parseL false false (part ++ [34]) r := by rw [parseL, if_neg (by decide), if_pos rfl, if_neg (by decide), if_pos rfl]
theorem pl_q {c : Nat} (part r : List Nat) (h1 : c ≠ 92) (h2 : c ≠ 34) : parseL false true part (c :: r) = parseL false true (part ++ [c]) r := by rw [parseL, if_neg (by decide), if_pos rfl, if_neg h1, if_neg h2]
theorem pl_44 (part r : List Nat) : parseL false false part (44 :: r) = part :: parseL false false [] r := by rw [parseL, if_neg (by decide), if_neg (by decide), if_pos rfl]
theorem pl_34 (part r : List Nat) : parseL false false part (34 :: r) = parseL false true (part ++ [34]) r := by rw [parseL, if_neg (by decide), if_neg (by decide), if_neg (by decide), if_pos rfl]
theorem pl_c {c : Nat} (part r : List Nat) (h1 : c ≠ 44) (h2 : c ≠ 34) : parseL false false part (c :: r) = parseL false false (part ++ [c]) r := by rw [parseL, if_neg (by decide), if_neg (by decide), if_neg h1, if_neg h2]
theorem pl_nil (e q : Bool) (part : List Nat) : parseL e q part [] = if part = [] then [] else [part] := by rw [parseL]
/-- the parts are no longer than the text -/
theorem parseL_big : ∀ (e q : Bool) (part x : List Nat), ∀ p ∈ parseL e q part x, p.length ≤ part.length + x.length
  | e, q, part, [], p, hp => by
    rw [pl_nil] at hp
    split at hp
    · simp at hp
    · simp at hp; subst hp; simp
  | e, q, part, c :: r, p, hp => by
    have ih1 := fun e q => parseL_big e q (part ++ [c]) r p
    have ih2 := fun e q => parseL_big e q part r p
    have ih3 := fun e q => parseL_big e q [] r p
    simp only [List.length_append, List.length_cons, List.length_nil] at ih1 ih2 ih3 ⊢
    rw [parseL] at hp
    split at hp
    · have := ih1 _ _ hp; omega
    · split at hp
      · split at hp
        · have := ih2 _ _ hp; omega
        · split at hp
          · have := ih1 _ _ hp; omega
          · have := ih1 _ _ hp; omega
      · split at hp
        · rcases List.mem_cons.mp hp with rfl | hp
          · omega
          · have := ih3 _ _ hp; omega
        · split at hp
          · have := ih1 _ _ hp; omega
          · have := ih1 _ _ hp; omega
theorem stripL {prog : Program} {w : World} {A : Around} {E : Value → Shared → Prop} {s : Shared} {a : List Nat} {t : Tok} {Q : Value → Shared → Prop} (hsz : a.length ≤ 100000) (h : ∀ t' k, Q (.str (Txt.strip (sg a)) t') { s with toks := k }) :
    wpAny (model prog w) A (call (.builtin "str.strip") [.str (sg a) t]) Q E s := SC.strip h (by show (sg a).cps.size ≤ _; rw [List.size_toArray, sizeLine_eq]; omega)
theorem c44 : Str.ofString "," = sg [44] := by decide +kernel
theorem drop_at {x : List Nat} {i c : Nat} (h : x[i]? = some c) : x.drop i = c :: x.drop (i + 1) := by
  (try k_fold)
  obtain ⟨hi, e⟩ := List.getElem?_eq_some_iff.mp h
  rw [← e]; exact List.drop_eq_getElem_cons hi
section
theorem wds_L8a : True := by
  k_with_none
  (k_with "exec For Name Name cons nil" => (k_here; (try k_fold); refine Hold.out ?_))
  (k_with "eval ListComp" => (k_here; k_dflt (refine comp_hold (F₀ := by k_asm) (by with_unfolding_all rfl) (by decide) (by rfl) (by decide) (by rfl) ?_)))
  (k_with "inplaceOp Add str str" => (k_here; (with_unfolding_all refine' iaddL (by (exact rfl)) (by (exact rfl)) (by ((simp only [List.length_append, List.length_cons, List.length_nil, List.length_take]; omega))) ?_); intro _ _))
  (k_with "call builtin:str.strip" => (k_here; (with_reducible show wpAny _ _ (call (Value.builtin _) [Value.str _ _]) _ _ _); (refine' stripL (by ((simp only [List.length_nil] at *; omega))) ?_); intro _ _))
  trivial
theorem parse_c (w : World) (x : List Nat) (t : Tok) (hx : x.length ≤ 2000) :
    Sp w 6 (.ref 122) [.str (sg x) t] (fun _ => True) (fun news r news' => ∃ lr vs k, r = .ref lr ∧ news' = (lr, PySem.W.listOf (List.toArray vs) k) :: news ∧ StrsAre vs ((parseL false false [] x).map fun p => Txt.strip (sg p)) ∧ (∀ p ∈ news, p.1 ≠ lr)) := by
  intro p loose mean mg mb dp un gd cn cs a ccd cl outer A₀ base h₀ L m news s Q E B F X N T c1 c2 hk hdp hu pre hret
  revert X; k_fill; intro X
  refine wpAny_call ?_
  k_dflt ktr_enter
  rename_i g1 L1 hp1 FG1 F1 N1 B1 X1 T1
  have c1' := CodeHd.keeps c1 FG1.keep
  have c2' := CodeHd.keeps c2 FG1.keep
  k_steps
  refine Hold.mk (for_hold ?_)
  k_steps
  rename_i lr _ l1 _ _ _ h2 F2 N2
  (try k_unfold)
  refine Hold.mk (for_str rfl rfl rfl F2 N2 (fun i m nw => ∃ e q part t vs k acc, nw = (lr, PySem.W.listOf (List.toArray vs) k) :: news ∧ m (Str.ofString "res") = some (.ref lr) ∧ m (Str.ofString "part") = some (.str (sg part) t) ∧ m (Str.ofString "escape") = some (.bool e) ∧ m (Str.ofString "quote") = some (.bool q) ∧
    StrsAre vs (acc.map sg) ∧ acc ++ parseL e q part (x.drop i) = parseL false false [] x ∧ part.length ≤ i ∧ acc.length ≤ i) ⟨false, false, [], _, [], 0, [], rfl, rfl, congrArg (fun y => some (Value.str y _)) c0, rfl, rfl, .nil, rfl, Nat.le_refl _, Nat.le_refl _⟩ ?_ ?_)
  · intro I i v m' nw oI h tk E' hi pz1 pz2 offI F4 N4
    (try k_fold)
    obtain ⟨c, u, hcx, rfl⟩ := pz1
    obtain ⟨e, q, part, tp, vs, k, acc, rfl, mr, mp, me, mq, hvs, hacc, hpl, hal⟩ := pz2
    have hi' : i < x.length := by rw [List.size_toArray] at hi; exact hi
    have hdr := drop_at (x := x) (i := i) (c := c) (by simpa using hcx)
    rw [hdr] at hacc
    have nI : @Ne Nat lr I := offI (lr, _) List.mem_cons_self
    have anl : Apart lr news := fun q hq => Nat.ne_of_lt (l1 q hq)
    have F5 := canon (x := Str.ofString "cur") (canon (x := Str.ofString "quote") (canon (x := Str.ofString "escape") (canon (x := Str.ofString "part") (canon (x := Str.ofString "res") F4 mr) mp) me) mq) rfl
    have anI : Apart I news := fun q hq => offI q (List.mem_cons_of_mem _ hq)
    clear F4 F2 N2 hcx hi
    cases e with
    | true =>
      k_steps
      rename_i FE NE
      rw [pl_e] at hacc
      (try dsimp only)
      (try k_unfold)
      refine Hold.mk ⟨_, _, _, _, rfl, FE, NE, Apart.cons nI anI, false, q, part ++ [c], _, vs, _, acc, rfl, rfl, rfl, rfl, rfl, hvs, hacc, by simp only [List.length_append, List.length_cons, List.length_nil]; omega, (Nat.le_succ_of_le hal)⟩
    | false =>
      cases q with
      | true =>
        k_steps
        · rename_i hc _ FE NE
          have e := sg_eq c92 hc
          subst e
          rw [pl_q92] at hacc
          (try dsimp only)
          (try k_unfold)
          refine Hold.mk ⟨_, _, _, _, rfl, FE, NE, Apart.cons nI anI, true, true, part, _, vs, _, acc, rfl, rfl, rfl, rfl, rfl, hvs, hacc, Nat.le_succ_of_le hpl, (Nat.le_succ_of_le hal)⟩
        · rename_i hc _ _ _ _ FE NE
          have e := sg_eq c34 hc
          subst e
          rw [pl_q34] at hacc
          (try dsimp only)
          (try k_unfold)
          refine Hold.mk ⟨_, _, _, _, rfl, FE, NE, Apart.cons nI anI, false, false, part ++ [34], _, vs, _, acc, rfl, rfl, rfl, rfl, rfl, hvs, hacc, by simp only [List.length_append, List.length_cons, List.length_nil]; omega, (Nat.le_succ_of_le hal)⟩
        · rename_i h1 _ h2 _ _ _ FE NE
          rw [pl_q _ _ (sg_ne c92 h1) (sg_ne c34 h2)] at hacc
          (try dsimp only)
          (try k_unfold)
          refine Hold.mk ⟨_, _, _, _, rfl, FE, NE, Apart.cons nI anI, false, true, part ++ [c], _, vs, _, acc, rfl, rfl, rfl, rfl, rfl, hvs, hacc, by simp only [List.length_append, List.length_cons, List.length_nil]; omega, (Nat.le_succ_of_le hal)⟩
      | false =>
        k_steps
        · rename_i hc _ _ _ _ _ FE NE
          have e := sg_eq c44 hc
          subst e
          rw [pl_44] at hacc
          have e9 : (vs ++ [Value.str (sg part) tp]).toArray = vs.toArray.push (Value.str (sg part) tp) := by simp
          rw [← e9] at NE
          (try dsimp only)
          (try k_unfold)
          refine Hold.mk ⟨_, _, _, _, rfl, FE, NE, Apart.cons nI anI, false, false, [], _, vs ++ [Value.str (sg part) tp], _, acc ++ [part], rfl, rfl, congrArg (fun y => some (Value.str y _)) c0, rfl, rfl, (by rw [List.map_append]; exact strs_snoc _ _ hvs), (by rw [List.append_assoc]; exact hacc), Nat.zero_le _, (by simp only [List.length_append, List.length_cons, List.length_nil]; omega)⟩
        · rename_i hc _ _ _ _ FE NE
          have e := sg_eq c34 hc
          subst e
          rw [pl_34] at hacc
          (try dsimp only)
          (try k_unfold)
          refine Hold.mk ⟨_, _, _, _, rfl, FE, NE, Apart.cons nI anI, false, true, part ++ [34], _, vs, _, acc, rfl, rfl, rfl, rfl, rfl, hvs, hacc, by simp only [List.length_append, List.length_cons, List.length_nil]; omega, (Nat.le_succ_of_le hal)⟩
        · rename_i h1 _ h2 _ _ _ FE NE
          rw [pl_c _ _ (sg_ne c44 h1) (sg_ne c34 h2)] at hacc
          (try dsimp only)
          (try k_unfold)
          refine Hold.mk ⟨_, _, _, _, rfl, FE, NE, Apart.cons nI anI, false, false, part ++ [c], _, vs, _, acc, rfl, rfl, rfl, rfl, rfl, hvs, hacc, by simp only [List.length_append, List.length_cons, List.length_nil]; omega, (Nat.le_succ_of_le hal)⟩
  · rintro h3 tk3 m' nw F4 N4 ⟨e, q, part, tp, vs, k, acc, rfl, mr, mp, me, mq, hvs, hacc, hpl, hal⟩
    rw [List.size_toArray] at hpl hal
    have hdr : x.drop (Array.size (sg x).cps) = [] := by rw [List.size_toArray]; exact List.drop_length
    rw [hdr, pl_nil] at hacc
    have anl : Apart lr news := fun q hq => Nat.ne_of_lt (l1 q hq)
    have F5 := canon (x := Str.ofString "part") (canon (x := Str.ofString "res") F4 mr) mp
    clear F4 F2 N2
    (try k_unfold)
    (try dsimp only)
    k_steps
    refine P.truthy_str (x := sg part) (by show ¬ (((sg part).cps.size : Nat) : Int) ≥ 2 ^ 63; rw [List.size_toArray]; omega) ?_
    have hbig := parseL_big false false [] x
    rw [← hacc] at hbig
    cases part with
    | nil =>
      rw [if_pos rfl, List.append_nil] at hacc hbig
      rw [show (((sg []).length : Int) != 0) = false from rfl]
      have hvl : vs.length = acc.length := by have := hvs.length; rwa [List.length_map] at this
      k_steps
      (try k_unfold)
      refine Hold.mk (CompSrc.ledger rfl (by assumption) (by assumption) List.mem_cons_self (by rw [List.size_toArray, sizeLine_eq]; omega) fun gg => rest_ind (fun i ys nw => ∃ k, nw = (lr, PySem.W.listOf (List.toArray (vs)) k) :: news ∧ StrsAre ys ((acc).take i |>.map fun p => Txt.strip (sg p))) ?_ ?_ _ 0 [] _ (Nat.zero_add _) ⟨_, rfl, .nil⟩)
      · intro i ys nw hi pz3 v I oI C oC D m₂ h tk E' hP hN hm F2 N2 o3 ne
        (try k_fold)
        obtain ⟨k5, rfl, hys⟩ := pz3
        have hi' : i < (acc).length := by rw [List.size_toArray, hvl] at hi; exact hi
        (try k_fold)
        obtain ⟨tx, hv'⟩ := hvs.get i (sg (acc)[i]) (by simp [hi'])
        have hv2 : v = .str (sg (acc)[i]) tx := by
          have : (vs)[i]? = some v := by simpa using hP
          rw [hv'] at this; exact (Option.some.inj this).symm
        subst hv2
        have hxi := hbig (acc)[i] (List.getElem_mem hi')
        clear hP hv'
        k_steps
        (try k_unfold)
        refine Hold.mk (CompEnd.intro (by assumption) (by assumption) _ (fun _ h => h) o3 (.inr ⟨_, List.mem_cons_self, rfl, _, rfl⟩) ⟨_, rfl, ?_⟩)
        rw [List.take_add_one, List.map_append]
        simp only [List.getElem?_eq_getElem hi', Option.toList_some, List.map_cons, List.map_nil]
        exact strs_snoc _ _ hys
      · rintro ys nw ⟨k5, rfl, hys⟩ D h tk F3 N3 o1
        rw [List.size_toArray, hvl, List.take_length, hacc] at hys
        (try k_unfold)
        (try dsimp only)
        k_steps
        rename_i kF kN _ _
        (try k_unfold)
        exact hret _ ((D, lst ys) :: news) _ _ kF (fun q hq => kN q (by
          rcases List.mem_cons.mp hq with rfl | hq
          · exact List.mem_cons_self
          · exact List.mem_cons_of_mem _ (List.mem_cons_of_mem _ hq))) ⟨_, _, _, rfl, rfl, hys, fun q hq => off1_mem o1 q (List.mem_cons_of_mem _ hq)⟩
    | cons c0' pr =>
      rw [if_neg (List.cons_ne_nil _ _)] at hacc hbig
      rw [show (((sg (c0' :: pr)).length : Int) != 0) = true from rfl]
      k_steps
      have hvs2 : StrsAre (vs ++ [Value.str (sg (c0' :: pr)) tp]) ((acc ++ [c0' :: pr]).map sg) := by rw [List.map_append]; exact strs_snoc _ _ hvs
      have e9 : (vs ++ [Value.str (sg (c0' :: pr)) tp]).toArray = vs.toArray.push (Value.str (sg (c0' :: pr)) tp) := by simp
      rename_i FE NE
      rw [← e9] at NE
      clear hvs
      have hvs := hvs2
      have hvl : (vs ++ [Value.str (sg (c0' :: pr)) tp]).length = (acc ++ [c0' :: pr]).length := by have := hvs.length; rwa [List.length_map] at this
      have hal2 : (acc ++ [c0' :: pr]).length ≤ x.length + 1 := by simp only [List.length_append, List.length_cons, List.length_nil]; omega
      generalize acc ++ [c0' :: pr] = acc2 at hvs hvl hal2 hacc hbig
      generalize vs ++ [Value.str (sg (c0' :: pr)) tp] = vs2 at hvs hvl NE
      (try k_unfold)
      refine Hold.mk (CompSrc.ledger rfl (by assumption) (by assumption) List.mem_cons_self (by rw [List.size_toArray, sizeLine_eq]; omega) fun gg => rest_ind (fun i ys nw => ∃ k, nw = (lr, PySem.W.listOf (List.toArray vs2) k) :: news ∧ StrsAre ys (acc2.take i |>.map fun p => Txt.strip (sg p))) ?_ ?_ _ 0 [] _ (Nat.zero_add _) ⟨_, rfl, .nil⟩)
      · intro i ys nw hi pz4 v I oI C oC D m₂ h tk E' hP hN hm F2 N2 o3 ne
        (try k_fold)
        obtain ⟨k5, rfl, hys⟩ := pz4
        have hi' : i < acc2.length := by rw [List.size_toArray, hvl] at hi; exact hi
        (try k_fold)
        obtain ⟨tx, hv'⟩ := hvs.get i (sg acc2[i]) (by simp [hi'])
        have hv2 : v = .str (sg acc2[i]) tx := by
          have : vs2[i]? = some v := by simpa using hP
          rw [hv'] at this; exact (Option.some.inj this).symm
        subst hv2
        have hxi := hbig acc2[i] (List.getElem_mem hi')
        clear hP hv'
        k_steps
        (try k_unfold)
        refine Hold.mk (CompEnd.intro (by assumption) (by assumption) _ (fun _ h => h) o3 (.inr ⟨_, List.mem_cons_self, rfl, _, rfl⟩) ⟨_, rfl, ?_⟩)
        rw [List.take_add_one, List.map_append]
        simp only [List.getElem?_eq_getElem hi', Option.toList_some, List.map_cons, List.map_nil]
        exact strs_snoc _ _ hys
      · rintro ys nw ⟨k5, rfl, hys⟩ D h tk F3 N3 o1
        rw [List.size_toArray, hvl, List.take_length, hacc] at hys
        (try k_unfold)
        (try dsimp only)
        k_steps
        rename_i kF kN _ _
        (try k_unfold)
        exact hret _ ((D, lst ys) :: news) _ _ kF (fun q hq => kN q (by
          rcases List.mem_cons.mp hq with rfl | hq
          · exact List.mem_cons_self
          · exact List.mem_cons_of_mem _ (List.mem_cons_of_mem _ hq))) ⟨_, _, _, rfl, rfl, hys, fun q hq => off1_mem o1 q (List.mem_cons_of_mem _ hq)⟩
end
theorem wde_L8 : True := by
  k_with_none
  trivial
end
section
theorem sp34 : Unicode.isSpace 34 = false := by decide +kernel
theorem sp9 : Unicode.isSpace 9 = true := by decide +kernel
theorem strip_quoted (t : List Nat) : Txt.strip (sg (quoted t)) = sg (quoted t) := by
  have h1 : stripLo Unicode.isSpace true (sg (quoted t)) = 0 := by
    simp [stripLo, quoted, sp34]
  have h2 : stripHi Unicode.isSpace true (sg (quoted t)) 0 = (sg (quoted t)).length := by
    simp [stripHi, quoted, sp34, Str.length]
  unfold Txt.strip Txt.stripBy stripSame
  rw [h1, h2]
  simp
theorem strip_tab (t : List Nat) : Txt.strip (sg (9 :: quoted t)) = sg (quoted t) := by
  have h1 : stripLo Unicode.isSpace true (sg (9 :: quoted t)) = 1 := by
    simp [stripLo, quoted, sp34, sp9]
  have h2 : stripHi Unicode.isSpace true (sg (9 :: quoted t)) 1 = (sg (9 :: quoted t)).length := by
    simp [stripHi, quoted, sp34, Str.length]
  unfold Txt.strip Txt.stripBy stripSame PySem.stripped
  rw [h1, h2]
  simp [Builtin.Str.strSub, Str.length, quoted]
  exact List.take_of_length_le (by simp)
theorem parse_items (t : List Nat) (ts : List (List Nat)) : (parseL false false [] (header (t :: ts))).map (fun p => Txt.strip (sg p)) = (t :: ts).map fun t => sg (quoted t) := by
  rw [parse_header]
  simp only [List.map_cons, List.nil_append, strip_quoted, List.map_map]
  congr 1
  refine List.map_congr_left fun t _ => ?_
  exact strip_tab t
end
section
open PySem PySem.W PyProof.Rows PyProof.Rows.LCg
section
theorem wds_L9a : True := by
  k_with_none
  (k_with "eval ListComp" => (k_here; k_dflt (refine comp_hold (F₀ := by k_asm) (by with_unfolding_all rfl) (by decide) (by rfl) (by decide) (by rfl) ?_)))
  (k_with "compareOp Lt ref" => (k_here; k_dflt (refine' lt_hh_at (by kf1_first) (by assumption) (by assumption) ?_); intro _ _ _ _; (try dsimp only); (try k_fold)))
  trivial
inductive BelPost (w : World) (tp pb dx : Addr) (K o : Int) (xs : List Nat) (rest : Led) (ords : List Int) (r : Value) (news' : Led) : Prop
  | mk (lb : Addr) (k : Nat) (es : List DictEntry) (ln : Int) (e5 : DictEntry) (e1 : r = .ref lb) (e2 : news' = (lb, PySem.W.listOf (ords.map fun a => Value.bool (decide (a < o))).toArray k) :: (dx, dictOf (es ++ [e5]) 5) :: rest) (hE : LexE w ln (.ref tp) pb es) (hK : ln + ((xs.count 10 : Nat) : Int) = K)
theorem below_c (w : World) (x tp pb dx sl hl : Addr) (K o : Int) (to : Tok) (xs : List Nat) (rest : Led) (ords : List Int) (hs : List Addr) (k0 : Nat) (S : Stat w x tp pb dx sl rest) (hol : ords.length ≤ 100) (mh : (hl, PySem.W.listOf (hs.map Value.ref).toArray k0) ∈ rest) (H : Hnds w ords hs rest) :
    Sp w 16 (.ref 191) [.ref hl, .ref x, .int o to] (fun news => Mut w tp pb dx sl K xs [] rest news)
      (fun _ => BelPost w tp pb dx K o xs rest ords) := by
  intro p loose mean mg mb dp un gd cn cs a ccd cl outer A₀ base h₀ L m news s Q E B F X N T c1 c2 hk hdp hu pre hret
  revert X; k_fill; intro X
  refine wpAny_call ?_
  k_dflt (refine' code_defC ?k1 ?k2 ?k3 ?k4 ?k5 ?kA ?kF ?kK ?k6 ?k7 ?k8 ?k9 ?kB ?kD ?_ ?c2 ?c3 ?c4; (case kA => exact rfl); (case kF => exact rfl); (case kK => assumption); (case k1 => k_asm); (case k2 => k_asm); (case k3 => k_asm); (case k4 => k_asm); (case k5 => k_asm); (case k6 => k_is); (case k7 => k_is); (case k8 => ktr_room); (case k9 => exact BindsTo.of_eq rfl); (case kB => exact rfl); (case kD => decide +kernel); (case c2 => exact rfl); (case c3 => exact rfl); (case c4 => exact rfl); k_whole; intro g' L' h' tk' cells' FG' F' N' Y' B' X' T' l1; (try k_lt l1); k_cells Y'; (try simp only [List.cons_append, List.nil_append] at N'); (try dsimp only); (try k_fold))
  have hb0 : Lt0 L' news := l1
  have c1' := CodeHd.keeps c1 FG'.keep
  have c2' := CodeHd.keeps c2 FG'.keep
  (try k_fold)
  obtain ⟨es, ln, ks, kp, sv, rfl, ⟨k1, k2, k3, k4, t1, t3, rfl⟩, hK, hsv, hxs⟩ := pre
  have xdx : @Ne Nat x dx := S.adx _ S.inst
  have pdx : @Ne Nat pb dx := S.n1
  have dsl : @Ne Nat dx sl := S.n3
  have adx := S.adx
  have ldx : @LT.lt Nat _ dx L' := hb0 (dx, _) (List.mem_cons_of_mem _ List.mem_cons_self)
  have xin : (x, instObj 59 dx) ∈ rest := S.inst
  k_steps
  rename_i oS _ h3 F3 N3
  (try k_fold)
  obtain ⟨kr, N4⟩ : ∃ kr, News g' L' h3 ((L' + 1, oS) :: (pb, PySem.W.listOf (List.toArray []) kp) :: (dx, dictOf ([ent w "lineno" k1 (.int ln t1), ent w "instream" k2 (.ref tp), ent w "whitespace" k3 (.str (Str.ofString "\n\t\x0d ") t3), ent w "pushback" k4 (.ref pb)] ++ [ent w "handler_order" kr (.int o to)]) 5) :: (sl, PySem.W.listOf sv.toArray ks) :: rest) := ⟨_, N3⟩
  clear N3
  have hlen : hs.length = ords.length := H.1
  have rsub : ∀ q ∈ rest, q ∈ (L' + 1, oS) :: (pb, PySem.W.listOf (List.toArray []) kp) :: (dx, dictOf ([ent w "lineno" k1 (.int ln t1), ent w "instream" k2 (.ref tp), ent w "whitespace" k3 (.str (Str.ofString "\n\t\x0d ") t3), ent w "pushback" k4 (.ref pb)] ++ [ent w "handler_order" kr (.int o to)]) 5) :: (sl, PySem.W.listOf sv.toArray ks) :: rest := fun q hq => by k_mem
  have mcl : (L' + 1, oS) ∈ (L' + 1, oS) :: (pb, PySem.W.listOf (List.toArray []) kp) :: (dx, dictOf ([ent w "lineno" k1 (.int ln t1), ent w "instream" k2 (.ref tp), ent w "whitespace" k3 (.str (Str.ofString "\n\t\x0d ") t3), ent w "pushback" k4 (.ref pb)] ++ [ent w "handler_order" kr (.int o to)]) 5) :: (sl, PySem.W.listOf sv.toArray ks) :: rest := by k_mem
  have mdx : (dx, dictOf ([ent w "lineno" k1 (.int ln t1), ent w "instream" k2 (.ref tp), ent w "whitespace" k3 (.str (Str.ofString "\n\t\x0d ") t3), ent w "pushback" k4 (.ref pb)] ++ [ent w "handler_order" kr (.int o to)]) 5) ∈ (L' + 1, oS) :: (pb, PySem.W.listOf (List.toArray []) kp) :: (dx, dictOf ([ent w "lineno" k1 (.int ln t1), ent w "instream" k2 (.ref tp), ent w "whitespace" k3 (.str (Str.ofString "\n\t\x0d ") t3), ent w "pushback" k4 (.ref pb)] ++ [ent w "handler_order" kr (.int o to)]) 5) :: (sl, PySem.W.listOf sv.toArray ks) :: rest := by k_mem
  (try k_fold)
  generalize (L' + 1, oS) :: (pb, PySem.W.listOf (List.toArray []) kp) :: (dx, dictOf ([ent w "lineno" k1 (.int ln t1), ent w "instream" k2 (.ref tp), ent w "whitespace" k3 (.str (Str.ofString "\n\t\x0d ") t3), ent w "pushback" k4 (.ref pb)] ++ [ent w "handler_order" kr (.int o to)]) 5) :: (sl, PySem.W.listOf sv.toArray ks) :: rest = nb at N4 rsub mdx mcl
  have xnb := rsub _ xin
  (try k_unfold)
  refine Hold.mk (CompSrc.ledger rfl F3 N4 (rsub _ mh) (by rw [List.size_toArray, List.length_map, sizeLine_eq]; omega) fun gg => rest_same (fun i ys => ys = (ords.take i).map fun a => Value.bool (decide (a < o))) ?_ ?_ rfl)
  · intro i ys hi pz1 v I oI C oC D m₂ h tk E' hP hN hm F2 N2 o3 ne
    (try k_fold)
    subst pz1
    have hi' : i < ords.length := by rw [List.size_toArray, List.length_map, hlen] at hi; exact hi
    have hi2 : i < hs.length := by omega
    have hv2 : v = .ref hs[i] := by
      have : (hs.map Value.ref)[i]? = some v := by simpa using hP
      rw [List.getElem?_map, List.getElem?_eq_getElem hi2] at this
      exact (Option.some.inj this).symm
    subst hv2
    have Hi := (H.2 i ords[i] hs[i] (List.getElem?_eq_getElem hi') (List.getElem?_eq_getElem hi2)).sub (fun q hq => List.mem_cons_of_mem (I, oI) (List.mem_cons_of_mem (C, oC) (List.mem_cons_of_mem (D, lst ((ords.take i).map fun a => Value.bool (decide (a < o)))) (rsub q hq))))
    have Ho : OrdAt w o x ((I, oI) :: (C, oC) :: (D, lst ((ords.take i).map fun a => Value.bool (decide (a < o)))) :: nb) :=
      ⟨59, dx, _, 5, by k_mem, by k_mem, .inr ⟨rfl, _, _, _, _, _, _, ⟨_, _, _, _, _, _, rfl⟩, rfl⟩⟩
    clear hP hi N4 F3
    k_steps
    (try k_unfold)
    refine Hold.mk (CompEnd.intro (by assumption) (by assumption) _ (fun _ h => h) o3 (.inr ⟨_, rsub _ mh, rfl, _, rfl⟩) ⟨rfl, ?_⟩)
    rw [List.take_add_one, List.map_append, List.getElem?_eq_getElem hi']
    simp
  · rintro ys rfl D h tk F3 N3 o1
    (try k_unfold)
    (try dsimp only)
    k_steps
    rename_i kF kN _ _
    have e9 : (hs.map Value.ref).toArray.size = ords.length := by rw [List.size_toArray, List.length_map, hlen]
    rw [e9, List.take_length] at kN
    (try k_unfold)
    refine hret _ ((D, lst (ords.map fun a => Value.bool (decide (a < o)))) :: (dx, dictOf ([ent w "lineno" k1 (.int ln t1), ent w "instream" k2 (.ref tp), ent w "whitespace" k3 (.str (Str.ofString "\n\t\x0d ") t3), ent w "pushback" k4 (.ref pb)] ++ [ent w "handler_order" kr (.int o to)]) 5) :: rest) _ _ kF (news_sub kN (sub_cons List.mem_cons_self (sub_cons (List.mem_cons_of_mem _ mdx) fun q hq => List.mem_cons_of_mem _ (rsub q hq)))) ⟨D, _, _, ln, _, rfl, rfl, ⟨_, _, _, _, _, _, rfl⟩, hK⟩
end
theorem wde_L9 : True := by
  k_with_none
  trivial
end
section
open PySem PySem.W PyProof.Rows PySem.SeqAt
section
variable {prog : Program} {w : World} {A : Around} {E : Value → Shared → Prop} {s : Shared}
theorem all_true (n : Nat) : (List.range n).all (fun _ => true) = true := by simp
theorem strs_eqAt {a b : Addr} {vs us : List Value} {xs : List Str} (hl : s.heap.IsList a vs.toArray) (hb : s.heap.IsList b us.toArray) (h1 : StrsAre vs xs) (h2 : StrsAre us xs) (hu : A.units < cLine) : EqAt A s (.ref a) (.ref b) true := by
  by_cases e : a = b
  · subst e; exact EqAt.same _
  · have l1 := h1.length
    have l2 := h2.length
    have r := RcAt.lists (A := A) (e := fun _ => true) hl hb (by rw [List.size_toArray, List.size_toArray, l1, l2]) hu fun j j1 j2 => by
      rw [List.size_toArray] at j1 j2
      obtain ⟨t1, g1⟩ := h1.get j xs[j] (List.getElem?_eq_getElem (by omega))
      obtain ⟨t2, g2⟩ := h2.get j xs[j] (List.getElem?_eq_getElem (by omega))
      rw [List.getElem?_eq_getElem j1] at g1
      rw [List.getElem?_eq_getElem j2] at g2
      have z := EqAt.str_str (A := A.in1) (s := s) xs[j] t1 xs[j] t2
      rw [beq_self_eq_true] at z
      simp only [List.getElem_toArray]
      rw [Option.some.inj g1, Option.some.inj g2]
      exact z
    rw [all_true] at r
    exact EqAt.of_refs e r
theorem ne_strsK {a b : Addr} {vs us : List Value} {xs : List Str} {Q : Value → Shared → Prop} (hl : s.heap.IsList a vs.toArray) (hb : s.heap.IsList b us.toArray) (h1 : StrsAre vs xs) (h2 : StrsAre us xs) (hu : A.units < cLine) (h : Q (.bool false) s) :
    wpAny (model prog w) A (compareOp .NotEq (.ref a) (.ref b)) Q E s := by
  have l1 := h1.length
  have l2 := h2.length
  have r := RcNeAt.lists (A := A) (e := fun _ => true) hl hb (by rw [List.size_toArray, List.size_toArray, l1, l2]) hu fun j j1 j2 => by
      rw [List.size_toArray] at j1 j2
      obtain ⟨t1, g1⟩ := h1.get j xs[j] (List.getElem?_eq_getElem (by omega))
      obtain ⟨t2, g2⟩ := h2.get j xs[j] (List.getElem?_eq_getElem (by omega))
      rw [List.getElem?_eq_getElem j1] at g1
      rw [List.getElem?_eq_getElem j2] at g2
      have z := EqAt.str_str (A := A.in1) (s := s) xs[j] t1 xs[j] t2
      rw [beq_self_eq_true] at z
      simp only [List.getElem_toArray]
      rw [Option.some.inj g1, Option.some.inj g2]
      exact z
  rw [all_true] at r
  exact r prog w E Q h
theorem ne_pairK {a b a1 a2 b1 b2 : Addr} {Q : Value → Shared → Prop} (hl : s.heap.IsList a #[.ref a1, .ref a2]) (hb : s.heap.IsList b #[.ref b1, .ref b2]) (e1 : EqAt A.in1 s (.ref a1) (.ref b1) true) (e2 : EqAt A.in1 s (.ref a2) (.ref b2) true) (hu : A.units < cLine) (h : Q (.bool false) s) :
    wpAny (model prog w) A (compareOp .NotEq (.ref a) (.ref b)) Q E s := by
  have r := RcNeAt.lists (A := A) (e := fun _ => true) hl hb rfl hu fun j j1 j2 => by
    match j, j1, j2 with
    | 0, _, _ => exact e1
    | 1, _, _ => exact e2
    | j + 2, j1, _ => exact absurd j1 (by simp)
  rw [all_true] at r
  exact r prog w E Q h
theorem eq_sameK {a b : Addr} {vs : List Value} {Q : Value → Shared → Prop} (hl : s.heap.IsList a vs.toArray) (hb : s.heap.IsList b vs.toArray) (hu : A.units < cLine) (h : Q (.bool true) s) :
    wpAny (model prog w) A (compareOp .Eq (.ref a) (.ref b)) Q E s := by
  have r := RcAt.lists (A := A) (e := fun _ => true) hl hb rfl hu fun j j1 j2 => EqAt.same _
  rw [all_true] at r
  exact r prog w E Q h
theorem cnt_count (c : Nat) : ∀ l : List Nat, cnt c l = ((l.count c : Nat) : Int)
  | [] => rfl
  | n :: r => by
    rw [cnt_cons, cnt_count c r, List.count_cons]
    by_cases h : n = c
    · subst h; simp; omega
    · simp [h]
theorem countL {y : Str} {x : List Nat} {c : Nat} {t u : Tok} {Q : Value → Shared → Prop} (hy : y = sg [c]) (h : ∀ t' k, Q (.int ((x.count c : Nat) : Int) t') { s with toks := k }) :
    wpAny (model prog w) A (call (.builtin "str.count") [.str (sg x) t, .str y u]) Q E s := by
  subst hy
  refine SC.count ?_
  have e : Txt.count (sg x) (sg [c]) = ((x.count c : Nat) : Int) := by
    show Txt.count (sg x) ⟨#[c]⟩ = _
    rw [count_cnt, cnt_count]
  rw [e]
  exact h _ _
theorem itemLast {value slice : PySem.Expr} {l : Addr} {items : Array Value} {v : Value} {u : Tok} {Q : Value → Shared → Prop} (hl : s.heap.IsList l items) (hx : items[items.size - 1]? = some v) (h : Q v s)
    (hs : subscripted slice false (.ref l) (.int (-1) u) = operate [.ref l, .int (-1) u] (getItem (.ref l) (.int (-1) u)) := by with_unfolding_all rfl) :
    wpAny (model prog w) A (subscriptTail value slice (.ref l) (.int (-1) u)) Q E s := by
  have hp : 0 < items.size := by
    rcases Nat.eq_zero_or_pos items.size with h | h
    · have : items[items.size - 1]? = none := by simp; omega
      rw [this] at hx; cases hx
    · exact h
  refine tail_any hl.typeIs slot_list_getitem.lookup (wpAny_getItem_list_neg hl (by decide) (by omega) (by decide) ?_ h) hs
  have e : ((-1 : Int) + (items.size : Int)).toNat = items.size - 1 := by omega
  rw [e]; exact hx
theorem slice_pair {vs : List Value} {j : Nat} {a b : Value} (h1 : vs[j]? = some a) (h2 : vs[j + 1]? = some b) : (slicePick vs.toArray (some (j : Int)) (some ((j : Int) + 2)) none).toList = [a, b] := by
  have hj : j + 1 < vs.length := (List.getElem?_eq_some_iff.mp h2).1
  have e : ((j : Int) + 2) = ((j + 2 : Nat) : Int) := by omega
  rw [e, slicePick_run _ _ _ (by simp; omega) (by omega)]
  have e2 : j + 2 - j = 2 := by omega
  rw [e2]
  simp only [List.drop_eq_getElem_cons (show j < vs.length by omega), List.drop_eq_getElem_cons hj]
  rw [List.getElem?_eq_getElem (by omega)] at h1 h2
  simp [Option.some.inj h1, Option.some.inj h2]
theorem rangeSize_two (n : Nat) : Builtin.Range.rangeSize 0 (2 * (n : Int) - 2) 2 = ((n - 1 : Nat) : Int) := by
  unfold Builtin.Range.rangeSize
  rw [if_pos (by decide)]
  split
  · have : (2 * (n : Int) - 2 - 0 - 1) / 2 = n - 2 := by omega
    rw [this]; omega
  · omega
theorem small_two {n : Nat} (hn : n ≤ 100) : Builtin.Range.small 0 (2 * (n : Int) - 2) 2 = true := by
  unfold Builtin.Range.small
  rw [rangeSize_two]
  simp only [Builtin.Range.rangeFitsLong, Bool.and_eq_true, Bool.or_eq_true, decide_eq_true_eq, beq_iff_eq, show (2 : Int) > 0 by decide, if_true]
  omega
end
end
section
open PySem PySem.W PyProof.Rows PyProof.Rows.LCg
section
variable {w : World} {A : Around} {E : Value → Shared → Prop} {s : Shared} {h₀ : Heap} {L : Addr} {m : Str → Option Value} {news : Led} {x dx pb : Addr} {es : List DictEntry} {k : Nat} {ln : Int} {ins : Value}
theorem line_get {pl : Sem Bool} {Q : Value × List Value → Shared → Prop} (F : Fr h₀ L s.heap m) (X : (hd.heap_39 w.params).In h₀) (N : News h₀ L s.heap news) (h1 : (x, instObj 59 dx) ∈ news) (hE : LexE w ln ins pb es) (h2 : (dx, dictOf es k) ∈ news) (h : Q (.ref 49, [.ref x]) s) :
    wpAny (model PySem.Challenge.rw_pk0065_01.row.prog w) A (getMethod (.ref x) (Str.ofString "get_token") pl) Q E s := by
  revert X; k_fill; intro X
  obtain ⟨k1, k2, k3, k4, t1, t3, rfl⟩ := hE
  have I := InstAt.of_news N h1 h2
  k_dflt (refine' method_inst F X I ?k4 ?k5 ?k6 ?k7 ?_; (case k4 => k_is); (case k5 => k_is); (case k6 => k_is); (case k7 => k_get); exact h)
theorem line_push {pl : Sem Bool} {Q : Value × List Value → Shared → Prop} (F : Fr h₀ L s.heap m) (X : (hd.heap_39 w.params).In h₀) (N : News h₀ L s.heap news) (h1 : (x, instObj 59 dx) ∈ news) (hE : LexE w ln ins pb es) (h2 : (dx, dictOf es k) ∈ news) (h : Q (.ref 56, [.ref x]) s) :
    wpAny (model PySem.Challenge.rw_pk0065_01.row.prog w) A (getMethod (.ref x) (Str.ofString "push_token") pl) Q E s := by
  revert X; k_fill; intro X
  obtain ⟨k1, k2, k3, k4, t1, t3, rfl⟩ := hE
  have I := InstAt.of_news N h1 h2
  k_dflt (refine' method_inst F X I ?k4 ?k5 ?k6 ?k7 ?_; (case k4 => k_is); (case k5 => k_is); (case k6 => k_is); (case k7 => k_get); exact h)
theorem line_no {expr : Bool} {Q : Value → Shared → Prop} {e5 : DictEntry} (F : Fr h₀ L s.heap m) (X : (hd.heap_39 w.params).In h₀) (N : News h₀ L s.heap news) (h1 : (x, instObj 59 dx) ∈ news) (h2 : (dx, dictOf (es ++ [e5]) k) ∈ news) (hE : LexE w ln ins pb es) (h : ∀ t', Q (.int ln t') { s with toks := s.toks + 1 }) :
    wpAny (model PySem.Challenge.rw_pk0065_01.row.prog w) A (getAttr (.ref x) (Str.ofString "lineno") expr) Q E s := by
  revert X; k_fill; intro X
  obtain ⟨k1, k2, k3, k4, t1, t3, rfl⟩ := hE
  have I := InstAt.of_news N h1 h2
  k_dflt (refine' get_own F X I ?k4 ?k5 ?k6 ?k7 ?k8 ?k9 ?_; (case k4 => k_is); (case k5 => k_is); (case k6 => k_is); (case k7 => k_is); (case k8 => k_get); (case k9 => k_handed); exact h _)
theorem call49 {pos p2 : Pos} {env : Env} {f : Value} {fs : List Value} {Q : Value → Shared → Prop} (F : Fr h₀ L s.heap m) (X : (hd.heap_39 w.params).In h₀) (hf : f = .ref 49) (hs : fs = [.ref x]) (hp : p2 = pos) (h : wpAny (model PySem.Challenge.rw_pk0065_01.row.prog w) A (call (.ref 49) [.ref x]) Q E s) :
    wpAny (model PySem.Challenge.rw_pk0065_01.row.prog w) A (callWith pos f fs (backTo p2 (starEach [] env)) []) Q E s := by
  subst hf hs hp
  revert X; k_fill; intro X
  k_dflt (refine' callWith_K0 (Frag.In.keeps X F.keep) ?k2 h; (case k2 => k_is))
theorem callK {pos p2 : Pos} {env : Env} {f : Value} {fs : List Value} {a : Addr} {arg : PySem.Expr} {args : List PySem.Expr} {Q : Value → Shared → Prop} (F : Fr h₀ L s.heap m) (X : (hd.heap_39 w.params).In h₀) (hk : keepIn (hd.heap_39 w.params) (.ref a) = true) (hf : f = .ref a) (hp : p2 = pos)
    (h : ∀ y : (hd.heap_39 w.params).In s.heap, wpAny (model PySem.Challenge.rw_pk0065_01.row.prog w) A (callWith pos (.ref a) fs (backTo p2 (starEach (arg :: args) env)) []) Q E s) :
    wpAny (model PySem.Challenge.rw_pk0065_01.row.prog w) A (callWith pos f fs (backTo p2 (starEach (arg :: args) env)) []) Q E s := by
  subst hf
  exact h (Frag.In.keeps X F.keep)
theorem Off3.aparts {I C D : Addr} {l : Led} (h : Off3 I C D l) : Apart I l ∧ Apart C l ∧ Apart D l := ⟨fun p hp => (Off3.mem h p hp).1, fun p hp => (Off3.mem h p hp).2.1, fun p hp => (Off3.mem h p hp).2.2⟩
theorem Off3.from {I C D : Addr} {l : Led} (h1 : Apart I l) (h2 : Apart C l) (h3 : Apart D l) : Off3 I C D l := Off3.of fun p hp => ⟨h1 p hp, h2 p hp, h3 p hp⟩
theorem Apart.tail {a : Addr} {p : Addr × Obj} {l : Led} (h : Apart a (p :: l)) : Apart a l := fun q hq => h q (List.mem_cons_of_mem _ hq)
theorem Apart.head {a : Addr} {p : Addr × Obj} {l : Led} (h : Apart a (p :: l)) : p.1 ≠ a := h p List.mem_cons_self
end
end
section
open PySem PySem.W PyProof.Rows PyProof.Rows.LCg
section
variable {w : World} {h₀ h : Heap} {L : Addr} {x tp pb dx sl : Addr} {K : Int} {xs : List Nat} {pv : List Value} {rest nn : Led}
/-- one more object beside a line -/
theorem Stat.beside (S : Stat w x tp pb dx sl rest) (M : Mut w tp pb dx sl K xs pv rest nn) {p : Addr × Obj} (h : Apart p.1 nn) : Stat w x tp pb dx sl (p :: rest) := S.moreL (M.ne h)
theorem Apart.line {a : Addr} {K' : Int} {xs' : List Nat} {pv' : List Value} {nn' : Led} (h : Apart a nn) (M : Mut w tp pb dx sl K xs pv rest nn) (M' : Mut w tp pb dx sl K' xs' pv' rest nn') : Apart a nn' :=
  M'.apart (M.ne h) fun q hq => h q (M.sub q hq)
end
inductive Lex0Post (w : World) (ps : Array Value) (rest : Led) (r : Value) (news' : Led) : Prop
  | mk (xl tp pb dx sl : Addr) (restF nn : Led) (K : Int) (e1 : r = .ref xl) (S : Stat w xl tp pb dx sl restF) (M : Mut w tp pb dx sl K [] [] restF nn) (e2 : news' = (124, tabObj ps) :: nn) (ap : Apart 124 nn) (sub : ∀ p ∈ rest, p ∈ restF)
theorem lexer0_c (w : World) (t : Tok) (ps : Array Value) (rest : Led) (h124 : Apart 124 rest) (tab : TabOk ⟨102, 16, 102, 77⟩ QL ps rest) (hps : ps ≠ #[]) :
    Sp w 12 (.ref 129) [.str (Str.ofString "") t] (fun news => news = (124, tabObj ps) :: rest)
      (fun _ => Lex0Post w ps rest) := by
  intro p loose mean mg mb dp un gd cn cs a ccd cl outer A₀ base h₀ L m news s Q E B F X N T c1 c2 hk hdp hu pre hret
  rw [c0]
  refine lexer_c w [] t (Nat.zero_le _) ps rest h124 tab p loose mean mg mb dp un gd cn cs a ccd cl outer A₀ base h₀ L m news s Q E B F X N T c1 c2 hk hdp hu pre fun r news' h' tk' F' N' P => hret r news' h' tk' F' N' ?_
  obtain ⟨xl, tp, pb, dx, sl, ps2, rf, nn, e1, e2, e3, e4, e5, ⟨e6, _⟩, _, e7⟩ := P
  have e := e6.resolve_left hps
  subst e
  exact ⟨xl, tp, pb, dx, sl, rf, nn, _, e1, e2, e3, e4, e5, e7⟩
theorem eq_intT {prog : Program} {w : World} {A : Around} {E : Value → Shared → Prop} {s : Shared} {a b : Int} {t u : Tok} {Q : Value → Shared → Prop} (e : a = b) (h : Q (.bool true) s) : wpAny (model prog w) A (compareOp .Eq (.int a t) (.int b u)) Q E s := by
  subst e
  have r := PySem.SeqAt.RcAt.int_int (A := A) (s := s) a t a u
  rw [beq_self_eq_true] at r
  exact r prog w E Q h
theorem lexT_nil : sg (lexT []).1 = Str.ofString "" := c0.symm
theorem places_ne_fin : ∀ s : Fin 12, ∀ j : Fin 21, 5 ≤ s.val → j.val < 2 * s.val - 1 → placesL s.val j.val ≠ [] := by decide +kernel
theorem places_ne {n j : Nat} (h5 : 5 ≤ n) (h11 : n ≤ 11) (hj : j < 2 * n - 1) : placesL n j ≠ [] := places_ne_fin ⟨n, by omega⟩ ⟨j, by omega⟩ h5 hj
/-- the due lists, as far as the main loop asks -/
structure DueOk (ords : List Int) (n : Nat) (D : Nat → List Int) : Prop where
  due : ∀ j, j < 2 * n - 1 → Due ords (placesL n j) (D j)
theorem DueOk.one {ords : List Int} {n : Nat} {D : Nat → List Int} (H : DueOk ords n D) (h5 : 5 ≤ n) (h11 : n ≤ 11) {j : Nat} (hj : j < n) : D j = [(j : Int)] := by
  have h := (H.due j (by omega)).1
  rw [places_one h5 h11 hj] at h
  exact List.perm_singleton.mp h
theorem DueOk.range {ords : List Int} {n : Nat} {D : Nat → List Int} (H : DueOk ords n D) (h5 : 5 ≤ n) (h11 : n ≤ 11) {j : Nat} (hj : j < 2 * n - 1) : (∀ p ∈ D j, 0 ≤ p ∧ p < (n : Int)) ∧ (D j).length ≤ 11 ∧ D j ≠ [] := by
  have h := (H.due j hj).1
  have p := places_ok h5 h11 hj
  refine ⟨fun q hq => p.2.1 q (h.mem_iff.mp hq), by rw [h.length_eq]; exact p.2.2, fun e => ?_⟩
  rw [e] at h
  exact places_ne h5 h11 hj (List.nil_perm.mp h)
theorem DueOk.merge {ords : List Int} {n : Nat} {D : Nat → List Int} (H : DueOk ords n D) (h5 : 5 ≤ n) (h11 : n ≤ 11) {i : Nat} (hi : i + 2 ≤ n) : mergeL (ordAt ords) (D (2 * i)) (D (2 * i + 1)) = D (n + i) := by
  have h3 := H.due (n + i) (by omega)
  have hn := (places_ok h5 h11 (by omega : n + i < 2 * n - 1)).1
  rw [places_two h5 h11 hi] at h3 hn
  exact due_merge (H.due (2 * i) (by omega)) (H.due (2 * i + 1) (by omega)) h3 hn
theorem qesc_len (x : List Nat) : (qesc x).length ≤ 2 * x.length + 2 := by
  have := esc_len x
  simp only [qesc, List.length_append, List.length_cons, List.length_nil]; omega
theorem header_len {xs : List (List Nat)} (hx : ∀ x ∈ xs, x.length ≤ 3) (hl : xs.length ≤ 11) : (header xs).length ≤ 2000 := by
  have h1 := joinL_len [44, 9] (xs.map qesc)
  have h2 := sum_le 8 (xs.map qesc) fun y hy => by
    obtain ⟨x, hx', rfl⟩ := List.mem_map.mp hy
    have := qesc_len x
    have := hx x hx'
    omega
  rw [List.length_map] at h1 h2
  simp only [List.length_cons, List.length_nil] at h1
  unfold header
  omega
/-- the texts of places -/
def txs (tx : Nat → List Nat) (l : List Int) : List (List Nat) := l.map fun p => tx p.toNat
theorem txs_len {tx : Nat → List Nat} (h : ∀ i, (tx i).length ≤ 3) (l : List Int) : ∀ x ∈ txs tx l, x.length ≤ 3 := fun x hx => by
  obtain ⟨p, _, rfl⟩ := List.mem_map.mp hx
  exact h _
theorem parse_txs {tx : Nat → List Nat} {l : List Int} (h : l ≠ []) : (parseL false false [] (header (txs tx l))).map (fun p => Txt.strip (sg p)) = l.map fun p => sg (quoted (tx p.toNat)) := by
  cases l with
  | nil => exact absurd rfl h
  | cons a r =>
    show (parseL false false [] (header (tx a.toNat :: txs tx r))).map _ = _
    rw [parse_items]
    simp [txs]
theorem range_two {n i : Nat} (hi : i + 2 ≤ n) : List.range' (2 * i) (n - i) = 2 * i :: (2 * i + 1) :: List.range' (2 * (i + 1)) (n - i - 2) := by
  have e : n - i = (n - i - 2) + 1 + 1 := by omega
  rw [e, List.range'_succ, List.range'_succ]
  have e2 : 2 * i + 1 + 1 = 2 * (i + 1) := by omega
  rw [e2]; simp
theorem range_snoc {n i : Nat} (hi : i + 2 ≤ n) : List.range' (2 * (i + 1)) (n - (i + 1)) = List.range' (2 * (i + 1)) (n - i - 2) ++ [n + i] := by
  have e : n - (i + 1) = (n - i - 2) + 1 := by omega
  rw [e, List.range'_concat]
  have e2 : 2 * (i + 1) + 1 * (n - i - 2) = n + i := by omega
  rw [e2]
theorem strs_two {pv : List Value} {x y : Str} {r : List Str} (h : StrsAre pv (x :: y :: r)) : ∃ t1 t2 p2, pv = .str x t1 :: .str y t2 :: p2 ∧ StrsAre p2 r := by
  cases h with
  | cons _ t1 h => cases h with
    | cons _ t2 h => exact ⟨t1, t2, _, rfl, h⟩
theorem strs_one {pv : List Value} {x : Str} {r : List Str} (h : StrsAre pv (x :: r)) : ∃ t1 p2, pv = .str x t1 :: p2 ∧ StrsAre p2 r := by
  cases h with
  | cons _ t1 h => exact ⟨t1, _, rfl, h⟩
inductive IntAt (ns : List Int) (i : Nat) (o : Option Value) : Prop
  | mk (n : Int) (t : Tok) (hn : ns[i]? = some n) (e : o = some (.int n t))
/-- the value that a turn takes from a list of ints -/
theorem ints_turn {vs : List Value} {ns : List Int} (H : IntsAre vs ns) {i : Nat} {v : Value} {o : Option Value} (hP : vs.toArray[i]? = some v) (hm : o = some v) : IntAt ns i o := by
  have h2 : vs[i]? = some v := by simpa using hP
  induction H generalizing i with
  | nil => simp at h2
  | cons n t r ih =>
    cases i with
    | zero => simp at h2; exact ⟨n, t, rfl, by rw [hm, ← h2]⟩
    | succ i =>
      have h3 : _ := h2
      rw [List.getElem?_cons_succ] at h3
      obtain ⟨n', t', a, b⟩ := ih (i := i) (by simpa using h3) h3
      exact ⟨n', t', by rw [List.getElem?_cons_succ]; exact a, b⟩
end
section
open PyProof.Rows.LCg
theorem ints_at : ∀ {vs : List Value} {ns : List Int} {i : Nat} {v : Value}, IntsAre vs ns → vs[i]? = some v → ∃ n t, ns[i]? = some n ∧ v = .int n t
  | _, _, _, _, .nil, h => by simp at h
  | _, _, 0, _, .cons n t _, h => by
    simp at h
    exact ⟨n, t, by simp, h.symm⟩
  | _, _, i + 1, _, .cons _ _ r, h => by
    obtain ⟨n, t, a, b⟩ := ints_at r (i := i) (by simpa using h)
    exact ⟨n, t, by simpa using a, b⟩
theorem acomp_hold {prog : Program} {w : World} {A : Around} {E : Value → Shared → Prop} {s : Shared} {h₀ : Heap} {L : Addr} {m : Str → Option Value} {env : Env} {elt iter : PySem.Expr} {x y : Str} {px py : Pos} {scope : Scope} {cl : List (Str × Addr)} {pos spos : Pos} {Q : Flow → Shared → Prop} (F₀ : Fr h₀ L s.heap m) (hLe : env.locals = L)
    (hsw : swapsWith (.ListComp elt [⟨.Name x px, iter, [], 0⟩] scope pos) (some (.Name y py)) spos.line env = pure true)
    (hclos : closureFor scope env = pure cl) (hcell : ∀ z ∈ scope.names, z.2 ≠ .cell) (hkind : scope.kind = .function)
    (hnames : ∀ z ∈ scope.names, z.2 = .local → scope.names.lookup z.1 = some .local) (hx : scope.names.lookup x = some .local)
    (hy : env.kindOf y = some .local) (hp : (env.scope.kind == .class || (env.scope.kind == .module && env.locals != env.globals)) = false)
    (h : wpAny (model prog w) A (eval iter env) (fun v s₁ => Hold (CompSrc prog w A h₀ L m env elt x scope cl (fun s₂ => FinA h₀ L m s₂ y Q) v s₁)) E s)
    (hs : ∀ x, foldedSetIterable iter env x = pure x := by intro _; rfl) :
    wpAny (model prog w) A (exec (.Assign [.Name y py] (.ListComp elt [⟨.Name x px, iter, [], 0⟩] scope pos) spos) env) Q E s := Assign_ListComp_U F₀ hLe hsw hclos hcell hkind hnames hx hy hp h hs
theorem hnds_snoc {w : World} {ords : List Int} {hs : List Addr} {xl : Led} {o : Int} {a : Addr} {p q : Addr × Obj} (H : Hnds w ords hs xl) (h : Hnd w o a (p :: q :: xl)) : Hnds w (ords ++ [o]) (hs ++ [a]) (p :: q :: xl) := by
  refine ⟨by simp [H.1], fun i o' a' e1 e2 => ?_⟩
  rw [List.getElem?_append] at e1 e2
  rw [H.1] at e2
  split at e1
  · rename_i hlt
    rw [if_pos hlt] at e2
    exact (H.2 i o' a' e1 e2).sub fun z hz => List.mem_cons_of_mem _ (List.mem_cons_of_mem _ hz)
  · rename_i hge
    rw [if_neg hge] at e2
    have hz : i - ords.length = 0 := by
      cases hz : i - ords.length with
      | zero => rfl
      | succ x => rw [hz] at e1; simp at e1
    rw [hz] at e1 e2
    cases e1
    cases e2
    exact h
def tx (nums : List Int) (i : Nat) : List Nat := textL (nums.getD i 0) i
theorem tx_len (nums : List Int) (i : Nat) : (tx nums i).length ≤ 3 := textL_len _ _
theorem ints_get {vs : List Value} {ns : List Int} (h : IntsAre vs ns) {i : Nat} (hi : i < ns.length) : ∃ t, vs[i]? = some (.int ns[i] t) := by
  have hl := h.length
  obtain ⟨n, t, hn, e⟩ := ints_at h (List.getElem?_eq_getElem (by omega : i < vs.length))
  rw [List.getElem?_eq_getElem hi] at hn
  cases hn
  exact ⟨t, by rw [List.getElem?_eq_getElem (by omega : i < vs.length), e]⟩
theorem news_ne_seq {h₀ h : Heap} {L a b : Addr} {l : Led} {vs : Array Value} {k : Nat} {o : Obj} (N : News h₀ L h l) (m1 : (a, PySem.W.listOf vs k) ∈ l) (m2 : (b, o) ∈ l) (hd : ∀ vs k, o.data ≠ .seq vs k) : a ≠ b := fun e => by
  have z1 := (N _ m1).1
  have z2 := (N _ m2).1
  rw [show a = b from e] at z1
  rw [show h.get? b = some _ from z1] at z2
  cases z2
  exact hd _ _ rfl
def itx (nums : List Int) (p : Int) : Str := sg (quoted (tx nums p.toNat))
def wd (nums : List Int) (i : Nat) : List Nat := word (nums.getD i 0) (tx nums i)
theorem wd_len (nums : List Int) (i : Nat) : (wd nums i).length ≤ 20 := by
  have h1 := tx_len nums i
  have h2 := header1_len (tx nums i)
  have h3 := esc_len (header [tx nums i])
  unfold wd word
  split
  · simp only [List.length_append, List.length_cons, List.length_nil]; omega
  · have h4 : ∀ l : List Nat, (l.flatMap fun c => [92, c]).length = 2 * l.length := fun l => by
      induction l with
      | nil => rfl
      | cons c r ih => rw [List.flatMap_cons, List.length_append, ih, List.length_cons, List.length_cons, List.length_cons, List.length_nil]; omega
    rw [List.length_append, h4]
    simp only [List.length_cons, List.length_nil]; omega
theorem c122 : Str.ofString "z" = sg [122] := by decide +kernel
theorem news_ne {h₀ h : Heap} {L a b : Addr} {l : Led} {o o' : Obj} (N : News h₀ L h l) (m1 : (a, o) ∈ l) (m2 : (b, o') ∈ l) (hd : o.data ≠ o'.data) : a ≠ b := fun e => by
  have z1 := (N _ m1).1
  have z2 := (N _ m2).1
  rw [show a = b from e] at z1
  rw [show h.get? b = some _ from z1] at z2
  cases z2
  exact hd rfl
/-- a line's parts are no bare cell -/
theorem Stat.cut {w : World} {x tp pb dx sl c : Addr} {o : Obj} {rest l : Led} {h₀ h : Heap} {L : Addr} (S : Stat w x tp pb dx sl rest) (N : News h₀ L h l) (hs : ∀ p ∈ rest, p ∈ l) (hc : (c, o) ∈ l) (ho : o.data = .cell none) : Stat w x tp pb dx sl (cut c rest) := by
  obtain ⟨dt, e1, pbt, kt, kr, fr, lamO, ca, oC, c', oc, a, b, c1, d, ⟨fd, e⟩, f, g, h1, ⟨v, hv⟩, ⟨vs, hvs⟩⟩ := S.tape
  refine ⟨cut_mem S.inst (news_ne N (hs _ S.inst) hc (by rw [ho]; intro z; cases z)), ⟨dt, e1, pbt, kt, kr, fr, lamO, ca, oC, c', oc, cut_mem a (news_ne N (hs _ a) hc (by rw [ho]; intro z; cases z)), cut_mem b (news_ne N (hs _ b) hc (by rw [ho]; intro z; cases z)), c1, cut_mem d (news_ne N (hs _ d) hc (by rw [ho, e]; intro z; cases z)), ⟨fd, e⟩, cut_mem f (news_ne N (hs _ f) hc (by rw [ho, hv]; intro z; cases z)), cut_mem g (news_ne N (hs _ g) hc (by rw [ho, hvs]; intro z; cases z)), h1, ⟨v, hv⟩, ⟨vs, hvs⟩⟩, fun q hq => S.apb q (cut_sub hq), fun q hq => S.adx q (cut_sub hq), fun q hq => S.asl q (cut_sub hq), S.n1, S.n2, S.n3⟩
/-- what of the text is left behind i words -/
def remT (nums : List Int) (i : Nat) : List Nat := (((List.range nums.length).drop i).map (wd nums)).flatten ++ [122]
theorem remT_zero (nums : List Int) : remT nums 0 = joinL [] ((List.range nums.length).map (wd nums)) ++ [122] := by rw [joinL_nil]; rfl
theorem remT_step (nums : List Int) {i : Nat} (hi : i < nums.length) : lexT (remT nums i) = (header [tx nums i], remT nums (i + 1)) := by
  have e : remT nums i = wd nums i ++ remT nums (i + 1) := by
    unfold remT
    rw [List.drop_eq_getElem_cons (by simpa using hi : i < (List.range nums.length).length)]
    simp [List.append_assoc]
  rw [e]
  exact lexT_word _ _ _
theorem remT_last (nums : List Int) : remT nums nums.length = [122] := by unfold remT; rw [List.drop_of_length_le (by simp)]; rfl
/-- the handlers made so far -/
inductive HJ (w : World) (b : Nat) (nums : List Int) (i : Nat) (ys : List Value) (xl : Led) : Prop
  | mk (hs : List Addr) (e : ys = hs.map Value.ref) (H : Hnds w ((nums.take i).map order) hs xl) (hx : ∀ p ∈ xl, @LT.lt Nat _ b p.1)
/-- the lists of items made so far -/
inductive IJ (b : Addr) (nums : List Int) (D : Nat → List Int) (rest : Led) (i : Nat) (ys : List Value) (il : Led) : Prop
  | mk (as : List Addr) (e : ys = as.map Value.ref) (hl : as.length = i) (sub : ∀ p ∈ rest, p ∈ il) (h1 : Apart 124 il) (h2 : Apart b il) (hall : ∀ j a, as[j]? = some a → ∃ vs k, (a, PySem.W.listOf (List.toArray vs) k) ∈ il ∧ StrsAre vs ((D j).map (itx nums)))
/-- the law's names while the line is read -/
structure LawM (T : Value) (li ld lh : Addr) (sz : Value) (m : Str → Option Value) : Prop where
  t : m (Str.ofString "text") = some T
  i : m (Str.ofString "items") = some (.ref li)
  d : m (Str.ofString "due") = some (.ref ld)
  h : m (Str.ofString "handlers") = some (.ref lh)
  s : m (Str.ofString "size") = some sz
theorem LawM.fr {T sz : Value} {li ld lh : Addr} {m : Str → Option Value} {h₀ h : Heap} {L : Addr} (H : LawM T li ld lh sz m) (F : Fr h₀ L h m) :
    Fr h₀ L h (fun y => if y = Str.ofString "size" then some sz else if y = Str.ofString "handlers" then some (.ref lh) else if y = Str.ofString "due" then some (.ref ld) else if y = Str.ofString "items" then some (.ref li) else if y = Str.ofString "text" then some T else m y) :=
  canon (x := Str.ofString "size") (canon (x := Str.ofString "handlers") (canon (x := Str.ofString "due") (canon (x := Str.ofString "items") (canon (x := Str.ofString "text") F H.t) H.i) H.d) H.h) H.s
theorem LawM.set {T sz v : Value} {li ld lh : Addr} {m : Str → Option Value} {z : Str} (H : LawM T li ld lh sz m) (hz : z ∉ [Str.ofString "text", Str.ofString "items", Str.ofString "due", Str.ofString "handlers", Str.ofString "size"]) : LawM T li ld lh sz (fun y => if y = z then some v else m y) := by
  simp only [List.mem_cons, List.not_mem_nil, or_false, not_or] at hz
  obtain ⟨a, b, c, d, e⟩ := hz
  exact ⟨(if_neg (Ne.symm a)).trans H.t, (if_neg (Ne.symm b)).trans H.i, (if_neg (Ne.symm c)).trans H.d, (if_neg (Ne.symm d)).trans H.h, (if_neg (Ne.symm e)).trans H.s⟩
/-- where the pushing stands -/
inductive PJ (w : World) (tp pb dx sl : Addr) (K : Int) (ysd : List Value) (rest pre : Led) (T : Value) (li ld lh : Addr) (sz : Value) (i : Nat) (m : Str → Option Value) (nw : Led) : Prop
  | mk (nn : Led) (e : nw = pre ++ nn) (M : Mut w tp pb dx sl K [122] (ysd.take i) rest nn) (lm : LawM T li ld lh sz m)
/-- where the main loop stands -/
inductive RJ (w : World) (tp pb dx sl : Addr) (K : Int) (nums : List Int) (D : Nat → List Int) (rest pre : Led) (T : Value) (li ld lh : Addr) (sz : Value) (i : Nat) (m : Str → Option Value) (nw : Led) : Prop
  | mk (nn : Led) (pv : List Value) (e : nw = pre ++ nn) (M : Mut w tp pb dx sl K [122] pv rest nn) (hpv : StrsAre pv ((List.range' (2 * i) (nums.length - i)).map fun j => sg (header (txs (tx nums) (D j))))) (lm : LawM T li ld lh sz m)
theorem ints_drop : ∀ {vs : List Value} {ns : List Int}, IntsAre vs ns → ∀ n, IntsAre (vs.drop n) (ns.drop n)
  | _, _, h, 0 => h
  | _, _, .nil, _ + 1 => .nil
  | _, _, .cons _ _ h, n + 1 => ints_drop h n
end
section
open PyProof.Rows.LCg
theorem wds_law : True := by
  k_with_none
  (k_with "eval ListComp" => (k_here; k_dflt (refine comp_hold (F₀ := by k_asm) (by with_unfolding_all rfl) (by decide) (by rfl) (by decide) (by rfl) ?_)))
  (k_with "call builtin:len" => (k_here; refine Hold.out ?_))
  (k_with "subscriptTail" => (k_here; (with_reducible show wpAny _ _ (subscriptTail (PySem.Expr.List _ _) _ _ _) _ _ _); refine Hold.out ?_))
  (k_with "subscriptTail Name Name ref int" => (k_here; (with_reducible show wpAny _ _ (subscriptTail _ _ (Value.ref _) (Value.int _ _)) _ _ _); k_dflt (refine' item_led (by k_asm) (by k_mem) (by omega) (by omega) (by assumption) ?_)))
  (k_with "call ref" => (k_here; (with_reducible show wpAny _ _ (call (Value.ref 186) [Value.ref _]) _ _ _); refine Hold.out ?_))
  (k_with "binaryOp Add str str" => (k_here; (with_unfolding_all refine' addL (by (first | with_reducible exact c34 | with_reducible exact c122 | exact rfl)) (by (first | with_reducible exact c34 | with_reducible exact c122 | exact rfl)) (by ((simp only [List.length_append, List.length_cons, List.length_nil]; omega))) ?_); intro _ _))
  (k_with "call ref" => (k_here; (with_reducible show wpAny _ _ (call (Value.ref 129) [Value.str _ _]) _ _ _); refine Hold.out ?_))
  (k_with "call ref" => (k_here; (with_reducible show wpAny _ _ (call (Value.ref 49) _) _ _ _); refine Hold.out ?_))
  (k_with "call ref" => (k_here; k_dflt (refine' sp_pure (order_c _ _ _) (by kf1_first) trivial ?_); intro _ _ _ _ _; (try dsimp only); (try k_fold)))
  (k_with "call ref" => (k_here; k_dflt (refine' handler_at (by kf1_first) ?_); intro _ _ _ _ _ _ _ _ _ _ _ _; (try dsimp only); (try k_fold)))
  (k_with "call ref" => (k_here; k_dflt (refine' sp_pure (text_c _ _ _ _ _) (by kf1_first) trivial ?_); intro _ _ _ _ _; (try dsimp only); (try k_fold)))
  (k_with "call ref" => (k_here; k_dflt (refine' sp_pure (word_c _ _ _ _ _ (by omega)) (by kf1_first) trivial ?_); intro _ _ _ _ _; (try dsimp only); (try k_fold)))
  (k_with "exec Assign cons ListComp" => (k_here; k_dflt (refine acomp_hold (F₀ := by k_asm) (by rfl) (by with_unfolding_all rfl) (by with_unfolding_all rfl) (by decide) (by rfl) (by decide) (by rfl) (by rfl) (by rfl) ?_)))
  (k_with "callWith ref" => (k_here; (try dsimp only); (with_reducible show wpAny _ _ (callWith _ (Value.ref _) _ (backTo _ (starEach (_ :: _) _)) []) _ _ _); k_dflt (refine' callWith_K (by k_asm) (by k_is) ?_)))
  (k_with "callWith ref" => (k_here; (try dsimp only); (with_reducible show wpAny _ _ (callWith _ (Value.ref _) _ (backTo _ (starEach [] _)) []) _ _ _); k_dflt (refine' callWith_K0 (by (exact Frag.In.keeps (by k_asm) (Fr.keep (by k_asm)))) (by k_is) ?_)))
  (k_with "getMethod ref" => (k_here; (with_reducible show wpAny _ _ (getMethod (Value.ref _) (PySem.Str.ofString "get_token") _) _ _ _); k_dflt (refine' line_get (by k_asm) (by k_asm) (by k_asm) (by k_mem) (by assumption) (by k_mem) ?_)))
  (k_with "getMethod ref" => (k_here; (with_reducible show wpAny _ _ (getMethod (Value.ref _) (PySem.Str.ofString "push_token") _) _ _ _); k_dflt (refine' line_push (by k_asm) (by k_asm) (by k_asm) (by k_mem) (by assumption) (by k_mem) ?_)))
  (k_with "callWith ref" => (k_here; (try dsimp only); (with_reducible show wpAny _ _ (callWith _ (Value.ref 49) [Value.ref _] (backTo _ (starEach [] _)) []) _ _ _); k_dflt (refine' call49 (by k_asm) (by k_asm) rfl rfl rfl ?_)))
  (k_with "call ref" => (k_here; (with_reducible show wpAny _ _ (call (Value.ref 56) _) _ _ _); refine Hold.out ?_))
  (k_with "call ref" => (k_here; (with_reducible show wpAny _ _ (call (Value.ref 122) _) _ _ _); refine Hold.out ?_))
  (k_with "call ref" => (k_here; (with_reducible show wpAny _ _ (call (Value.ref 162) _) _ _ _); refine Hold.out ?_))
  (k_with "call ref" => (k_here; (with_reducible show wpAny _ _ (call (Value.ref 174) _) _ _ _); refine Hold.out ?_))
  (k_with "call ref" => (k_here; (with_reducible show wpAny _ _ (call (Value.ref 191) _) _ _ _); refine Hold.out ?_))
  (k_with "exec For Name Name cons nil" => (k_here; refine Hold.out ?_))
  (k_with "exec For Name Call cons nil" => (k_here; refine Hold.out ?_))
  (k_with "subscriptTail Name Slice ref ref" => (k_here; (with_reducible show wpAny _ _ (subscriptTail _ (PySem.Expr.Slice _ _ none _) (Value.ref _) (Value.ref _)) _ _ _); k_dflt (refine' kmk_slice_lit (by k_asm) (by k_asm) (by (exact isL (by k_asm) (by k_mem))) (by kmk_part) (by kmk_part) (by (exact slice_pair (by assumption) (by assumption))) ?_ (by (with_unfolding_all rfl)) (by kmk_pure) (by ((simp only [List.size_toArray, List.length_map, sizeLine_eq]; omega)))); intro _ _ _ _; kpr_short))
  (k_with "compareOp NotEq ref ref" => (k_here; (with_reducible show wpAny _ _ (compareOp CmpOp.NotEq (Value.ref _) (Value.ref _)) _ _ _); refine Hold.out ?_))
  (k_with "compareOp Eq ref ref" => (k_here; (with_reducible show wpAny _ _ (compareOp CmpOp.Eq (Value.ref _) (Value.ref _)) _ _ _); refine Hold.out ?_))
  (k_with "subscriptTail" => (k_here; (with_reducible show wpAny _ _ (subscriptTail _ (PySem.Expr.BinOp _ _ _ _) (Value.ref _) (Value.int _ _)) _ _ _); k_dflt (refine' item_led (by k_asm) (by k_mem) (by omega) (by omega) (by assumption) ?_)))
  (k_with "subscriptTail" => (k_here; (with_reducible show wpAny _ _ (subscriptTail _ _ (Value.ref _) (Value.int (-1) _)) _ _ _); k_dflt (refine' itemLast (isL (by k_asm) (by k_mem)) (by assumption) ?_)))
  (k_with "subscriptTail Name Constant ref int" => (k_here; (with_reducible show wpAny _ _ (subscriptTail _ _ (Value.ref _) (Value.int 0 _)) _ _ _); k_dflt (refine' item_led (by k_asm) (by k_mem) (by decide) (by decide) (by assumption) ?_)))
  (k_with "getAttr ref" => (k_here; (with_reducible show wpAny _ _ (getAttr (Value.ref _) (PySem.Str.ofString "lineno") _) _ _ _); k_dflt (refine' line_no (by k_asm) (by k_asm) (by k_asm) (by k_mem) (by k_mem) (by assumption) ?_); intro _))
  (k_with "call builtin:str.count" => (k_here; (with_reducible show wpAny _ _ (call (Value.builtin _) [Value.str _ _, Value.str _ _]) _ _ _); k_dflt (refine' countL c10 ?_); intro _ _))
  (k_with "compareOp Eq int int" => (k_here; (with_reducible show wpAny _ _ (compareOp CmpOp.Eq (Value.int _ _) (Value.int _ _)) _ _ _); k_dflt (refine' eq_intT (by assumption) ?_)))
  trivial
theorem trial : PySem.Challenge.rw_pk0065_01.Holds := hd (by
  (k_go0; (all_goals try k_fold))
  rename_i w s₀ s₁ mg mb G Y fa o pm cd doc ho hcd hg X V T B TE TW ns hs hlay0 hL0 hr hl2 a1 a2 lsc vs a3 hL ra w1 r0 hI hr2 hc1 hc2 hD hh tk o4 o3 o2 o1 e4 e3 e2 e1 X0 XX TT KK FF cHa NN l0
  have cHb := codeHd
  clear codeHd
  clear G Y ho hcd hT8 X V T B TE TW hT9 hs hlay0 hL0 hr hl2 ra w1 r0 hr2 hc2 hD X0
  clear hL
  generalize hbase : ghostOf s₁.heap [(185, 181), (128, 124)] = h₀ at *
  generalize hsize : s₁.heap.objs.size = L at *
  clear hbase hsize
  have hvl : vs.length = ns.length := hI.length
  have hnl : ns.length ≤ 63 := by omega
  have c1 : CodeHd h₀ 185 181 := cHa
  have c2 : CodeHd h₀ 128 124 := cHb
  clear cHa cHb
  k_steps
  rename_i D1 ws1 _ hI1 hC1 _ _ l _ _ D2 ws2 _ _ _ hI2 hC2 _ _
  have hw2 : ws2.length = (List.take 11 ns).length := hI2.length
  refine Hold.mk ?_
  k_dflt (refine' kun_lenL (isL ?N1 ?m1) rfl ?z ?_; (case N1 => k_asm); (case m1 => k_mem); (case z => (simp only [List.size_toArray, sizeLine_eq]; omega)))
  rw [List.size_toArray, hw2]
  k_steps
  refine Hold.mk (kba_turn (value' := PySem.Expr.Name (PySem.Str.ofString "_") ⟨0, 0, 0, 0⟩) (fun _ => rfl) ?_)
  k_dflt (refine' kmk_slice_ints (ms := List.drop (List.take 11 ns).length [15, 36, 10, 27, 30]) ?qF ?qN ?ql (IsPart.int _ _) IsPart.none (IntsAre.cons 15 _ (IntsAre.cons 36 _ (IntsAre.cons 10 _ (IntsAre.cons 27 _ (IntsAre.cons 30 _ IntsAre.nil))))) ?qm rfl ?_ ?qs ?qt ?qz; (case qF => k_asm); (case qN => k_asm); (case ql => exact isL (by k_asm) (by k_mem)); (case qm => (rw [slicePick_from']; exact ints_drop (IntsAre.cons 15 _ (IntsAre.cons 36 _ (IntsAre.cons 10 _ (IntsAre.cons 27 _ (IntsAre.cons 30 _ IntsAre.nil))))) _)); (case qs => with_unfolding_all rfl); (case qt => kmk_pure); (case qz => exact Nat.le_of_ble_eq_true rfl))
  intro D3 ws3 h3 F3 N3 l3 hI3 _ _
  k_lt l3
  k_steps
  rename_i Dn wn _ hIn ln _ oN F4 N4 dN
  have hwn : wn.length = _ := hIn.length
  generalize hnums : (List.take 11 ns ++ List.drop (List.take 11 ns).length [15, 36, 10, 27, 30] : List Int) = nums at hIn hwn
  have h5 : 5 ≤ nums.length := by rw [← hnums]; simp only [List.length_append, List.length_take, List.length_drop, List.length_cons, List.length_nil]; omega
  have h11 : nums.length ≤ 11 := by rw [← hnums]; simp only [List.length_append, List.length_take, List.length_drop, List.length_cons, List.length_nil]; omega
  refine Hold.mk ?_
  k_dflt (refine' kun_lenL (isL ?N1 ?m1) rfl ?z ?_; (case N1 => k_asm); (case m1 => k_mem); (case z => (simp only [List.size_toArray, sizeLine_eq]; omega)))
  rw [List.size_toArray, hwn]
  k_steps
  rename_i _ _ F5 N5
  -- orders
  have hwsz : wn.toArray.size ≤ sizeLine := by rw [List.size_toArray, sizeLine_eq]; omega
  refine Hold.mk (CompSrc.ledger rfl F5 N5 (by k_mem) hwsz fun gg => rest_same (fun i ys => IntsAre ys ((nums.take i).map order)) ?_ ?_ .nil)
  · intro i ys hi hys v I oI C oC D m₂ h tk E' hP hN hm F2 N2 o3 ne
    (try k_fold)
    have hi' : i < nums.length := by rw [List.size_toArray, hwn] at hi; exact hi
    obtain ⟨n, tn, hn, hm2⟩ := ints_turn hIn hP hm
    clear hP hi hm
    k_steps
    (try k_unfold)
    refine Hold.mk (CompEnd.intro (by assumption) (by assumption) _ (fun _ h => h) o3 (.inr ⟨_, by k_mem, rfl, _, rfl⟩) ⟨rfl, ?_⟩)
    rw [List.take_add_one, List.map_append, hn]
    exact ints_snoc hys _ _
  intro ys hys lo h tk6 F6 N6 o1'
  rw [List.size_toArray, hwn, List.take_length] at hys
  (try dsimp only)
  k_steps
  have q1 : @Ne Nat (L + 1) lo := off1_mem o1' (L + 1, _) (by k_mem)
  have q2 : @Ne Nat (L + 1 + 1) lo := off1_mem o1' (L + 1 + 1, _) (by k_mem)
  have q3 : @Ne Nat (L + 1 + 1 + 1) lo := off1_mem o1' (L + 1 + 1 + 1, _) (by k_mem)
  have q4 : @Ne Nat (L + 1 + 1 + 1 + 1) lo := off1_mem o1' (L + 1 + 1 + 1 + 1, _) (by k_mem)
  have q5 : @Ne Nat 181 lo := off1_mem o1' (181, _) (by k_mem)
  have q6 : @Ne Nat 124 lo := off1_mem o1' (124, _) (by k_mem)
  have N7 : News h₀ L h [(lo, lst ys), (Dn, PySem.W.listOf wn.toArray 0), (L + 1 + 1 + 1 + 1, o4), (L + 1 + 1 + 1, o3), (L + 1 + 1, o2), (L + 1, oN), (181, tabObj #[]), (124, tabObj #[])] := news_sub N6 (by (repeat refine sub_cons (by k_mem) ?_); (first | exact sub_nil | exact fun q h9 => by k_mem))
  (try clear N6); (try clear N5); (try clear F5); (try clear N4); (try clear F4); clear o1'
  k_steps
  rename_i _ oO F8 N8 dO
  generalize hords : nums.map order = ords at hys
  have hol : ords.length = nums.length := by rw [← hords, List.length_map]
  refine Hold.mk (CompSrc.ledger rfl F8 N8 (by k_mem) hwsz fun gg => rest_pre (l := []) [(lo, lst ys), (Dn, PySem.W.listOf wn.toArray 0), (L + 1 + 1 + 1 + 1, o4), (L + 1 + 1 + 1, o3), (L + 1 + 1, oO), (L + 1, oN), (181, tabObj #[]), (124, tabObj #[])] (HJ w (L + 1 + 1 + 1 + 1) nums) ?_ ?_ ⟨[], rfl, ⟨rfl, fun i o a e => by simp at e⟩, fun p hp => by cases hp⟩)
  · intro i ys' xl hi hJ v I oI C oC D m₂ h tk E' hP hN hm F2 N2 o3' ne
    (try k_fold)
    obtain ⟨hs, e8, Hh, hxl⟩ := hJ
    (try dsimp only [List.cons_append, List.nil_append] at N2 o3')
    have hi' : i < nums.length := by rw [List.size_toArray, hwn] at hi; exact hi
    obtain ⟨n, tn, hn, hm2⟩ := ints_turn hIn hP hm
    clear hP hi hm
    k_steps
    rename_i h9 tk9 F9 x9 dx9 C9 es9 k9 H9 la9 lb9 N9
    have oI9 : @LT.lt Nat _ I dx9 := la9 (I, _) List.mem_cons_self
    have oC9 : @LT.lt Nat _ C dx9 := la9 (C, _) (by k_mem)
    have oD9 : @LT.lt Nat _ D dx9 := la9 (D, _) (by k_mem)
    (try k_unfold)
    refine Hold.mk (CompEnd.intro F9 N9 ((lo, lst ys) :: (Dn, PySem.W.listOf wn.toArray 0) :: (L + 1 + 1 + 1 + 1, o4) :: (L + 1 + 1 + 1, o3) :: (L + 1 + 1, oO) :: (L + 1, oN) :: (181, tabObj #[]) :: (124, tabObj #[]) :: (x9, instObj C9 dx9) :: (dx9, dictOf es9 k9) :: xl) ?_ ?_ (.inr ⟨_, by k_mem, rfl, _, rfl⟩) ⟨(x9, instObj C9 dx9) :: (dx9, dictOf es9 k9) :: xl, rfl, hs ++ [x9], by rw [e8, List.map_append]; rfl, ?_, ?_⟩)
    · (repeat refine sub_cons (by k_mem) ?_); (first | exact sub_nil | exact fun q h9 => by k_mem)
    · have hm3 := Off3.mem o3'
      refine Off3.of ?_
      iterate 8 refine all_cons (hm3 _ (by k_mem)) ?_
      refine all_cons ⟨Nat.ne_of_gt (Nat.lt_trans oI9 lb9), Nat.ne_of_gt (Nat.lt_trans oC9 lb9), Nat.ne_of_gt (Nat.lt_trans oD9 lb9)⟩ ?_
      refine all_cons ⟨Nat.ne_of_gt oI9, Nat.ne_of_gt oC9, Nat.ne_of_gt oD9⟩ ?_
      exact fun p h9 => hm3 p (by k_mem)
    · rw [List.take_add_one, List.map_append, hn]
      exact hnds_snoc Hh ⟨C9, dx9, es9, k9, List.mem_cons_self, List.mem_cons_of_mem _ List.mem_cons_self, H9⟩
    · have ol9 : @LT.lt Nat _ (L + 1 + 1 + 1 + 1) dx9 := la9 (L + 1 + 1 + 1 + 1, _) (by k_mem)
      intro p hp
      rcases List.mem_cons.mp hp with rfl | hp
      · exact Nat.lt_trans ol9 lb9
      · rcases List.mem_cons.mp hp with rfl | hp
        · exact ol9
        · exact hxl p hp
  rintro ysh xl ⟨hs, rfl, Hh, hxl⟩ lh h tk7 F9 N9 o1'
  (try dsimp only [List.cons_append, List.nil_append] at N9 o1')
  rw [List.size_toArray, hwn, List.take_length, hords] at Hh
  (try dsimp only)
  k_steps
  rename_i hR F10 N10 hk10
  refine Hold.mk (CompSrc.range (n := nums.length) rfl F10 N10 hR (small_one (by omega) (by omega) (by omega) (by omega)) (by rw [rangeSize_nat]; simp) (by rw [sizeLine_eq]; omega) fun gg => rest_same (fun i ys' => StrsAre ys' (((List.range i).map (tx nums)).map sg)) ?_ ?_ .nil)
  · intro i ys' hi hys' v I oI C oC D m₂ h tk E' hP hN hm F2 N2 o3' ne
    (try k_fold)
    obtain ⟨ti, hv⟩ : ∃ t, v = .int (i : Int) t := by simpa using hP
    rw [hv] at hm
    obtain ⟨tn, hwi⟩ := ints_get hIn hi
    have hwi' : wn.toArray[((i : Nat) : Int).toNat]? = some (Value.int nums[i] tn) := by simpa using hwi
    clear hP hwi
    k_steps
    (try k_unfold)
    refine Hold.mk (CompEnd.intro (by assumption) (by assumption) _ (fun _ h => h) o3' trivial ⟨rfl, ?_⟩)
    rw [List.range_succ, List.map_append, List.map_append]
    have e : tx nums i = textL nums[i] i := by rw [tx, List.getD_eq_getElem?_getD, List.getElem?_eq_getElem hi]; rfl
    simp only [List.map_cons, List.map_nil, e]
    exact strs_snoc _ _ hys'
  intro ysx hysx lt h tk8 F11 N11 o1''
  have w1 : @Ne Nat (L + 1) lt := off1_mem o1'' (L + 1, _) (by k_mem)
  have w2 : @Ne Nat (L + 1 + 1) lt := off1_mem o1'' (L + 1 + 1, _) (by k_mem)
  have w3 : @Ne Nat (L + 1 + 1 + 1) lt := off1_mem o1'' (L + 1 + 1 + 1, _) (by k_mem)
  have w4 : @Ne Nat (L + 1 + 1 + 1 + 1) lt := off1_mem o1'' (L + 1 + 1 + 1 + 1, _) (by k_mem)
  have w7 : @Ne Nat 181 lt := off1_mem o1'' (181, _) (by k_mem)
  have w8 : @Ne Nat 181 lh := off1_mem o1' (181, _) (by k_mem)
  have w5 : @Ne Nat (L + 1 + 1 + 1) lh := off1_mem o1' (L + 1 + 1 + 1, _) (by k_mem)
  have w6 : @Ne Nat (L + 1 + 1 + 1 + 1) lh := off1_mem o1' (L + 1 + 1 + 1 + 1, _) (by k_mem)
  have ax3 : Apart (L + 1 + 1 + 1) xl := fun p hp => Nat.ne_of_gt (Nat.lt_trans (Nat.lt_succ_self _) (hxl p hp))
  have ax4 : Apart (L + 1 + 1 + 1 + 1) xl := fun p hp => Nat.ne_of_gt (hxl p hp)
  have al3 : @LT.lt Nat _ (L + 1 + 1 + 1) Dn := ln.2.2.2.2.2.1
  (try dsimp only)
  k_steps
  rename_i oT F12 N12 dT
  refine Hold.mk ?_
  k_dflt (refine' sp_use (due_c w lo ords ys ys.length hys (hol ▸ h5) (hol ▸ h11)) ?k1 ?k2 ?k3 ?k4 ?k5 ?k6 ?k7 ?k8 ?k9 ?k10 ?kpre ?_; (case k1 => k_asm); (case k2 => k_asm); (case k3 => k_asm); (case k4 => k_asm); (case k5 => k_asm); (case k6 => k_asm); (case k7 => k_asm); (case k8 => exact rfl); (case k9 => ((try simp only [depth_in1, depth_deeper, depth_caller]); (try dsimp only [ktrTop]); omega)); (case k10 => ((try simp only [units_in1, units_deeper, Around.mark_units, units_caller]); (try dsimp only [ktrTop]); omega)); (case kpre => exact ⟨by k_mem, Ne.symm q5, by k_mem⟩))
  rintro r9 nw9 h9 tk9 F13 N13 ⟨ld, ls, kd, rfl, mld, hls, hdue, hsub, pz, d181⟩
  have lL : @LT.lt Nat _ 181 L := l0.1
  have lL2 : @LT.lt Nat _ 124 L := l0.2
  have lL1 : @LT.lt Nat _ 181 (L + 1) := Nat.lt_succ_of_lt lL
  have d3 : ∀ p ∈ xl, p ∈ nw9 := fun p hp => hsub p (by k_mem) (Nat.ne_of_gt (Nat.lt_trans (Nat.lt_succ_of_lt (Nat.lt_succ_of_lt (Nat.lt_succ_of_lt lL1))) (hxl p hp)))
  have d4 := hsub (lt, lst ysx) (by k_mem) (Ne.symm w7)
  have d5 := hsub (lh, lst (hs.map Value.ref)) (by k_mem) (Ne.symm w8)
  have d6 := hsub (lo, lst ys) (by k_mem) (Ne.symm q5)
  have d7 := hsub (Dn, PySem.W.listOf wn.toArray 0) (by k_mem) (Nat.ne_of_gt ln.2.2.2.2.2.2.2.2.1)
  have d8 := hsub (L + 1 + 1 + 1 + 1, o4) (by k_mem) (Nat.ne_of_gt (Nat.lt_succ_of_lt (Nat.lt_succ_of_lt (Nat.lt_succ_of_lt lL1))))
  have d9 := hsub (L + 1 + 1 + 1, oT) (by k_mem) (Nat.ne_of_gt (Nat.lt_succ_of_lt (Nat.lt_succ_of_lt lL1)))
  have d10 := hsub (L + 1 + 1, oO) (by k_mem) (Nat.ne_of_gt (Nat.lt_succ_of_lt lL1))
  have d11 := hsub (L + 1, oN) (by k_mem) (Nat.ne_of_gt lL1)
  have d12 := hsub (124, tabObj #[]) (by k_mem) (by decide)
  have no4 : ∀ vs k, o4.data ≠ .seq vs k := fun vs k h => by rw [e4] at h; cases h
  have not4 : ∀ vs k, (tabObj #[]).data ≠ .seq vs k := fun vs k h => by cases h
  have rm : ∀ p ∈ nw9, p.1 ≠ 124 → p.1 ≠ L + 1 + 1 + 1 + 1 → p ∈ cut 124 (cut (L + 1 + 1 + 1 + 1) nw9) := fun p hp a b => cut_mem (cut_mem hp b) a
  have rl : ∀ a vs k, (a, PySem.W.listOf vs k) ∈ nw9 → (a, PySem.W.listOf vs k) ∈ cut 124 (cut (L + 1 + 1 + 1 + 1) nw9) := fun a vs k hp => rm _ hp (news_ne_seq N13 hp d12 not4) (news_ne_seq N13 hp d8 no4)
  have N14 : News h₀ L h9 ((L + 1 + 1 + 1 + 1, o4) :: (124, tabObj #[]) :: cut 124 (cut (L + 1 + 1 + 1 + 1) nw9)) := news_sub N13 (sub_cons d8 (sub_cons d12 fun q hq => cut_sub (cut_sub hq)))
  have f181 := rm (181, tabObj pz) d181 (show @Ne Nat 181 124 by decide) (Nat.ne_of_lt (Nat.lt_succ_of_lt (Nat.lt_succ_of_lt (Nat.lt_succ_of_lt lL1))))
  have f4 := rl _ _ _ d4
  have f5 := rl _ _ _ d5
  have f6 := rl _ _ _ d6
  have f7 := rl _ _ _ d7
  have f8 := rl _ _ _ mld
  have f9 : (L + 1 + 1 + 1, oT) ∈ cut 124 (cut (L + 1 + 1 + 1 + 1) nw9) := rm _ d9 (Nat.ne_of_gt (Nat.lt_succ_of_lt (Nat.lt_succ_of_lt (Nat.lt_succ_of_lt lL2)))) (Nat.ne_of_lt (Nat.lt_succ_self _))
  have f11 : (L + 1, oN) ∈ cut 124 (cut (L + 1 + 1 + 1 + 1) nw9) := rm _ d11 (Nat.ne_of_gt (Nat.lt_succ_of_lt lL2)) (Nat.ne_of_lt (Nat.lt_succ_of_lt (Nat.lt_succ_of_lt (Nat.lt_succ_self _))))
  have f10 : (L + 1 + 1, oO) ∈ cut 124 (cut (L + 1 + 1 + 1 + 1) nw9) := rm _ d10 (Nat.ne_of_gt (Nat.lt_succ_of_lt (Nat.lt_succ_of_lt lL2))) (Nat.ne_of_lt (Nat.lt_succ_of_lt (Nat.lt_succ_self _)))
  have f3 : ∀ p ∈ xl, p ∈ cut 124 (cut (L + 1 + 1 + 1 + 1) nw9) := fun p hp => rm _ (d3 p hp) (Nat.ne_of_gt (Nat.lt_trans (Nat.lt_succ_of_lt (Nat.lt_succ_of_lt (Nat.lt_succ_of_lt (Nat.lt_succ_of_lt lL2)))) (hxl p hp))) (Nat.ne_of_gt (hxl p hp))
  have g1 : Apart 124 (cut 124 (cut (L + 1 + 1 + 1 + 1) nw9)) := cut_apart _ _
  have g2 : Apart (L + 1 + 1 + 1 + 1) (cut 124 (cut (L + 1 + 1 + 1 + 1) nw9)) := fun q hq => cut_apart _ _ q (cut_sub hq)
  obtain ⟨D, hD⟩ : ∃ D : Nat → List Int, ∀ j a, ls[j]? = some a → ∃ vs k, (a, PySem.W.listOf (List.toArray vs) k) ∈ cut 124 (cut (L + 1 + 1 + 1 + 1) nw9) ∧ IntsAre vs (D j) ∧ Due ords (placesL ords.length j) (D j) := by
    have h1 : ∀ j : Nat, ∃ on, ∀ a, ls[j]? = some a → ∃ vs k, (a, PySem.W.listOf (List.toArray vs) k) ∈ cut 124 (cut (L + 1 + 1 + 1 + 1) nw9) ∧ IntsAre vs on ∧ Due ords (placesL ords.length j) on := fun j => by
      cases hj : ls[j]? with
      | none => exact ⟨[], fun a ha => by cases ha⟩
      | some a =>
        obtain ⟨vs, k, on, m1, m2, m3⟩ := hdue j a hj
        exact ⟨on, fun a' ha => by cases ha; exact ⟨vs, k, rl _ _ _ m1, m2, m3⟩⟩
    exact ⟨fun j => (h1 j).choose, fun j => (h1 j).choose_spec⟩
  have Hr : Hnds w ords hs (cut 124 (cut (L + 1 + 1 + 1 + 1) nw9)) := Hh.sub f3
  clear N13 d181 d3 d4 d5 d6 d7 d8 d9 d10 d11 d12 mld hdue hsub rl rm f3 Hh
  generalize hrest : cut 124 (cut (L + 1 + 1 + 1 + 1) nw9) = rest at *
  clear hrest
  k_steps
  rename_i F15 N15
  have hlsl : ls.length = 2 * nums.length - 1 := by rw [hls, hol]
  refine Hold.mk (CompSrc.ledger rfl F15 N15 (by k_mem) (by rw [List.size_toArray, List.length_map, sizeLine_eq]; omega) fun gg => rest_pre (l := rest) [(L + 1 + 1 + 1 + 1, o4), (124, tabObj #[])] (IJ (L + 1 + 1 + 1 + 1) nums D rest) ?_ ?_ ⟨[], rfl, rfl, fun p hp => hp, g1, g2, fun j a e => by simp at e⟩)
  · intro i ys' il hi hJ v I oI C oC D' m₂ h tk E' hP hN hm F2 N2 o3' ne
    (try k_fold)
    obtain ⟨as, e8, rfl, sub, h1, h2, hall⟩ := hJ
    (try dsimp only [List.cons_append, List.nil_append] at N2 o3')
    have hi' : as.length < ls.length := by rw [List.size_toArray, List.length_map] at hi; exact hi
    have hv2 : v = .ref ls[as.length] := by
      have : (ls.map Value.ref)[as.length]? = some v := by simpa using hP
      rw [List.getElem?_map, List.getElem?_eq_getElem hi'] at this
      exact (Option.some.inj this).symm
    rw [hv2] at hm
    obtain ⟨vs9, k9, mD, iD, hDue⟩ := hD as.length ls[as.length] (List.getElem?_eq_getElem hi')
    have mD' := sub _ mD
    have f9' := sub _ f9
    have f4' := sub _ f4
    clear hP hi
    k_steps
    have iDl : vs9.length = (D as.length).length := iD.length
    have hpl : (D as.length).length ≤ 11 := by
      have h9 := (places_ok h5 h11 (by omega : as.length < 2 * nums.length - 1)).2.2
      rw [hol] at hDue
      rw [hDue.1.length_eq]; exact h9
    refine Hold.mk (CompSrc.ledger rfl (by assumption) (by assumption) (by k_mem) (by rw [List.size_toArray, sizeLine_eq]; omega) fun gg2 => rest_same (fun i2 ys2 => StrsAre ys2 (((D as.length).take i2).map (itx nums))) ?_ ?_ .nil)
    · intro i2 ys2 hi2 hys2 v I2 oI2 C2 oC2 D2 m3 h tk E2 hP hN2 hm2 F3 N3 o3x ne2
      (try k_fold)
      obtain ⟨p, tp, hp, hm3⟩ := ints_turn iD hP hm2
      have hpr : 0 ≤ p ∧ p < (nums.length : Int) := by
        have h9 := (places_ok h5 h11 (by omega : as.length < 2 * nums.length - 1)).2.1
        rw [hol] at hDue
        exact h9 p (hDue.1.mem_iff.mp (List.mem_of_getElem? hp))
      have hpn : p.toNat < nums.length := by omega
      obtain ⟨tq, hw⟩ := hysx.get p.toNat (sg (tx nums p.toNat)) (by simp [hpn])
      have hw' : ysx.toArray[p.toNat]? = some (.str (sg (tx nums p.toNat)) tq) := by simpa using hw
      have htl := tx_len nums p.toNat
      clear hP hi2 hw hm2
      k_steps
      (try k_unfold)
      refine Hold.mk (CompEnd.intro (by assumption) (by assumption) _ (fun _ h => h) o3x (.inr ⟨_, by k_mem, rfl, _, rfl⟩) ⟨rfl, ?_⟩)
      rw [List.take_add_one, List.map_append, hp]
      exact strs_snoc (itx nums p) _ hys2
    intro ys2 hys2 D2 h2' tk2 F3 N3 o1x
    rw [List.size_toArray, iDl, List.take_length] at hys2
    (try dsimp only)
    (try k_unfold)
    refine Hold.mk (CompEnd.intro F3 N3 ((L + 1 + 1 + 1 + 1, o4) :: (124, tabObj #[]) :: (D2, lst ys2) :: il) ?_ ?_ (.inr ⟨_, List.mem_cons_of_mem _ (List.mem_cons_of_mem _ (List.mem_cons_of_mem _ (sub _ f8))), rfl, _, rfl⟩) ⟨(D2, lst ys2) :: il, rfl, as ++ [D2], by rw [e8, List.map_append]; rfl, by simp, fun p hp => List.mem_cons_of_mem _ (sub p hp), Apart.cons (Ne.symm (off1_mem o1x (124, _) (by k_mem))) h1, Apart.cons (Ne.symm (off1_mem o1x (L + 1 + 1 + 1 + 1, _) (by k_mem))) h2, ?_⟩)
    · (repeat refine sub_cons (by k_mem) ?_); (first | exact sub_nil | exact fun q h9 => by k_mem)
    · have hm3 := Off3.mem o3'
      refine Off3.of ?_
      iterate 2 refine all_cons (hm3 _ (by k_mem)) ?_
      refine all_cons ⟨Ne.symm (off1_mem o1x (I, oI) (by k_mem)), Ne.symm (off1_mem o1x (C, oC) (by k_mem)), Ne.symm (off1_mem o1x (D', _) (by k_mem))⟩ ?_
      exact fun p h9 => hm3 p (by k_mem)
    · intro j a hj
      rw [List.getElem?_append] at hj
      split at hj
      · obtain ⟨vs', k', z1, z2⟩ := hall j a hj
        exact ⟨vs', k', List.mem_cons_of_mem _ z1, z2⟩
      · rename_i hge
        have hj0 : j - as.length = 0 := by
          cases hz : j - as.length with
          | zero => rfl
          | succ x => rw [hz] at hj; simp at hj
        rw [hj0] at hj
        have : j = as.length := by omega
        subst this
        cases hj
        exact ⟨ys2, ys2.length, List.mem_cons_self, hys2⟩
  rintro ysi il ⟨as, rfl, hasl, sub, j1, j2, hall⟩ li h tk9 F16 N16 o1i
  (try dsimp only [List.cons_append, List.nil_append] at N16 o1i)
  rw [List.size_toArray, List.length_map] at hasl
  (try dsimp only)
  k_steps
  rename_i hR F17 N17 hk17
  have f9' := sub _ f9
  have f4' := sub _ f4
  have f11' := sub _ f11
  have f7' := sub _ f7
  refine Hold.mk (CompSrc.range (n := nums.length) rfl F17 N17 hR (small_one (by omega) (by omega) (by omega) (by omega)) (by rw [rangeSize_nat]; simp) (by rw [sizeLine_eq]; omega) fun gg => rest_same (fun i ys' => StrsAre ys' (((List.range i).map (wd nums)).map sg)) ?_ ?_ .nil)
  · intro i ys' hi hys' v I oI C oC D' m₂ h tk E' hP hN hm F2 N2 o3' ne
    (try k_fold)
    obtain ⟨ti, hv⟩ : ∃ t, v = .int (i : Int) t := by simpa using hP
    rw [hv] at hm
    obtain ⟨tn, hwi⟩ := ints_get hIn hi
    have hwi' : wn.toArray[((i : Nat) : Int).toNat]? = some (Value.int nums[i] tn) := by simpa using hwi
    obtain ⟨tq, hw⟩ := hysx.get i (sg (tx nums i)) (by simp [hi])
    have hw' : ysx.toArray[((i : Nat) : Int).toNat]? = some (.str (sg (tx nums i)) tq) := by simpa using hw
    have htl := tx_len nums i
    clear hP hwi hw
    k_steps
    (try k_unfold)
    refine Hold.mk (CompEnd.intro (by assumption) (by assumption) _ (fun _ h => h) o3' trivial ⟨rfl, ?_⟩)
    rw [List.range_succ, List.map_append, List.map_append]
    have e : wd nums i = word nums[i] (tx nums i) := by rw [wd, List.getD_eq_getElem?_getD, List.getElem?_eq_getElem hi]; rfl
    simp only [List.map_cons, List.map_nil, e]
    exact strs_snoc _ _ hys'
  intro ysw hysw lw h tk10 F18 N18 o1w
  (try dsimp only)
  k_steps
  have hwl : ∀ y ∈ (List.range nums.length).map (wd nums), y.length ≤ 20 := fun y hy => by
    obtain ⟨i, _, rfl⟩ := List.mem_map.mp hy
    exact wd_len nums i
  have hwsum := sum_le 20 _ hwl
  rw [List.length_map, List.length_range] at hwsum
  refine join_c (xs := (List.range nums.length).map (wd nums)) c0 ⟨_, (N18 _ (List.mem_cons_self ..)).1, rfl, _, rfl⟩ hysw (by rw [List.length_map, List.length_range]; simp only [List.length_nil]; omega) fun t' k hk' => ?_
  have hjl := joinL_len [] ((List.range nums.length).map (wd nums))
  rw [List.length_map, List.length_range, List.length_nil, Nat.mul_zero, Nat.add_zero] at hjl
  (try dsimp only)
  k_steps
  have i1 : @Ne Nat 124 li := off1_mem o1i (124, _) (by k_mem)
  have i2 : @Ne Nat (L + 1 + 1 + 1 + 1) li := off1_mem o1i (L + 1 + 1 + 1 + 1, _) (by k_mem)
  have i3 : @Ne Nat 124 (L + 1 + 1 + 1 + 1) := by omega
  have h124 : Apart 124 ((L + 1 + 1 + 1 + 1, o4) :: (li, lst (as.map Value.ref)) :: il) := Apart.cons (Ne.symm i3) (Apart.cons (Ne.symm i1) j1)
  rename_i F18b N18b
  have N19 : News h₀ L _ ((124, tabObj #[]) :: (L + 1 + 1 + 1 + 1, o4) :: (li, lst (as.map Value.ref)) :: il) := news_sub N18b (by (repeat refine sub_cons (by k_mem) ?_); (first | exact sub_nil | exact fun q h9 => by k_mem))
  have htx : (joinL [] ((List.range nums.length).map (wd nums)) ++ [122]).length ≤ 2000 := by simp only [List.length_append, List.length_cons, List.length_nil]; omega
  (try clear N18)
  refine Hold.mk ?_
  k_dflt (refine' sp_use (lexer_c w _ _ htx #[] _ h124 (.inl rfl)) ?k1 ?k2 ?k3 ?k4 ?k5 ?k6 ?k7 ?k8 ?k9 ?k10 rfl ?_; (case k1 => k_asm); (case k2 => k_asm); (case k3 => k_asm); (case k4 => k_asm); (case k5 => k_asm); (case k6 => k_asm); (case k7 => k_asm); (case k8 => exact rfl); (case k9 => ((try simp only [depth_in1, depth_deeper, depth_caller]); (try dsimp only [ktrTop]); omega)); (case k10 => ((try simp only [units_in1, units_deeper, Around.mark_units, units_caller]); (try dsimp only [ktrTop]); omega)))
  rintro r9 nw9 h9 tk9' F20 N20 ⟨xl', tp, pb, dx, sl, ps', restF, nn, rfl, S, M, rfl, ap, ⟨_, hps⟩, htab, hsubF⟩
  have e4n : o4.data = .cell none := e4
  obtain ⟨es, lnn, ks, kp, sv, rfl, hE9, hK9, hs9, hx9⟩ := M
  have m4 : (L + 1 + 1 + 1 + 1, o4) ∈ (124, tabObj ps') :: (pb, PySem.W.listOf (List.toArray []) kp) :: (dx, dictOf es 4) :: (sl, PySem.W.listOf (List.toArray sv) ks) :: restF := by have := hsubF _ List.mem_cons_self; k_mem
  have S3 : Stat w xl' tp pb dx sl (cut (L + 1 + 1 + 1 + 1) restF) := S.cut N20 (fun p hp => by k_mem) m4 e4n
  have M3 : Mut w tp pb dx sl (1 + ((List.count 10 (joinL [] ((List.range nums.length).map (wd nums)) ++ [122]) : Nat) : Int)) (joinL [] ((List.range nums.length).map (wd nums)) ++ [122]) [] (cut (L + 1 + 1 + 1 + 1) restF) ((pb, PySem.W.listOf (List.toArray []) kp) :: (dx, dictOf es 4) :: (sl, PySem.W.listOf (List.toArray sv) ks) :: cut (L + 1 + 1 + 1 + 1) restF) := ⟨es, lnn, ks, kp, sv, rfl, hE9, hK9, hs9, hx9⟩
  have p4 : Apart (L + 1 + 1 + 1 + 1) ((pb, PySem.W.listOf (List.toArray []) kp) :: (dx, dictOf es 4) :: (sl, PySem.W.listOf (List.toArray sv) ks) :: cut (L + 1 + 1 + 1 + 1) restF) :=
    Apart.cons (news_ne N20 (by k_mem) m4 (by rw [e4n]; intro z; cases z)) (Apart.cons (news_ne N20 (by k_mem) m4 (by rw [e4n]; intro z; cases z)) (Apart.cons (news_ne N20 (by k_mem) m4 (by rw [e4n]; intro z; cases z)) (cut_apart _ _)))
  have p124 : Apart 124 ((pb, PySem.W.listOf (List.toArray []) kp) :: (dx, dictOf es 4) :: (sl, PySem.W.listOf (List.toArray sv) ks) :: cut (L + 1 + 1 + 1 + 1) restF) :=
    Apart.cons (ap _ List.mem_cons_self) (Apart.cons (ap (dx, _) (by k_mem)) (Apart.cons (ap (sl, _) (by k_mem)) fun q hq => ap q (List.mem_cons_of_mem _ (List.mem_cons_of_mem _ (List.mem_cons_of_mem _ (cut_sub hq))))))
  have sub3 : ∀ p ∈ il, p ∈ cut (L + 1 + 1 + 1 + 1) restF := fun p hp => cut_mem (hsubF _ (List.mem_cons_of_mem _ (List.mem_cons_of_mem _ hp))) (j2 p hp)
  have mli : (li, lst (as.map Value.ref)) ∈ cut (L + 1 + 1 + 1 + 1) restF := cut_mem (hsubF _ (List.mem_cons_of_mem _ List.mem_cons_self)) (Ne.symm i2)
  have htab3 : TabOk ⟨102, 16, 102, 77⟩ QL ps' (cut (L + 1 + 1 + 1 + 1) restF) := by
    rcases htab with h | ⟨c', oc, vs', t', e, hm, hd', hv⟩
    · exact .inl h
    · exact .inr ⟨c', oc, vs', t', e, cut_mem hm (news_ne (a := c') (o := oc) N20 (List.mem_cons_of_mem _ (List.mem_cons_of_mem _ (List.mem_cons_of_mem _ (List.mem_cons_of_mem _ hm)))) m4 (by rw [e4n, hd']; intro z; cases z)), hd', hv⟩
  have N21 : News h₀ L h9 ((L + 1 + 1 + 1 + 1, o4) :: (124, tabObj ps') :: (pb, PySem.W.listOf (List.toArray []) kp) :: (dx, dictOf es 4) :: (sl, PySem.W.listOf (List.toArray sv) ks) :: cut (L + 1 + 1 + 1 + 1) restF) := news_sub N20 (by
    refine sub_cons m4 ?_
    (repeat refine sub_cons (by k_mem) ?_); exact fun q h9 => (have := cut_sub h9; by k_mem))
  generalize hnn : (pb, PySem.W.listOf (List.toArray []) kp) :: (dx, dictOf es 4) :: (sl, PySem.W.listOf (List.toArray sv) ks) :: cut (L + 1 + 1 + 1 + 1) restF = nn at M3 p4 p124 N21
  have b1 : @Ne Nat pb 124 := p124 _ (by rw [← hnn]; exact List.mem_cons_self)
  have b2 : @Ne Nat dx 124 := p124 (dx, dictOf es 4) (by rw [← hnn]; k_mem)
  have b3 : @Ne Nat sl 124 := p124 (sl, PySem.W.listOf (List.toArray sv) ks) (by rw [← hnn]; k_mem)
  have b4 : @Ne Nat pb (L + 1 + 1 + 1 + 1) := p4 _ (by rw [← hnn]; exact List.mem_cons_self)
  have b5 : @Ne Nat dx (L + 1 + 1 + 1 + 1) := p4 (dx, dictOf es 4) (by rw [← hnn]; k_mem)
  have b6 : @Ne Nat sl (L + 1 + 1 + 1 + 1) := p4 (sl, PySem.W.listOf (List.toArray sv) ks) (by rw [← hnn]; k_mem)
  have subnn : ∀ p ∈ cut (L + 1 + 1 + 1 + 1) restF, p ∈ nn := fun p hp => by rw [← hnn]; k_mem
  clear hnn N20 S htab hsubF ap hE9 hK9 hs9 hx9 m4
  generalize cut (L + 1 + 1 + 1 + 1) restF = rest3 at *
  have r11 : (L + 1, oN) ∈ nn := subnn _ (sub3 _ f11')
  have r7 : (Dn, PySem.W.listOf wn.toArray 0) ∈ nn := subnn _ (sub3 _ f7')
  k_steps
  w_top off
  rename_i oLn F22 N22 dLn
  have s9 : ∀ p ∈ rest, p ∈ rest3 := fun p hp => sub3 p (sub p hp)
  have t4 := s9 _ f4
  have t181 := s9 _ f181
  have t5 := s9 _ f5
  have t6 := s9 _ f6
  have t7 := s9 _ f7
  have t8 := s9 _ f8
  have t9 := s9 _ f9
  have t10 := s9 _ f10
  have t11 := s9 _ f11
  have hD3 : ∀ (j : Nat) (a : Addr), ls[j]? = some a → ∃ vs k, (a, PySem.W.listOf (List.toArray vs) k) ∈ rest3 ∧ IntsAre vs (D j) ∧ Due ords (placesL ords.length j) (D j) := fun j a e => by
    obtain ⟨vs, k, h1, h2, h3⟩ := hD j a e
    exact ⟨vs, k, s9 _ h1, h2, h3⟩
  have hall3 : ∀ (j : Nat) (a : Addr), as[j]? = some a → ∃ vs k, (a, PySem.W.listOf (List.toArray vs) k) ∈ rest3 ∧ StrsAre vs ((D j).map (itx nums)) := fun j a e => by
    obtain ⟨vs, k, h1, h2⟩ := hall j a e
    exact ⟨vs, k, sub3 _ h1, h2⟩
  have Hr3 : Hnds w ords hs rest3 := Hr.sub s9
  clear s9
  have e124 : NeL 124 pb dx sl := ⟨Ne.symm b1, Ne.symm b2, Ne.symm b3⟩
  have eL4 : NeL (L + 1 + 1 + 1 + 1) pb dx sl := ⟨Ne.symm b4, Ne.symm b5, Ne.symm b6⟩
  clear b1 b2 b3 b4 b5 b6
  have a124 : Apart 124 rest3 := fun q hq => p124 q (subnn q hq)
  have aL4 : Apart (L + 1 + 1 + 1 + 1) rest3 := fun q hq => p4 q (subnn q hq)
  rename_i z0 z1 z2 z3 z4 z5 z6 z7 z8 z9 z10 z11 z12 ky13 z14 z15 z16 z17 z18 z19 z20 z21 z22 z23 z24 z25 z26 z27 z28 z29 z30 z31 z32 z33 z34 z35 z36 z37 z38 z39 z40 z41 z42 ky43 z44 z45 z46 z47 ky48
  clear o a1 a2 a3 hc1 hh z0 o4 o3 o2 o1 e4 e3 e2 e1 D1 ws1 z1 hI1 hC1 z2 z3 l z4 z5 D2 ws2 z6 hI2 hC2 z7 z8 hw2 D3 ws3 h3 hI3 z9 z10 l3 z11 ln z12 hnums z14 z15 z16 z17 tk6 q1 q2 q3 q4 q5 q6 z18 z19 hords z20 xl hxl z21 tk7 o1' z22 z23 z24 z25 z26 z27 hk10 z28 z29 tk8 o1'' w1 w2 w3 w4 w7 w8 w5 w6 ax3 ax4 al3 z30 z31 nw9 z32 z33 lL lL2 lL1 no4 not4 rest f181 f4 f5 f6 f7 f8 f9 f11 f10 g1 g2 hD Hr z34 z35 z36 il sub j1 j2 hall z37 tk9 o1i z38 z39 z40 z41 z42 hR hk17 f9' f4' f11' f7' gg ysw hysw lw h tk10 o1w hwl hwsum t' k hk' hjl z44 z45 z46 i1 i2 h124 h9 tk9' restF z47 e4n es lnn ks kp sv sub3 r11
  have hnum : (Dn, PySem.W.listOf wn.toArray 0) ∈ (L + 1 + 1 + 1 + 1, oLn) :: (124, tabObj ps') :: nn := by k_mem
  have g124 : @Ne Nat 124 (L + 1 + 1 + 1 + 1) := i3
  generalize hK0 : (1 + ((List.count 10 (joinL [] ((List.range nums.length).map (wd nums)) ++ [122]) : Nat) : Int)) = K0 at M3
  refine Hold.mk (CompSrc.ledger rfl F22 N22 hnum hwsz fun gg => rest_pre (l := nn) [(L + 1 + 1 + 1 + 1, oLn), (124, tabObj ps')] (fun i ys' nn' => Mut w tp pb dx sl K0 (remT nums i) [] rest3 nn' ∧ StrsAre ys' ((List.range i).map fun k => sg (header [tx nums k]))) ?_ ?_ ⟨by rw [remT_zero]; exact M3, .nil⟩)
  · intro i ys' nn' hi hJ v I oI C oC D' m₂ h tk E' hP hN hm F2 N2 o3' ne
    (try k_fold)
    obtain ⟨M', hys'⟩ := hJ
    (try dsimp only [List.cons_append, List.nil_append] at N2 o3')
    have hi' : i < nums.length := by rw [List.size_toArray, hwn] at hi; exact hi
    obtain ⟨es', ln', m2, hE2⟩ := M'.parts
    have mi : (xl', instObj 59 dx) ∈ nn' := M'.sub _ S3.inst
    obtain ⟨aI, aC, aD⟩ := Off3.aparts o3'
    have eI := M'.ne aI.tail.tail
    have eC := M'.ne aC.tail.tail
    have eD := M'.ne aD.tail.tail
    have SB := ((((S3.moreL (p := (124, tabObj ps')) e124).moreL (p := (L + 1 + 1 + 1 + 1, oLn)) eL4).moreL (p := (D', lst ys')) eD).moreL (p := (C, oC)) eC).moreL (p := (I, oI)) eI
    clear hP hi
    k_steps
    obtain ⟨nn2, MB, NB⟩ := M'.focus [(I, oI), (C, oC), (D', lst ys'), (L + 1 + 1 + 1 + 1, oLn), (124, tabObj ps')] N2
    clear N2
    refine Hold.mk ?_
    k_dflt (refine' sp_str (get_read_c w xl' tp pb dx sl K0 (remT nums i) _ SB) ⟨by k_asm, by k_asm, by k_asm, NB, by k_asm, by k_asm, by k_asm, rfl, by ((try simp only [depth_in1, depth_deeper, depth_caller]); (try dsimp only [ktrTop]); omega), by ((try simp only [units_in1, units_deeper, Around.mark_units, units_caller]); (try dsimp only [ktrTop]); omega)⟩ MB ?_)
    intro nw9 h9 tk9 F9 N9 t9 M9
    rw [remT_step nums hi'] at M9
    obtain ⟨nn3, M3', N3⟩ := M9.blur [(I, oI), (C, oC), (D', lst ys'), (L + 1 + 1 + 1 + 1, oLn), (124, tabObj ps')] N9
    clear N9 NB MB M9
    have a3I : Apart I nn3 := M3'.apart eI fun q hq => aI.tail.tail q (M'.sub q hq)
    have a3C : Apart C nn3 := M3'.apart eC fun q hq => aC.tail.tail q (M'.sub q hq)
    have a3D : Apart D' nn3 := M3'.apart eD fun q hq => aD.tail.tail q (M'.sub q hq)
    (try dsimp only [List.cons_append, List.nil_append] at N3 ⊢)
    k_steps
    (try k_unfold)
    refine Hold.mk (CompEnd.intro (by assumption) N3 ((L + 1 + 1 + 1 + 1, oLn) :: (124, tabObj ps') :: nn3) (fun _ h => h) (Off3.from (Apart.cons aI.head (Apart.cons aI.tail.head a3I)) (Apart.cons aC.head (Apart.cons aC.tail.head a3C)) (Apart.cons aD.head (Apart.cons aD.tail.head a3D))) (.inr ⟨_, List.mem_cons_of_mem _ (List.mem_cons_of_mem _ (M3'.sub _ t7)), rfl, _, rfl⟩) ⟨nn3, rfl, M3', ?_⟩)
    · rw [List.range_succ, List.map_append, remT_step nums hi']
      exact strs_snoc _ _ hys'
  rintro ysd nn4 ⟨M4, hysd⟩ lw h tk3 F30 N30 o1w
  (try dsimp only [List.cons_append, List.nil_append] at N30 o1w)
  rw [List.size_toArray, hwn] at M4 hysd
  (try dsimp only)
  k_steps
  refine Hold.mk (for_hold ?_)
  k_steps
  have hydl : ysd.length = nums.length := by have := hysd.length; rwa [List.length_map, List.length_range] at this
  rw [remT_last] at M4
  have eW := M4.ne (a := lw) (fun q hq => off1_mem o1w q (List.mem_cons_of_mem _ (List.mem_cons_of_mem _ hq)))
  clear N22 F22 M3 p4 p124 r7 subnn hnum
  refine Hold.mk (for_list (ax := lw) (its := ysd.toArray) rfl rfl rfl (by assumption) N30
    (PJ w tp pb dx sl K0 ysd rest3 [(lw, lst ysd), (L + 1 + 1 + 1 + 1, oLn), (124, tabObj ps')] (.str (sg (joinL [] ((List.range nums.length).map (wd nums)) ++ [122])) ky43) li ld lh (.int nums.length (ky13 + 1)))
    (fun i m nw hj => by obtain ⟨nn', rfl, _⟩ := hj; exact .inr ⟨_, List.mem_cons_self, rfl, _, rfl⟩) ⟨nn4, rfl, M4, rfl, rfl, rfl, rfl, rfl⟩ ?_ ?_)
  · intro I i v m' nw oI h tk E' hi hv hJ offI F4 N4
    (try k_fold)
    obtain ⟨nn', rfl, M', lm⟩ := hJ
    (try dsimp only [List.cons_append, List.nil_append] at N4 offI)
    have hi' : i < ysd.length := by rwa [List.size_toArray] at hi
    have hv' : ysd[i]? = some v := by simpa using hv
    obtain ⟨es', ln', m2, hE2⟩ := M'.parts
    have mx : (xl', instObj 59 dx) ∈ nn' := M'.sub _ S3.inst
    have F5 := canon (x := Str.ofString "word") (LawM.fr (lm.set (v := v) (z := Str.ofString "word") (by decide +kernel)) F4) rfl
    have aI : Apart I ((lw, lst ysd) :: (L + 1 + 1 + 1 + 1, oLn) :: (124, tabObj ps') :: nn') := offI
    have eI := M'.ne aI.tail.tail.tail
    clear F4 hi hv N30
    k_steps
    have SB := (((S3.moreL (p := (124, tabObj ps')) e124).moreL (p := (L + 1 + 1 + 1 + 1, oLn)) eL4).moreL (p := (lw, lst ysd)) eW).moreL (p := (I, oI)) eI
    obtain ⟨nn2, MB, NB⟩ := M'.focus [(I, oI), (lw, lst ysd), (L + 1 + 1 + 1 + 1, oLn), (124, tabObj ps')] N4
    clear N4
    refine Hold.mk ?_
    k_dflt (refine' sp_val (push_token_c w xl' tp pb dx sl K0 [122] (ysd.take i) _ v SB (by rw [List.length_take]; omega)) ⟨by k_asm, by k_asm, by k_asm, NB, by k_asm, by k_asm, by k_asm, rfl, by ((try simp only [depth_in1, depth_deeper, depth_caller]); (try dsimp only [ktrTop]); omega), by ((try simp only [units_in1, units_deeper, Around.mark_units, units_caller]); (try dsimp only [ktrTop]); omega)⟩ MB ?_)
    intro nw9 h9 tk9 F9 N9 M9
    rw [show ysd.take i ++ [v] = ysd.take (i + 1) by rw [List.take_add_one, hv']; rfl] at M9
    obtain ⟨nn3, M3', N3⟩ := M9.blur [(I, oI), (lw, lst ysd), (L + 1 + 1 + 1 + 1, oLn), (124, tabObj ps')] N9
    clear N9 NB MB M9
    have a3I : Apart I nn3 := M3'.apart eI fun q hq => aI.tail.tail.tail q (M'.sub q hq)
    (try dsimp only [List.cons_append, List.nil_append] at N3 ⊢)
    k_steps
    (try k_unfold)
    exact Hold.mk ⟨_, _, _, (lw, lst ysd) :: (L + 1 + 1 + 1 + 1, oLn) :: (124, tabObj ps') :: nn3, rfl, (by assumption), N3, Apart.cons aI.head (Apart.cons aI.tail.head (Apart.cons aI.tail.tail.head a3I)), nn3, rfl, M3', rfl, rfl, rfl, rfl, rfl⟩
  · rintro h' tk' m' nw F4 N4 ⟨nn5, rfl, M5, lm⟩
    (try dsimp only [List.cons_append, List.nil_append] at N4)
    rw [List.size_toArray, List.take_length] at M5
    have F5 := lm.fr F4
    clear F4 lm N30 M4
    (try dsimp only)
    k_steps
    refine Hold.mk (for_hold ?_)
    k_steps
    rename_i n41 f41 h40 tk40 t40 u40 v40 hR F40 N40 hk40
    have hdk : DueOk ords nums.length D := ⟨fun j hj => by
      obtain ⟨vs, k, _, _, h⟩ := hD3 j ls[j] (List.getElem?_eq_getElem (by omega))
      rwa [hol] at h⟩
    obtain ⟨m40, hm40, F41⟩ : ∃ m40, LawM (.str (sg (joinL [] ((List.range nums.length).map (wd nums)) ++ [122])) ky43) li ld lh (.int nums.length (ky13 + 1)) m40 ∧ Fr h₀ L h40 m40 := ⟨_, ⟨rfl, rfl, rfl, rfl, rfl⟩, F40⟩
    have M6 : ∃ pv, Mut w tp pb dx sl K0 [122] pv rest3 nn5 ∧ StrsAre pv ((List.range' (2 * 0) (nums.length - 0)).map fun j => sg (header (txs (tx nums) (D j)))) := ⟨ysd, M5, by
      have e : (List.range nums.length).map (fun k => sg (header [tx nums k])) = (List.range' (2 * 0) (nums.length - 0)).map fun j => sg (header (txs (tx nums) (D j))) := by
        rw [Nat.mul_zero, Nat.sub_zero, ← List.range_eq_range']
        refine List.map_congr_left fun j hj => ?_
        rw [hdk.one h5 h11 (List.mem_range.mp hj)]
        rfl
      rwa [e] at hysd⟩
    have N41 : News h₀ L h40 ((L + 1 + 1 + 1 + 1, oLn) :: (124, tabObj ps') :: nn5) := fun q hq => N40 q (List.mem_cons_of_mem _ hq)
    clear n41 f41 F40 N40 hk40 M5 hysd F30 o1w eW hydl g124 hwsz dN hIn hwn
    refine Hold.mk (for_range (n := nums.length - 1) rfl rfl rfl F41 N41 hR (small_two (by omega)) (rangeSize_two _)
      (RJ w tp pb dx sl K0 nums D rest3 [(L + 1 + 1 + 1 + 1, oLn), (124, tabObj ps')] (.str (sg (joinL [] ((List.range nums.length).map (wd nums)) ++ [122])) ky43) li ld lh (.int nums.length (ky13 + 1)))
      (by obtain ⟨pv, M6, hpv⟩ := M6; exact ⟨nn5, pv, rfl, M6, hpv, hm40⟩) ?_ ?_)
    · intro I i v m' nw oI h tk E' hi hv hJ offI F4 N4
      (try k_fold)
      obtain ⟨nn', pv, rfl, M', hpv, lm⟩ := hJ
      (try dsimp only [List.cons_append, List.nil_append] at N4 offI)
      obtain ⟨t0, rfl⟩ : ∃ t, v = .int ((2 * i : Nat) : Int) t := by
        obtain ⟨t, rfl⟩ := hv
        exact ⟨t, by congr 1; omega⟩
      have hi2 : i + 2 ≤ nums.length := by omega
      rw [range_two hi2, List.map_cons, List.map_cons] at hpv
      obtain ⟨t1, t2, pv2, rfl, hpv2⟩ := strs_two hpv
      clear hpv
      have hpl : pv2.length ≤ 11 := by have := hpv2.length; rw [List.length_map, List.length_range'] at this; omega
      obtain ⟨es', ln', m2, hE2⟩ := M'.parts
      have mx : (xl', instObj 59 dx) ∈ nn' := M'.sub _ S3.inst
      have F5 := canon (x := Str.ofString "j") (LawM.fr (lm.set (v := .int ((2 * i : Nat) : Int) t0) (z := Str.ofString "j") (by decide +kernel)) F4) rfl
      have aI : Apart I ((L + 1 + 1 + 1 + 1, oLn) :: (124, tabObj ps') :: nn') := offI
      clear F4 lm hv offI M6 hm40
      k_steps
      have eI := M'.ne aI.tail.tail
      have SI : Stat w xl' tp pb dx sl ((I, oI) :: (L + 1 + 1 + 1 + 1, oLn) :: (124, tabObj ps') :: rest3) := ((S3.moreL (p := (124, tabObj ps')) e124).moreL (p := (L + 1 + 1 + 1 + 1, oLn)) eL4).moreL (p := (I, oI)) eI
      obtain ⟨nf, MB, NB⟩ := M'.focus [(I, oI), (L + 1 + 1 + 1 + 1, oLn), (124, tabObj ps')] N4
      clear N4
      k_dflt (refine' sp_val (get_push_c w xl' tp pb dx sl K0 [122] _ _ _ SI (by simp only [List.length_cons]; omega)) ⟨by k_asm, by k_asm, by k_asm, NB, by k_asm, by k_asm, by k_asm, rfl, by ((try simp only [depth_in1, depth_deeper, depth_caller]); (try dsimp only [ktrTop]); omega), by ((try simp only [units_in1, units_deeper, Around.mark_units, units_caller]); (try dsimp only [ktrTop]); omega)⟩ MB ?_)
      intro nw9 h9 tk9 F9 N9 M9
      obtain ⟨nn6, M6, N6⟩ := M9.blur [(I, oI), (L + 1 + 1 + 1 + 1, oLn), (124, tabObj ps')] N9
      have aI6 : Apart I nn6 := aI.tail.tail.line M' M6
      clear N9 M9 NB MB m2 hE2 mx
      obtain ⟨es6, ln6, m6, hE6⟩ := M6.parts
      have mx6 : (xl', instObj 59 dx) ∈ nn6 := M6.sub _ S3.inst
      (try dsimp only [List.cons_append, List.nil_append] at N6 ⊢)
      k_steps
      have r1 := hdk.range h5 h11 (j := 2 * i) (by omega)
      have r2 := hdk.range h5 h11 (j := 2 * i + 1) (by omega)
      k_dflt (refine' sp_new (parse_c w (header (txs (tx nums) (D (2 * i)))) _ (header_len (txs_len (tx_len nums) _) (by rw [txs, List.length_map]; exact r1.2.1))) ⟨by k_asm, by k_asm, by k_asm, N6, by k_asm, by k_asm, by k_asm, rfl, by ((try simp only [depth_in1, depth_deeper, depth_caller]); (try dsimp only [ktrTop]); omega), by ((try simp only [units_in1, units_deeper, Around.mark_units, units_caller]); (try dsimp only [ktrTop]); omega)⟩ trivial ?_)
      intro h9 tk9 F9 lr1 vs1 kk1 hvs1 al1 N9
      rw [parse_txs r1.2.2] at hvs1
      have al1' : Apart lr1 ((I, oI) :: (L + 1 + 1 + 1 + 1, oLn) :: (124, tabObj ps') :: nn6) := al1
      have e1 := M6.ne al1'.tail.tail.tail
      have S1 : Stat w xl' tp pb dx sl ((lr1, PySem.W.listOf (List.toArray vs1) kk1) :: (I, oI) :: (L + 1 + 1 + 1 + 1, oLn) :: (124, tabObj ps') :: rest3) := SI.moreL  e1
      clear N6
      (try dsimp only)
      k_steps
      obtain ⟨nf, MB, NB⟩ := M6.focus [(lr1, PySem.W.listOf (List.toArray vs1) kk1), (I, oI), (L + 1 + 1 + 1 + 1, oLn), (124, tabObj ps')] N9
      clear N9
      k_dflt (refine' sp_val (get_push_c w xl' tp pb dx sl K0 [122] _ _ _ S1 (by omega)) ⟨by k_asm, by k_asm, by k_asm, NB, by k_asm, by k_asm, by k_asm, rfl, by ((try simp only [depth_in1, depth_deeper, depth_caller]); (try dsimp only [ktrTop]); omega), by ((try simp only [units_in1, units_deeper, Around.mark_units, units_caller]); (try dsimp only [ktrTop]); omega)⟩ MB ?_)
      intro nw9 h9 tk9 F9 N9 M9
      obtain ⟨nn7, M7, N7⟩ := M9.blur [(lr1, PySem.W.listOf (List.toArray vs1) kk1), (I, oI), (L + 1 + 1 + 1 + 1, oLn), (124, tabObj ps')] N9
      have aI7 : Apart I nn7 := aI6.line M6 M7
      have al7 : Apart lr1 nn7 := al1'.tail.tail.tail.line M6 M7
      clear N9 M9 NB MB m6 hE6 mx6
      obtain ⟨es7, ln7, m7, hE7⟩ := M7.parts
      have mx7 : (xl', instObj 59 dx) ∈ nn7 := M7.sub _ S3.inst
      (try dsimp only [List.cons_append, List.nil_append] at N7 ⊢)
      k_steps
      k_dflt (refine' sp_new (parse_c w (header (txs (tx nums) (D (2 * i + 1)))) _ (header_len (txs_len (tx_len nums) _) (by rw [txs, List.length_map]; exact r2.2.1))) ⟨by k_asm, by k_asm, by k_asm, N7, by k_asm, by k_asm, by k_asm, rfl, by ((try simp only [depth_in1, depth_deeper, depth_caller]); (try dsimp only [ktrTop]); omega), by ((try simp only [units_in1, units_deeper, Around.mark_units, units_caller]); (try dsimp only [ktrTop]); omega)⟩ trivial ?_)
      intro h9 tk9 F9 lr2 vs2 kk2 hvs2 al2 N9
      rw [parse_txs r2.2.2] at hvs2
      have al2' : Apart lr2 ((lr1, PySem.W.listOf (List.toArray vs1) kk1) :: (I, oI) :: (L + 1 + 1 + 1 + 1, oLn) :: (124, tabObj ps') :: nn7) := al2
      clear N7
      have hs1 : (as.map Value.ref)[2 * i]? = some (.ref as[2 * i]) := by rw [List.getElem?_map, List.getElem?_eq_getElem (by omega)]; rfl
      have hs2 : (as.map Value.ref)[2 * i + 1]? = some (.ref as[2 * i + 1]) := by rw [List.getElem?_map, List.getElem?_eq_getElem (by omega)]; rfl
      have mli7 := M7.sub _ mli
      (try dsimp only)
      k_steps
      rename_i la hA lla hB F8 N8 lb hC F10 N10 llb
      obtain ⟨us1, ku1, mu1, hus1⟩ := hall3 (2 * i) as[2 * i] (List.getElem?_eq_getElem (by omega))
      obtain ⟨us2, ku2, mu2, hus2⟩ := hall3 (2 * i + 1) as[2 * i + 1] (List.getElem?_eq_getElem (by omega))
      refine Hold.mk (ne_pairK (isL N10 (by k_mem)) (isL N10 (by k_mem)) (strs_eqAt (isL N10 (by k_mem)) (isL N10 (by have := M7.sub _ mu1; k_mem)) hvs1 hus1 ?hu1) (strs_eqAt (isL N10 (by k_mem)) (isL N10 (by have := M7.sub _ mu2; k_mem)) hvs2 hus2 ?hu1) ?hu2 ?_)
      case hu1 => (have hcL9 := cLine_is); (try simp only [units_in1, units_deeper, Around.mark_units, units_caller]); omega
      case hu2 => (have hcL9 := cLine_is); (try simp only [units_in1, units_deeper, Around.mark_units, units_caller]); omega
      have N11 : News h₀ L hC ((124, tabObj ps') :: (I, oI) :: (L + 1 + 1 + 1 + 1, oLn) :: nn7) := news_sub N10 (by (repeat refine sub_cons (by k_mem) ?_); (first | exact sub_nil | exact fun q h9 => by k_mem))
      clear N8 N10 F8 al2' al2 al7 al1 al1' e1 S1 hvs1 hvs2 hus1 hus2 mu1 mu2 lla llb mli7 hs1 hs2
      have t124 : Apart 124 ((I, oI) :: (L + 1 + 1 + 1 + 1, oLn) :: nn7) := Apart.cons (Ne.symm (aI (124, tabObj ps') (by k_mem))) (Apart.cons (Ne.symm i3) (M7.apart e124 a124))
      k_steps
      k_dflt (refine' sp_at (lexer0_c w _ ps' _ t124 (htab3.sub fun q hq => List.mem_cons_of_mem _ (List.mem_cons_of_mem _ (M7.sub q hq))) hps) ⟨by k_asm, by k_asm, by k_asm, N11, by k_asm, by k_asm, by k_asm, rfl, by ((try simp only [depth_in1, depth_deeper, depth_caller]); (try dsimp only [ktrTop]); omega), by ((try simp only [units_in1, units_deeper, Around.mark_units, units_caller]); (try dsimp only [ktrTop]); omega)⟩ rfl ?_)
      rintro r9 nw9 h9 tk9 F9 N9 ⟨xl2, tp2, pb2, dx2, sl2, rf2, nn8, K2, rfl, S8, M8, rfl, a8, hsub8⟩
      have mx8 : (xl2, instObj 59 dx2) ∈ nn8 := M8.sub _ S8.inst
      obtain ⟨es8, ln8, m8, hE8⟩ := M8.parts
      clear N11
      (try dsimp only)
      k_steps
      obtain ⟨nf, MB, NB⟩ := M8.focus [(124, tabObj ps')] N9
      clear N9
      k_dflt (refine' sp_str (get_read_c w xl2 tp2 pb2 dx2 sl2 K2 [] _ (S8.moreL (M8.ne a8))) ⟨by k_asm, by k_asm, by k_asm, NB, by k_asm, by k_asm, by k_asm, rfl, by ((try simp only [depth_in1, depth_deeper, depth_caller]); (try dsimp only [ktrTop]); omega), by ((try simp only [units_in1, units_deeper, Around.mark_units, units_caller]); (try dsimp only [ktrTop]); omega)⟩ MB ?_)
      intro nw9 h9 tk9 F9 N9 tq9 M9
      rw [lexT_nil]
      have N12 : News h₀ L h9 ((I, oI) :: (L + 1 + 1 + 1 + 1, oLn) :: (124, tabObj ps') :: nn7) := news_sub N9 (by
        refine sub_cons (M9.sub _ (List.mem_cons_of_mem _ (hsub8 _ (by k_mem)))) (sub_cons (M9.sub _ (List.mem_cons_of_mem _ (hsub8 _ (by k_mem)))) (sub_cons (M9.sub _ List.mem_cons_self) ?_))
        exact fun q h9 => M9.sub q (List.mem_cons_of_mem _ (hsub8 q (by k_mem))))
      clear N9 M9 NB MB S8 M8 hsub8 mx8 m8 hE8 a8
      have hd1 : ls[2 * i]? = some ls[2 * i] := List.getElem?_eq_getElem (by omega)
      have hd2 : ls[2 * i + 1]? = some ls[2 * i + 1] := List.getElem?_eq_getElem (by omega)
      have hd3 : (ls.map Value.ref).toArray[((2 * i : Nat) : Int).toNat]? = some (.ref ls[2 * i]) := by
        rw [show ((2 * i : Nat) : Int).toNat = 2 * i from Int.toNat_natCast _]
        simp [hd1]
      have hd4 : (ls.map Value.ref).toArray[(((2 * i : Nat) : Int) + 1).toNat]? = some (.ref ls[2 * i + 1]) := by
        rw [show (((2 * i : Nat) : Int) + 1).toNat = 2 * i + 1 by omega]
        simp [hd2]
      obtain ⟨ws1, kw1, mw1, iw1, _⟩ := hD3 (2 * i) _ hd1
      obtain ⟨ws2, kw2, mw2, iw2, _⟩ := hD3 (2 * i + 1) _ hd2
      have md7 := M7.sub _ t8
      have mh7 := M7.sub _ t5
      (try dsimp only)
      k_steps
      have r3 := hdk.range h5 h11 (j := nums.length + i) (by omega)
      k_dflt (refine' sp_new (merged_c w lh ls[2 * i] ls[2 * i + 1] xl' ords hs _ kw1 kw2 ws1 ws2 _ _ iw1 iw2 (by omega) (by omega) (by rw [hol]; exact r1.1) (by rw [hol]; exact r2.1)) ⟨by k_asm, by k_asm, by k_asm, N12, by k_asm, by k_asm, by k_asm, rfl, by ((try simp only [depth_in1, depth_deeper, depth_caller]); (try dsimp only [ktrTop]); omega), by ((try simp only [units_in1, units_deeper, Around.mark_units, units_caller]); (try dsimp only [ktrTop]); omega)⟩ ⟨by k_mem, (Hr3.sub M7.sub).sub (fun q hq => by k_mem), by have := M7.sub _ mw1; k_mem, by have := M7.sub _ mw2; k_mem, ⟨dx, es7, 4, ln7, _, _, by k_mem, by k_mem, hE7⟩⟩ ?_)
      intro h9 tk9 F9 lm wm km iwm llm N9
      rw [hdk.merge h5 h11 hi2] at iwm
      have wml : wm.length = (D (nums.length + i)).length := iwm.length
      have alm : Apart lm ((I, oI) :: (L + 1 + 1 + 1 + 1, oLn) :: (124, tabObj ps') :: nn7) := fun q hq => Nat.ne_of_lt (llm q hq)
      have mt7 := M7.sub _ t9
      have mlt7 := M7.sub _ t4
      clear N12 llm hd1 hd2 hd3 hd4 mw1 mw2 iw1 iw2
      (try dsimp only)
      k_steps
      rename_i F14 N14
      have hxl : (txs (tx nums) (D (nums.length + i))).length = (D (nums.length + i)).length := List.length_map ..
      refine Hold.mk (CompSrc.ledger rfl F14 N14 (by k_mem) (by rw [List.size_toArray, wml, sizeLine_eq]; omega) fun gg => rest_same (fun k ys' => StrsAre ys' (((txs (tx nums) (D (nums.length + i))).take k).map sg)) ?_ ?_ .nil)
      · intro k ys' hk hys' v I2 oI2 C oC D' m₂ h tk E' hP hN hm F2 N2 o3' ne
        (try k_fold)
        have hk' : k < (D (nums.length + i)).length := by rw [List.size_toArray, wml] at hk; exact hk
        obtain ⟨p, tp9, hp, hm2⟩ := ints_turn iwm hP hm
        have hpr := r3.1 p (List.mem_of_getElem? hp)
        have hpn : p.toNat < nums.length := by omega
        obtain ⟨tq, hw⟩ := hysx.get p.toNat (sg (tx nums p.toNat)) (by simp [hpn])
        have hw' : ysx.toArray[p.toNat]? = some (.str (sg (tx nums p.toNat)) tq) := by simpa using hw
        clear hP hk hw hm N14 F14
        k_steps
        (try k_unfold)
        refine Hold.mk (CompEnd.intro (by assumption) (by assumption) _ (fun _ h => h) o3' (.inr ⟨_, List.mem_cons_self, rfl, _, rfl⟩) ⟨rfl, ?_⟩)
        have e : (txs (tx nums) (D (nums.length + i)))[k]? = some (tx nums p.toNat) := by rw [txs, List.getElem?_map, hp]; rfl
        rw [List.take_add_one, List.map_append, e]
        exact strs_snoc _ _ hys'
      intro ysm hysm lq h tk11 F15 N15 o1q
      rw [List.size_toArray, wml, ← hxl, List.take_length] at hysm
      clear N14 F14
      (try dsimp only)
      k_steps
      k_dflt (refine' sp_pure (header_c w lq (txs (tx nums) (D (nums.length + i))) ysm ysm.length (by rw [hxl]; omega) (fun x hx => Nat.le_trans (txs_len (tx_len nums) _ x hx) (by decide)) hysm) ⟨by k_asm, by k_asm, by k_asm, N15, by k_asm, by k_asm, by k_asm, rfl, by ((try simp only [depth_in1, depth_deeper, depth_caller]); (try dsimp only [ktrTop]); omega), by ((try simp only [units_in1, units_deeper, Around.mark_units, units_caller]); (try dsimp only [ktrTop]); omega)⟩ List.mem_cons_self ?_)
      intro h9 tk9 F9 N9 th9
      (try dsimp only)
      k_steps
      obtain ⟨nf, MB, NB⟩ := M7.focus [(I, oI), (L + 1 + 1 + 1 + 1, oLn), (124, tabObj ps')] (fun q hq => N9 q (List.mem_cons_of_mem _ (List.mem_cons_of_mem _ hq)))
      clear N9 N15
      k_dflt (refine' sp_val (push_token_c w xl' tp pb dx sl K0 [122] pv2 _ _ SI (by omega)) ⟨by k_asm, by k_asm, by k_asm, NB, by k_asm, by k_asm, by k_asm, rfl, by ((try simp only [depth_in1, depth_deeper, depth_caller]); (try dsimp only [ktrTop]); omega), by ((try simp only [units_in1, units_deeper, Around.mark_units, units_caller]); (try dsimp only [ktrTop]); omega)⟩ MB ?_)
      intro nw9 h9 tk9 F9 N9 M9
      obtain ⟨nn9, M10, N10⟩ := M9.blur [(I, oI), (L + 1 + 1 + 1 + 1, oLn), (124, tabObj ps')] N9
      have hpv3 := strs_snoc (sg (header (txs (tx nums) (D (nums.length + i))))) th9 hpv2
      have a9 : Apart I nn9 := aI7.line M7 M10
      clear N9 M9 NB MB
      (try dsimp only)
      k_steps
      (try k_unfold)
      refine Hold.mk ⟨_, _, _, (L + 1 + 1 + 1 + 1, oLn) :: (124, tabObj ps') :: nn9, rfl, (by assumption), N10, Apart.cons aI.head (Apart.cons aI.tail.head a9), nn9, _, rfl, M10, ?_, rfl, rfl, rfl, rfl, rfl⟩
      rw [range_snoc hi2, List.map_append]
      exact hpv3
    · rintro h' tk' m' nw F4 N4 ⟨nn6, pv, rfl, M', hpv, lm⟩
      (try dsimp only [List.cons_append, List.nil_append] at N4)
      clear M6 hm40 F41 N41
      have e1 : nums.length - (nums.length - 1) = 1 := by omega
      rw [e1, show List.range' (2 * (nums.length - 1)) 1 = [2 * (nums.length - 1)] from rfl, List.map_cons, List.map_nil] at hpv
      obtain ⟨t1, pv2, rfl, hpv2⟩ := strs_one hpv
      have hp0 : pv2 = [] := by cases hpv2; rfl
      subst hp0
      clear hpv hpv2
      have F5 := lm.fr F4
      obtain ⟨es6, ln6, m6, hE6⟩ := M'.parts
      have mx6 : (xl', instObj 59 dx) ∈ nn6 := M'.sub _ S3.inst
      have SL : Stat w xl' tp pb dx sl ((L + 1 + 1 + 1 + 1, oLn) :: (124, tabObj ps') :: rest3) := (S3.moreL (p := (124, tabObj ps')) e124).moreL (p := (L + 1 + 1 + 1 + 1, oLn)) eL4
      clear F4 lm
      (try dsimp only)
      k_steps
      obtain ⟨nf, MB, NB⟩ := M'.focus [(L + 1 + 1 + 1 + 1, oLn), (124, tabObj ps')] N4
      clear N4
      k_dflt (refine' sp_val (get_push_c w xl' tp pb dx sl K0 [122] _ _ _ SL (Nat.zero_le _)) ⟨by k_asm, by k_asm, by k_asm, NB, by k_asm, by k_asm, by k_asm, rfl, by ((try simp only [depth_in1, depth_deeper, depth_caller]); (try dsimp only [ktrTop]); omega), by ((try simp only [units_in1, units_deeper, Around.mark_units, units_caller]); (try dsimp only [ktrTop]); omega)⟩ MB ?_)
      intro nw9 h9 tk9 F9 N9 M9
      obtain ⟨nn7, M7, N7⟩ := M9.blur [(L + 1 + 1 + 1 + 1, oLn), (124, tabObj ps')] N9
      clear N9 M9 NB MB m6 hE6 mx6 M'
      obtain ⟨es7, ln7, m7, hE7⟩ := M7.parts
      have mx7 : (xl', instObj 59 dx) ∈ nn7 := M7.sub _ S3.inst
      have r1 := hdk.range h5 h11 (j := 2 * (nums.length - 1)) (by omega)
      (try dsimp only [List.cons_append, List.nil_append] at N7 ⊢)
      k_steps
      k_dflt (refine' sp_new (parse_c w (header (txs (tx nums) (D (2 * (nums.length - 1))))) _ (header_len (txs_len (tx_len nums) _) (by rw [txs, List.length_map]; exact r1.2.1))) ⟨by k_asm, by k_asm, by k_asm, N7, by k_asm, by k_asm, by k_asm, rfl, by ((try simp only [depth_in1, depth_deeper, depth_caller]); (try dsimp only [ktrTop]); omega), by ((try simp only [units_in1, units_deeper, Around.mark_units, units_caller]); (try dsimp only [ktrTop]); omega)⟩ trivial ?_)
      intro h9 tk9 F9 lr1 vs1 kk1 hvs1 al1 N9
      rw [parse_txs r1.2.2] at hvs1
      have al1' : Apart lr1 ((L + 1 + 1 + 1 + 1, oLn) :: (124, tabObj ps') :: nn7) := al1
      have hs1 : (as.map Value.ref).toArray[(as.map Value.ref).toArray.size - 1]? = some (.ref as[2 * (nums.length - 1)]) := by
        have e : (as.map Value.ref).toArray.size - 1 = 2 * (nums.length - 1) := by rw [List.size_toArray, List.length_map]; omega
        rw [e, List.getElem?_toArray, List.getElem?_map, List.getElem?_eq_getElem (by omega)]; rfl
      have mli7 := M7.sub _ mli
      clear N7 al1
      (try dsimp only)
      k_steps
      obtain ⟨us1, ku1, mu1, hus1⟩ := hall3 (2 * (nums.length - 1)) as[2 * (nums.length - 1)] (List.getElem?_eq_getElem (by omega))
      have mu7 := M7.sub _ mu1
      refine Hold.mk (ne_strsK (isL N9 (by k_mem)) (isL N9 (by k_mem)) hvs1 hus1 ?hu2 ?_)
      case hu2 => (have hcL9 := cLine_is); (try simp only [units_in1, units_deeper, Around.mark_units, units_caller]); omega
      obtain ⟨nf, MB, NB⟩ := M7.focus [(L + 1 + 1 + 1 + 1, oLn), (124, tabObj ps')] (fun q hq => N9 q (List.mem_cons_of_mem _ hq))
      have N10 : News h₀ L h9 ((L + 1 + 1 + 1 + 1, oLn) :: (124, tabObj ps') :: nn7) := fun q hq => N9 q (List.mem_cons_of_mem _ hq)
      clear N9 hvs1 hus1 mu7 mu1 hs1
      k_steps
      k_dflt (refine' sp_str (get_read_c w xl' tp pb dx sl K0 [122] _ SL) ⟨by k_asm, by k_asm, by k_asm, NB, by k_asm, by k_asm, by k_asm, rfl, by ((try simp only [depth_in1, depth_deeper, depth_caller]); (try dsimp only [ktrTop]); omega), by ((try simp only [units_in1, units_deeper, Around.mark_units, units_caller]); (try dsimp only [ktrTop]); omega)⟩ MB ?_)
      intro nw9 h9 tk9 F9 N9 tz M9
      rw [lexT_z] at M9 ⊢
      obtain ⟨nn8, M8, N8⟩ := M9.blur [(L + 1 + 1 + 1 + 1, oLn), (124, tabObj ps')] N9
      clear N9 M9 N10 MB NB m7 hE7 mx7 mli7 al1'
      obtain ⟨es8, ln8, m8, hE8⟩ := M8.parts
      have mx8 : (xl', instObj 59 dx) ∈ nn8 := M8.sub _ S3.inst
      (try dsimp only [List.cons_append, List.nil_append] at N8 M8 ⊢)
      k_steps
      obtain ⟨nf, MB, NB⟩ := M8.focus [(L + 1 + 1 + 1 + 1, oLn), (124, tabObj ps')] N8
      clear N8
      k_dflt (refine' sp_str (get_read_c w xl' tp pb dx sl K0 [] _ SL) ⟨by k_asm, by k_asm, by k_asm, NB, by k_asm, by k_asm, by k_asm, rfl, by ((try simp only [depth_in1, depth_deeper, depth_caller]); (try dsimp only [ktrTop]); omega), by ((try simp only [units_in1, units_deeper, Around.mark_units, units_caller]); (try dsimp only [ktrTop]); omega)⟩ MB ?_)
      intro nw9 h9 tk9 F9 N9 te M9
      rw [show lexT [] = ([], []) from rfl] at M9 ⊢
      obtain ⟨nn9, M9', N9'⟩ := M9.blur [(L + 1 + 1 + 1 + 1, oLn), (124, tabObj ps')] N9
      clear N9 M9 MB NB m8 hE8 mx8
      obtain ⟨es9, ln9, m9, hE9⟩ := M9'.parts
      have mx9 : (xl', instObj 59 dx) ∈ nn9 := M9'.sub _ S3.inst
      (try dsimp only [List.cons_append, List.nil_append] at N9' M9' ⊢)
      k_steps
      rename_i la hA lla lb hB F12 N12 llb
      refine Hold.mk (ne_strsK (vs := [.str (sg [122]) tz, .str (sg []) te]) (xs := [sg [122], sg []]) (isL N12 (by k_mem)) (isL N12 List.mem_cons_self) (.cons _ _ (.cons _ _ .nil)) (by rw [c122, c0]; exact .cons _ _ (.cons _ _ .nil)) ?hu2 ?_)
      case hu2 => (have hcL9 := cLine_is); (try simp only [units_in1, units_deeper, Around.mark_units, units_caller]); omega
      have N13 : News h₀ L hB ((L + 1 + 1 + 1 + 1, oLn) :: (124, tabObj ps') :: nn9) := fun q hq => N12 q (List.mem_cons_of_mem _ (List.mem_cons_of_mem _ hq))
      have ho0 : 0 < ords.length := by omega
      obtain ⟨ty, hy0⟩ := ints_get hys ho0
      have hy1 : ys.toArray[(0 : Int).toNat]? = some (.int ords[0] ty) := by simpa using hy0
      have mo9 := M9'.sub _ t10
      have mlo9 := M9'.sub _ t6
      have mh9 := M9'.sub _ t5
      clear N12 lla llb
      k_steps
      obtain ⟨nf, MB, NB⟩ := M9'.focus [(L + 1 + 1 + 1 + 1, oLn), (124, tabObj ps')] N13
      clear N13
      k_dflt (refine' sp_at (below_c w xl' tp pb dx sl lh K0 ords[0] ty [] _ ords hs _ SL (by omega) (List.mem_cons_of_mem _ (List.mem_cons_of_mem _ t5)) (Hr3.sub fun q hq => List.mem_cons_of_mem _ (List.mem_cons_of_mem _ hq))) ⟨by k_asm, by k_asm, by k_asm, NB, by k_asm, by k_asm, by k_asm, rfl, by ((try simp only [depth_in1, depth_deeper, depth_caller]); (try dsimp only [ktrTop]); omega), by ((try simp only [units_in1, units_deeper, Around.mark_units, units_caller]); (try dsimp only [ktrTop]); omega)⟩ MB ?_)
      rintro r9 nw9 h9 tk9 F9 N9 ⟨lbw, kbw, esb, lnb, e5, rfl, rfl, hEb, hKb⟩
      have mxb : (xl', instObj 59 dx) ∈ rest3 := S3.inst
      have hln : lnb = 1 + ((List.count 10 (joinL [] ((List.range nums.length).map (wd nums)) ++ [122]) : Nat) : Int) := by
        rw [hK0, ← hKb]; simp
      clear MB NB m9 hE9 mx9 mo9 mlo9 mh9
      (try dsimp only)
      k_steps
      rename_i F14 N14 _ _ _
      have hyl : ys.length = ords.length := hys.length
      refine Hold.mk (CompSrc.ledger rfl F14 N14 (by k_mem) (by rw [List.size_toArray, hyl, sizeLine_eq]; omega) fun gg => rest_same (fun k ys' => ys' = (ords.take k).map fun a => Value.bool (decide (a < ords[0]))) ?_ ?_ rfl)
      · rintro k ys' hk rfl v I2 oI2 C oC D' m₂ h tk E' hP hN hm F2 N2 o3' ne
        (try k_fold)
        obtain ⟨n, tn, hn, hm2⟩ := ints_turn hys hP hm
        clear hP hk hm N14 F14
        k_steps
        (try k_unfold)
        refine Hold.mk (CompEnd.intro (by assumption) (by assumption) _ (fun _ h => h) o3' (.inr ⟨_, by k_mem, rfl, _, rfl⟩) ⟨rfl, ?_⟩)
        rw [List.take_add_one, hn]
        simp
      rintro ysl rfl lq h tk11 F15 N15 o1q
      rw [List.size_toArray, hyl, List.take_length] at N15
      clear N14 F14
      (try dsimp only)
      k_steps
      refine Hold.mk (eq_sameK (vs := ords.map fun a => Value.bool (decide (a < ords[0]))) (isL N15 (by k_mem)) (isL N15 List.mem_cons_self) ?hu2 ?_)
      case hu2 => (have hcL9 := cLine_is); (try simp only [units_in1, units_deeper, Around.mark_units, units_caller]); omega
      refine ⟨?_, ⟨pz, (N15 (181, tabObj pz) (by k_mem)).1⟩, ⟨ps', (N15 (124, tabObj ps') (by k_mem)).1⟩, trivial⟩
      k_steps)
end
end Mine
theorem PySem.Challenge.cw_pk0065_01_holds : PySem.Challenge.rw_pk0065_01.Holds := by
  exact Mine.trial
