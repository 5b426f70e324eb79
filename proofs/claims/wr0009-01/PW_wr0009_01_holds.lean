import PyProof.Rows.All
import Wide.All
import OpenK.AllK
import Wide.FinOn
import PySem.Challenge.RW_wr0009_01
open PySem PySem.W PyProof.Rows
set_option Elab.async false
set_option maxRecDepth 100000
set_option maxHeartbeats 8000000
namespace Mine
open_top hd for PySem.Challenge.rw_wr0009_01
open PySem.Builtin PySem.Builtin.Str
theorem mine_gives_find4 (x y : Str) (i j : Int) (t u v v' : Tok) : Gives (Builtin.«str.find» ⟨[.str x t, .str y u, .int i v, .int j v'], []⟩) (.int (match occurrences x y (fromIndex x.length i) (min (fromIndex x.length j) x.length) 1 with | k :: _ => (k : Int) | [] => -1)) := by
  show Gives (match occurrences x y (fromIndex x.length i) (min (fromIndex x.length j) x.length) 1 with | k :: _ => retInt k | [] => (do rule "str.find.not-found"; retInt (-1))) _
  cases occurrences x y (fromIndex x.length i) (min (fromIndex x.length j) x.length) 1 with
  | nil => exact .rule (.of_eq rfl)
  | cons k _ => exact .of_eq rfl
theorem mine_gives_rfind4 (x y : Str) (i j : Int) (t u v v' : Tok) : Gives (Builtin.«str.rfind» ⟨[.str x t, .str y u, .int i v, .int j v'], []⟩) (.int (match lastOccurrence x y (fromIndex x.length i) (min (fromIndex x.length j) x.length) with | some k => (k : Int) | none => -1)) := by
  show Gives (match lastOccurrence x y (fromIndex x.length i) (min (fromIndex x.length j) x.length) with | some k => retInt k | none => (do rule "str.rfind.not-found"; retInt (-1))) _
  cases lastOccurrence x y (fromIndex x.length i) (min (fromIndex x.length j) x.length) with
  | none => exact .rule (.of_eq rfl)
  | some k => exact .of_eq rfl
def fnd4 (x y : Str) (i j : Int) : Int := match occurrences x y (fromIndex x.length i) (min (fromIndex x.length j) x.length) 1 with | k :: _ => (k : Int) | [] => -1
def rfnd4 (x y : Str) (i j : Int) : Int := match lastOccurrence x y (fromIndex x.length i) (min (fromIndex x.length j) x.length) with | some k => (k : Int) | none => -1
section
variable {prog : Program} {w : World} {A : Around} {E : Value → Shared → Prop} {s : Shared} {x y : Str} {t u v v' : Tok} {i j : Int} {Q : Value → Shared → Prop}
theorem find4 (hq : Q (.int (fnd4 x y i j) s.toks) { s with toks := s.toks + 1 }) : wpAny (model prog w) A (call (.builtin "str.find") [.str x t, .str y u, .int i v, .int j v']) Q E s :=
  call_gives F.slot_str_find (typeIs_str _ _ _) F.entry_str_find (F.args_str_find_4 _ _ _ _) (mine_gives_find4 x y i j t u v v') hq
theorem rfind4 (hq : Q (.int (rfnd4 x y i j) s.toks) { s with toks := s.toks + 1 }) : wpAny (model prog w) A (call (.builtin "str.rfind") [.str x t, .str y u, .int i v, .int j v']) Q E s :=
  call_gives F.slot_str_rfind (typeIs_str _ _ _) F.entry_str_rfind (F.args_str_rfind_4 _ _ _ _) (mine_gives_rfind4 x y i j t u v v') hq
end
/-- the count of the values made so far may be any -/
theorem gen_toks {M : Model} {A : Around} {α : Type} {c : Sem α} {Q : α → Shared → Prop} {E : Value → Shared → Prop} {h : Heap} {g : Array GenState} {d : Drawn} {n : Nat} {o : OsState} (H : ∀ k, wpAny M A c Q E ⟨h, g, d, k, o⟩) : wpAny M A c Q E ⟨h, g, d, n, o⟩ := H n
/-- a contract of a def of the text: what a call of it hands back, what becomes of the ledger -/
def Ct (w : World) (mean : ExcName → Option Value) (mg mb : Str → Option Value) (need : Nat) (f : Addr) (args : List Value) (news : List (Addr × Obj)) (R : Value → List (Addr × Obj) → Prop) : Prop :=
  ∀ (dp un : Nat) (gd : Option (List Code)) (cn : Str) (cs : Scope) (a : Addr) (ccd : Value) (cl : List (Str × Addr)) (outer : List Env) (A₀ : Around) (base h₀ : Heap) (L : Addr) (m : Str → Option Value) (s : Shared) (Q E : Value → Shared → Prop),
    Below A₀ base outer h₀ → Fr h₀ L s.heap m → (hd.heap_39 w.params).In h₀ → News h₀ L s.heap news → Top hd.view_39 (looseW hd.view_39 []) mean mg mb h₀ → cs.kind = .function →
    dp + need < recursionLimit → un + 8 * need + 100 < cLine →
    (∀ v nx h' tk', R v nx → Fr h₀ L h' m → News h₀ L h' nx → Q v { s with heap := h', toks := tk' }) →
    wpAny (model PySem.Challenge.rw_wr0009_01.row.prog w) (ktrTop dp un gd cn cs L a ccd cl outer) (call (.ref f) args) Q E s
section
variable {w : World} {mean : ExcName → Option Value} {mg mb : Str → Option Value} {need : Nat} {f : Addr} {args : List Value} {news : List (Addr × Obj)} {R : Value → List (Addr × Obj) → Prop}
  {dp un : Nat} {gd : Option (List Code)} {cn : Str} {cs : Scope} {a : Addr} {ccd : Value} {cl : List (Str × Addr)} {outer : List Env} {A₀ : Around} {base h₀ : Heap} {L : Addr} {m : Str → Option Value} {s : Shared} {Q E : Value → Shared → Prop}
theorem Ct.use (C : Ct w mean mg mb need f args news R) (B : Below A₀ base outer h₀) (F : Fr h₀ L s.heap m) (X : (hd.heap_39 w.params).In h₀) (N : News h₀ L s.heap news) (T : Top hd.view_39 (looseW hd.view_39 []) mean mg mb h₀) (hk : cs.kind = .function)
    (hd : dp + need < recursionLimit) (hu : un + 8 * need + 100 < cLine) (ret : ∀ v nx h' tk', R v nx → Fr h₀ L h' m → News h₀ L h' nx → Q v { s with heap := h', toks := tk' }) :
    wpAny (model PySem.Challenge.rw_wr0009_01.row.prog w) (ktrTop dp un gd cn cs L a ccd cl outer) (call (.ref f) args) Q E s := C _ _ _ _ _ _ _ _ _ _ _ _ _ _ _ _ _ B F X N T hk hd hu ret
theorem news_drop {news' : List (Addr × Obj)} {h : Heap} (N : News h₀ L h news') (hs : ∀ p ∈ news, p ∈ news') : News h₀ L h news := fun p hp => N p (hs p hp)
end
theorem is_str {y z : Str} {t : Tok} (e : y = z) : ∃ t', Value.str y t = .str z t' := ⟨t, by rw [e]⟩
theorem is_int {y z : Int} {t : Tok} (e : y = z) : ∃ t', Value.int y t = .int z t' := ⟨t, by rw [e]⟩
/-- what _strip_exception_details leaves -/
def stE1 (x : Str) : Int := if 0 ≤ Txt.find x (Str.ofString "\n") then Txt.find x (Str.ofString "\n") else x.length
def stE2 (x : Str) : Int := if 0 ≤ fnd4 x (Str.ofString ":") 0 (stE1 x) then fnd4 x (Str.ofString ":") 0 (stE1 x) else stE1 x
def stS (x : Str) : Int := if 0 ≤ rfnd4 x (Str.ofString ".") 0 (stE2 x) then rfnd4 x (Str.ofString ".") 0 (stE2 x) + 1 else 0
def stripF (x : Str) : Str := Txt.slice x (some (stS x)) (some (stE2 x))
theorem strip_eq {x : Str} {r : Int} (hr : 0 ≤ Txt.find x (Str.ofString "\n") ∧ r = Txt.find x (Str.ofString "\n") ∨ ¬0 ≤ Txt.find x (Str.ofString "\n") ∧ r = (x.length : Int)) : r = stE1 x := by
  unfold stE1
  rcases hr with ⟨h, e⟩ | ⟨h, e⟩
  · rw [if_pos h, e]
  · rw [if_neg h, e]
theorem strip_K {w : World} {mean : ExcName → Option Value} {mg mb : Str → Option Value} {news : List (Addr × Obj)} (x : Str) (t : Tok) (hx : x.length ≤ 1000000) :
    Ct w mean mg mb 1 21 [.str x t] news (fun v nx => nx = news ∧ ∃ t', v = .str (stripF x) t') := by
  w_top off
  intro dp un gd cn cs a ccd cl outer A₀ base h₀ L m s Q E B F X N T hk hdp hu hret
  refine wpAny_call ?_
  k_dflt ktr_enter
  (repeat' (first | ((with_reducible show wpAny _ _ (call (Value.builtin "str.rfind") _ _) _ _ _); (with_reducible show wpAny _ _ (call (Value.builtin _) [Value.str _ _, Value.str _ _, Value.int _ _, Value.int _ _]) _ _ _); (refine rfind4 ?_)) | ((with_reducible show wpAny _ _ (call (Value.builtin "str.find") _ _) _ _ _); (with_reducible show wpAny _ _ (call (Value.builtin _) [Value.str _ _, Value.str _ _, Value.int _ _, Value.int _ _]) _ _ _); (refine find4 ?_)) | ((with_reducible show wpAny _ _ (call (Value.builtin "str.find") _ _) _ _ _); (with_reducible show wpAny _ _ (call (Value.builtin _) [Value.str _ _, Value.str _ _]) _ _ _); (refine SC.find ?_)) | ((with_reducible show wpAny _ _ (call (Value.builtin "len") _ _) _ _ _); (with_reducible show wpAny _ _ (call (Value.builtin "len") [Value.str _ _]) _ _ _); (refine P.len_str (by omega) ?_)) | (k_unfold; (try dsimp only)) | (k_end; wrow_close) | walk1 | (dsimp only; walk1) | (leave1; walk_say "STEP leave1"; try dsimp only) | fail "no step"))
  all_goals (refine hret _ _ _ _ ⟨rfl, is_str ?_⟩ (by k_asm) (news_drop (by k_asm) (fun _ h => .tail _ h)))
  all_goals (have e := strip_eq (x := x) (by assumption); subst e; unfold stripF stS stE2; simp only [if_pos, if_neg, *, not_false_eq_true])
/-- what _law_start gives -/
def KeyOk (x : Str) : Prop := x.length ≤ 1000000 ∧ (stripF x).length ≤ 640 ∧ ∃ p, PySem.intText? (stripF x) = some p ∧ 0 ≤ p ∧ p < 1000
def homeF (x : Str) : Int := (PySem.intText? (stripF x)).getD 0 % 7
theorem start_K {w : World} {mean : ExcName → Option Value} {mg mb : Str → Option Value} {news : List (Addr × Obj)} (x : Str) (t : Tok) (hk : KeyOk x) :
    Ct w mean mg mb 3 103 [.str x t] news (fun v nx => nx = news ∧ ∃ t', v = .int (homeF x) t') := by
  w_top off
  obtain ⟨hx, hl, p, hp, h0, h1⟩ := hk
  intro dp un gd cn cs a ccd cl outer A₀ base h₀ L m s Q E B F X N T hk hdp hu hret
  refine wpAny_call ?_
  k_dflt ktr_enter
  (repeat' (first | ((with_reducible show wpAny _ _ (call (Value.ref 21) _) _ _ _); k_dflt (refine' Ct.use (strip_K _ _ ?hx) ?k1 ?k2 ?k3 ?k4 ?k5 ?kK ?kd ?ku ?_; (case hx => first | assumption | omega); ((case k1 => k_asm); (case k2 => k_asm); (case k3 => k_asm); (case k4 => k_asm); (case k5 => k_asm); (case kK => first | exact rfl | assumption); (case kd => ktr_room); (case ku => ktr_units))); intro v' nx' h' tk' hR' F' N'; obtain ⟨e', t', e2'⟩ := hR'; subst e'; subst e2'; (try dsimp only); (try k_fold)) | (k_unfold; (try dsimp only)) | (k_end; wrow_close) | walk1 | (dsimp only; walk1) | (leave1; walk_say "STEP leave1"; try dsimp only) | fail "no step"))
  all_goals exact hret _ _ _ _ ⟨rfl, is_int (by rw [homeF, hp]; exact Int.fmod_eq_emod_of_nonneg _ (by decide))⟩ (by k_asm) (by k_asm)
theorem sxf_K {w : World} {mean : ExcName → Option Value} {mg mb : Str → Option Value} {news : List (Addr × Obj)} (x : Str) (t : Tok) :
    Ct w mean mg mb 1 72 [.str x t] news (fun v nx => nx = news ∧ ∃ t', v = .str x t') := by
  w_top off
  intro dp un gd cn cs a ccd cl outer A₀ base h₀ L m s Q E B F X N T hk hdp hu hret
  refine wpAny_call ?_
  k_dflt ktr_enter
  k_steps
  all_goals exact hret _ _ _ _ ⟨rfl, is_str rfl⟩ (by k_asm) (by k_asm)
def Stop (P : Prop) : Prop := P
theorem stop_at {P : Prop} (h : Stop P) : P := h
section
variable {prog : Program} {w : World} {A : Around} {E : Value → Shared → Prop} {s : Shared} {h₀ : Heap} {L D : Addr} {m : Str → Option Value} {news news' : List (Addr × Obj)} {vs : List Value} {ss : List Str} {n : Nat} {k : Int} {t u : Tok} {v : Value}
theorem mget {value slice : PySem.Expr} {Q : Value → Shared → Prop} (N : News h₀ L s.heap news) (hm : (D, listOf vs.toArray n) ∈ news) (hS : StrsAre vs ss) (h0 : 0 ≤ k) (h1 : k < ss.length) (hfit : k < 2 ^ 63) (h : ∀ t, Q (.str (ss.getD k.toNat Str.empty) t) s)
    (hs : subscripted slice false (.ref D) (.int k u) = operate [.ref D, .int k u] (getItem (.ref D) (.int k u)) := by with_unfolding_all rfl) (hg : ∀ r, letTemporaryGo value (.ref D) r = pure () := by intro _; with_unfolding_all rfl) :
    wpAny (model prog w) A (subscriptTail value slice (.ref D) (.int k u)) Q E s := by
  have hj : k.toNat < ss.length := by omega
  obtain ⟨t, hx⟩ := hS.at (j := k.toNat) (y := ss.getD k.toNat Str.empty) (by simp [hj])
  exact kim_list N hm rfl rfl h0 hfit hx (h t) hs hg
theorem mset {Q : Unit → Shared → Prop} (F : Fr h₀ L s.heap m) (N : News h₀ L s.heap news) (U : Upd D (listOf vs.toArray n) (listOf (vs.set k.toNat v).toArray n) news news') (h0 : 0 ≤ k) (h1 : k < vs.length) (hfit : k < 2 ^ 63)
    (h : ∀ h', Fr h₀ L h' m → News h₀ L h' news' → Q () { s with heap := h' }) :
    wpAny (model prog w) A (setItem (.ref D) (.int k t) v) Q E s := by
  obtain ⟨pre, post, rfl, rfl, a, b⟩ := U.split
  have z := N (D, listOf vs.toArray n) (List.mem_append.mpr (.inr (.head _)))
  refine ki_setAt z.1 h0 hfit (by simpa using h1) (h _ (F.change (Heap.SameBut.update ..) z.2.1 z.2.2) (ki_turn _ N a b ?_ ?_))
  · show vs.toArray.setIfInBounds k.toNat v = (vs.set k.toNat v).toArray
    apply Array.toList_inj.mp
    simp
  · simp
theorem m3 {a b c : Str} {va vb vc : Value} (h1 : m a = some va) (h2 : m b = some vb) (h3 : m c = some vc) : m = fun y => if y = a then some va else if y = b then some vb else if y = c then some vc else m y := by
  funext y
  by_cases e1 : y = a
  · rw [if_pos e1, e1, h1]
  by_cases e2 : y = b
  · rw [if_neg e1, if_pos e2, e2, h2]
  by_cases e3 : y = c
  · rw [if_neg e1, if_neg e2, if_pos e3, e3, h3]
  rw [if_neg e1, if_neg e2, if_neg e3]
end
theorem strs_set {x : Str} {u : Tok} : ∀ {vs : List Value} {ns : List Str}, StrsAre vs ns → ∀ j : Nat, StrsAre (vs.set j (.str x u)) (ns.set j x)
  | _, _, .nil, _ => .nil
  | _, _, .cons _ _ h, 0 => .cons x u h
  | _, _, .cons i t h, j + 1 => .cons i t (strs_set h j)
local macro_rules | `(tactic| k_all) => `(tactic| assumption)
local macro_rules | `(tactic| walk_at "exec While") => `(tactic| (k_here; refine stop_at ?_))
def comesGo : Nat → List Str → Str → Nat → List Str
  | 0, ring, key, p => ring.set p key
  | n + 1, ring, key, p => if ring.getD p Str.empty = Str.empty then ring.set p key else if key.cps.toList < (ring.getD p Str.empty).cps.toList then comesGo n (ring.set p key) (ring.getD p Str.empty) ((p + 1) % 7) else comesGo n ring key ((p + 1) % 7)
def comesJ (R : Addr) (rest : List (Addr × Obj)) (c : Nat) (tgt : List Str) (n : Nat) (m : Str → Option Value) (nx : List (Addr × Obj)) : Prop :=
  ∃ (vs : List Value) (ss : List Str) (key : Str) (kt : Tok) (p : Int) (pt : Tok), nx = (R, listOf vs.toArray c) :: rest ∧ StrsAre vs ss ∧ ss.length = 7 ∧ m (Str.ofString "place") = some (.int p pt) ∧ m (Str.ofString "key") = some (.str key kt) ∧ m (Str.ofString "ring") = some (.ref R) ∧
    0 ≤ p ∧ p < 7 ∧ ss.getD ((p.toNat + n) % 7) Str.empty = Str.empty ∧ n < 7 ∧ comesGo n ss key p.toNat = tgt
theorem home_range (x : Str) : 0 ≤ homeF x ∧ homeF x < 7 := ⟨Int.emod_nonneg _ (by decide), Int.emod_lt_of_pos _ (by decide)⟩
theorem toNat_next {p : Int} (h0 : 0 ≤ p) (h7 : p < 7) : ((p + 1).fmod 7).toNat = (p.toNat + 1) % 7 := by
  have h : ∀ n : Nat, n < 7 → (((n : Int) + 1).fmod 7).toNat = (n + 1) % 7 := by decide +kernel
  have := h p.toNat ((Int.toNat_lt h0).mpr h7)
  rwa [Int.toNat_of_nonneg h0] at this
theorem next_range {p : Int} : 0 ≤ (p + 1).fmod 7 ∧ (p + 1).fmod 7 < 7 := by
  rw [Int.fmod_eq_emod_of_nonneg _ (by decide)]
  exact ⟨Int.emod_nonneg _ (by decide), Int.emod_lt_of_pos _ (by decide)⟩
theorem emp_ne {x : Str} (h : (x != Str.ofString "") = true) : x ≠ Str.empty := by
  intro e; subst e; revert h; decide
theorem emp_eq {x : Str} (h : (x != Str.ofString "") = false) : x = Str.empty := by
  have : x = Str.ofString "" := by simpa using h
  rw [this]; decide
theorem hole_pos {ss : List Str} {p n : Nat} (hp : p < 7) (he : ss.getD ((p + n) % 7) Str.empty = Str.empty) (hne : ss.getD p Str.empty ≠ Str.empty) : n ≠ 0 := by
  intro e; subst e; rw [Nat.add_zero, Nat.mod_eq_of_lt hp] at he; exact hne he
theorem hole_next {p n : Nat} (hn : n ≠ 0) : ((p + 1) % 7 + (n - 1)) % 7 = (p + n) % 7 := by
  rw [Nat.mod_add_mod, Nat.add_assoc, Nat.add_sub_cancel' (Nat.pos_of_ne_zero hn)]
theorem comes_swap {ss : List Str} {key : Str} {p n : Nat} (hn : n ≠ 0) (hne : ss.getD p Str.empty ≠ Str.empty) (hl : key.cps.toList < (ss.getD p Str.empty).cps.toList) :
    comesGo (n - 1) (ss.set p key) (ss.getD p Str.empty) ((p + 1) % 7) = comesGo n ss key p := by
  obtain ⟨k, rfl⟩ := Nat.exists_eq_succ_of_ne_zero hn
  rw [comesGo, if_neg hne, if_pos hl]; rfl
theorem comes_on {ss : List Str} {key : Str} {p n : Nat} (hn : n ≠ 0) (hne : ss.getD p Str.empty ≠ Str.empty) (hl : ¬ key.cps.toList < (ss.getD p Str.empty).cps.toList) :
    comesGo (n - 1) ss key ((p + 1) % 7) = comesGo n ss key p := by
  obtain ⟨k, rfl⟩ := Nat.exists_eq_succ_of_ne_zero hn
  rw [comesGo, if_neg hne, if_neg hl]; rfl
theorem comes_end {ss : List Str} {key : Str} {p n : Nat} (hne : ss.getD p Str.empty = Str.empty) : comesGo n ss key p = ss.set p key := by
  cases n with
  | zero => rfl
  | succ k => rw [comesGo, if_pos hne]
theorem getD_set_ne {ss : List Str} {i j : Nat} {x e : Str} (h : i ≠ j) : (ss.set i x).getD j e = ss.getD j e := by
  simp only [List.getD_eq_getElem?_getD, List.getElem?_set_ne h]
theorem comes_K {w : World} {mean : ExcName → Option Value} {mg mb : Str → Option Value} {rest : List (Addr × Obj)} {R : Addr} {vs : List Value} {ss : List Str} {c : Nat} (x : Str) (t : Tok) (n : Nat) (hk : KeyOk x) (hS : StrsAre vs ss) (h7 : ss.length = 7)
    (hR : ∀ p ∈ rest, p.1 ≠ R) (hn : n < 7) (he : ss.getD (((homeF x).toNat + n) % 7) Str.empty = Str.empty) :
    Ct w mean mg mb 6 110 [.ref R, .str x t] ((R, listOf vs.toArray c) :: rest) (fun v nx => v = .none ∧ ∃ vs', nx = (R, listOf vs'.toArray c) :: rest ∧ StrsAre vs' (comesGo n ss x (homeF x).toNat)) := by
  w_top off
  intro dp un gd cn cs a ccd cl outer A₀ base h₀ L m s Q E B F X N T hk hdp hu hret
  refine wpAny_call ?_
  k_dflt ktr_enter
  (repeat' (first | ((with_reducible show wpAny _ _ (call (Value.ref 103) _) _ _ _); k_dflt (refine' Ct.use (start_K _ _ ?hx) ?k1 ?k2 ?k3 ?k4 ?k5 ?kK ?kd ?ku ?_; (case hx => first | assumption | solve_by_elim); ((case k1 => k_asm); (case k2 => k_asm); (case k3 => k_asm); (case k4 => k_asm); (case k5 => k_asm); (case kK => first | exact rfl | assumption); (case kd => ktr_room); (case ku => ktr_units))); intro v' nx' h' tk' hR' F' N'; obtain ⟨e', t', e2'⟩ := hR'; subst e'; subst e2'; (try dsimp only); (try k_fold)) | (k_unfold; (try dsimp only)) | (k_end; wrow_close) | walk1 | (dsimp only; walk1) | (leave1; walk_say "STEP leave1"; try dsimp only) | fail "no step"))
  unfold Stop
  rename Fr _ _ _ _ => kF
  rename News _ _ _ _ => kN
  have hh := home_range x
  k_dflt (refine' While_inv2 (comesJ R rest c (comesGo n ss x (homeF x).toNat)) (n₀ := n) kF kN ?hJ ?turn ?hE)
  case hJ => exact ⟨vs, ss, x, _, homeF x, _, rfl, hS, h7, rfl, rfl, rfl, hh.1, hh.2, he, hn, rfl⟩
  case hE => passes_own
  case turn =>
    clear kF kN
    rintro n₁ m₁ nx₁ h₁ tk₁ F₁ N₁ ⟨vs₁, ss₁, key₁, kt₁, p₁, pt₁, rfl, hS₁, h7₁, mp, mk, mr, p0, p7, he₁, hn₁, ht₁⟩
    rw [m3 mp mk mr] at F₁
    have hl₁ : vs₁.length = 7 := by rw [hS₁.length]; exact h7₁
    (try k_unmd)
    (try k_fold)
    (repeat' (first | ((with_reducible show wpAny _ _ (setItem (Value.ref _) (Value.int _ _) _) _ _ _); k_dflt (refine' mset ?k1 ?k2 ?k3 ?k5 ?k6 ?k7 ?_; (case k1 => k_asm); (case k2 => k_asm); (case k3 => k_upd); (case k5 => omega); (case k6 => first | omega | (simp only [List.length_set]; omega)); (case k7 => omega); k_whole); intro h' F' N'; (try k_sweep)) | ((with_reducible show wpAny _ _ (subscriptTail _ _ (Value.ref _) (Value.int _ _)) _ _ _); k_dflt (refine' mget ?k1 ?k2 ?k3 ?k4 ?k5 ?k6 ?_ ?k7 ?k8; (case k1 => k_asm); (case k2 => k_mem); (case k3 => with_reducible assumption); (case k4 => omega); (case k5 => omega); (case k6 => omega); ((case k7 => with_unfolding_all rfl); (case k8 => (intro _; with_unfolding_all rfl))); k_whole); intro _) | ((with_reducible show wpAny _ _ (call (Value.ref 72) _) _ _ _); k_dflt (refine' Ct.use (sxf_K _ _) ?k1 ?k2 ?k3 ?k4 ?k5 ?kK ?kd ?ku ?_; ((case k1 => k_asm); (case k2 => k_asm); (case k3 => k_asm); (case k4 => k_asm); (case k5 => k_asm); (case kK => first | exact rfl | assumption); (case kd => ktr_room); (case ku => ktr_units))); intro v' nx' h' tk' hR' F' N'; obtain ⟨e', t', e2'⟩ := hR'; subst e'; subst e2'; (try dsimp only); (try k_fold)) | (k_unfold; (try dsimp only)) | (k_end; wrow_close) | walk1 | (dsimp only; walk1) | (leave1; walk_say "STEP leave1"; try dsimp only) | fail "no step"))
    · rename _ = true => hne
      rename _ < _ => hlt
      have hne2 := emp_ne hne
      have h0 := hole_pos (p := p₁.toNat) (by omega) he₁ hne2
      have e1 := toNat_next p0 p7
      refine ⟨_, _, _, (R, listOf (vs₁.set p₁.toNat (.str key₁ kt₁)).toArray c) :: rest, n₁ - 1, rfl, (by k_asm), news_drop (by k_asm) (fun _ h => .tail _ h), (by omega), _, ss₁.set p₁.toNat key₁, _, _, _, _, rfl, strs_set (by assumption) _, ?_, rfl, rfl, rfl, next_range.1, next_range.2, ?_, (by omega), ?_⟩
      · rw [List.length_set]; exact h7₁
      · rw [e1, hole_next h0, getD_set_ne ?_]; exact he₁
        intro e; rw [← e] at he₁; exact hne2 he₁
      · rw [e1, comes_swap h0 hne2 hlt]; exact ht₁
    · rename _ = true => hne
      rename ¬ _ => hlt
      have hne2 := emp_ne hne
      have h0 := hole_pos (p := p₁.toNat) (by omega) he₁ hne2
      have e1 := toNat_next p0 p7
      refine ⟨_, _, _, (R, listOf vs₁.toArray c) :: rest, n₁ - 1, rfl, (by k_asm), (by k_asm), (by omega), _, ss₁, _, _, _, _, rfl, (by assumption), h7₁, rfl, rfl, rfl, next_range.1, next_range.2, ?_, (by omega), ?_⟩
      · rw [e1, hole_next h0]; exact he₁
      · rw [e1, comes_on h0 hne2 hlt]; exact ht₁
    · rename _ = false => hne
      have hne2 := emp_eq hne
      refine hret _ _ _ _ ⟨rfl, _, rfl, ?_⟩ (by k_asm) (by k_asm)
      rw [← ht₁, comes_end hne2]; exact strs_set (by assumption) _
theorem keyAt {ss : List Str} {i : Nat} (hall : ∀ x ∈ ss, x ≠ Str.empty → KeyOk x) (hne : (ss.getD i Str.empty != Str.ofString "") = true) : KeyOk (ss.getD i Str.empty) := by
  have hne2 := emp_ne hne
  refine hall _ ?_ hne2
  by_cases h : i < ss.length
  · simp [h]
  · exact absurd (by simp [h]) hne2
def firstGo : Nat → List Str → Nat → Nat
  | 0, _, p => p
  | n + 1, ring, p => if ring.getD p Str.empty = Str.empty then firstGo n ring ((p + 1) % 7) else p
def goCond (x : Str) (p h : Nat) : Prop := ((h : Int) - p) % 7 ≤ ((h : Int) - homeF x) % 7
inductive GoesR : List Str → Nat → Nat → List Str → Prop
  | stop {ss : List Str} {p h : Nat} : ss.getD h Str.empty = Str.empty → GoesR ss p h ss
  | move {ss r : List Str} {p h : Nat} : ss.getD h Str.empty ≠ Str.empty → goCond (ss.getD h Str.empty) p h → GoesR ((ss.set p (ss.getD h Str.empty)).set h Str.empty) h ((h + 1) % 7) r → GoesR ss p h r
  | on {ss r : List Str} {p h : Nat} : ss.getD h Str.empty ≠ Str.empty → ¬ goCond (ss.getD h Str.empty) p h → GoesR ss p ((h + 1) % 7) r → GoesR ss p h r
def dispW (i : Nat) (x : Str) : Nat := if x = Str.empty then 0 else (((i : Int) - homeF x) % 7).toNat
def disp : Nat → List Str → Nat
  | _, [] => 0
  | i, x :: r => dispW i x + disp (i + 1) r
theorem disp_set {x : Str} : ∀ (ss : List Str) (i j : Nat), j < ss.length → disp i (ss.set j x) + dispW (i + j) (ss.getD j Str.empty) = disp i ss + dispW (i + j) x
  | [], _, _, h => absurd h (Nat.not_lt_zero _)
  | y :: r, i, 0, _ => by
    show dispW i x + disp (i + 1) r + dispW i y = dispW i y + disp (i + 1) r + dispW i x
    omega
  | y :: r, i, j + 1, h => by
    have := disp_set (x := x) r (i + 1) j (Nat.lt_of_succ_lt_succ h)
    show dispW i y + disp (i + 1) (r.set j x) + dispW (i + (j + 1)) (r.getD j Str.empty) = dispW i y + disp (i + 1) r + dispW (i + (j + 1)) x
    rw [show i + (j + 1) = i + 1 + j by omega]
    omega
-- places round the ring, by going through them all
theorem ar_far : ∀ i, i < 7 → ∀ k, k < 7 → ∀ j, j < (i + 7 - k) % 7 → i = ((k + j) % 7 + ((i + 7 - k) % 7 - j)) % 7 ∧ (i + 7 - (k + j) % 7) % 7 ≤ (i + 7 - k) % 7 := by decide +kernel
theorem ar_next : ∀ p, p < 7 → ∀ d, d < 7 → 1 ≤ d → (p + d) % 7 ≠ p := by decide +kernel
theorem ar_back : ∀ p, p < 7 → ∀ d, d < 7 → ((p + d) % 7 + 7 - p) % 7 = d := by decide +kernel
theorem ar_near : ∀ p, p < 7 → ∀ h, h < 7 → ∀ k, k < 7 → p ≠ h → (h + 7 - p) % 7 ≤ (h + 7 - k) % 7 → (p + 7 - k) % 7 < (h + 7 - k) % 7 := by decide +kernel
theorem ar_off : ∀ p, p < 7 → ∀ k, k < 7 → ∀ j, j < (p + 7 - k) % 7 → p ≠ (k + j) % 7 := by decide +kernel
theorem ar_on : ∀ p, p < 7 → ∀ k, k < 7 → (p + 1) % 7 = (k + ((p + 7 - k) % 7 + 1)) % 7 := by decide +kernel
theorem ar_to : ∀ p, p < 7 → ∀ k, k < 7 → (k + (p + 7 - k) % 7) % 7 = p := by decide +kernel
theorem ar_int : ∀ a : Nat, a < 7 → ∀ b : Nat, b < 7 → ((a : Int) - (b : Int)) % 7 = (((a + 7 - b) % 7 : Nat) : Int) := by decide +kernel
theorem ar_le (k m : Nat) (hk : k < 7) : ((k + m) % 7 + 7 - k) % 7 ≤ m := by
  rw [← Nat.add_mod_mod, ar_back k hk _ (Nat.mod_lt _ (by decide))]
  exact Nat.mod_le _ _
def hm (x : Str) : Nat := (homeF x).toNat
theorem hm_lt (x : Str) : hm x < 7 := (Int.toNat_lt (home_range x).1).mpr (home_range x).2
theorem hm_int (x : Str) : ((hm x : Nat) : Int) = homeF x := Int.toNat_of_nonneg (home_range x).1
theorem goCond_nat {x : Str} {p h : Nat} (hp : p < 7) (hh : h < 7) : goCond x p h ↔ (h + 7 - p) % 7 ≤ (h + 7 - hm x) % 7 := by
  unfold goCond
  rw [← hm_int, ar_int h hh p hp, ar_int h hh _ (hm_lt x)]
  exact Int.ofNat_le
theorem lt_of_sums {a b c d e : Nat} (h1 : a + 0 = b + c) (h2 : d + e = a + 0) (h : c < e) : d < b := by omega
theorem disp_move {ss : List Str} {p h : Nat} (h7 : ss.length = 7) (hp : p < 7) (hh : h < 7) (hhole : ss.getD p Str.empty = Str.empty) (hne : ss.getD h Str.empty ≠ Str.empty) (hc : goCond (ss.getD h Str.empty) p h) :
    disp 0 ((ss.set p (ss.getD h Str.empty)).set h Str.empty) < disp 0 ss := by
  have hph : p ≠ h := fun e => hne (e ▸ hhole)
  have e1 := disp_set (x := ss.getD h Str.empty) ss 0 p (h7 ▸ hp)
  have e2 := disp_set (x := Str.empty) (ss.set p (ss.getD h Str.empty)) 0 h (by rw [List.length_set, h7]; exact hh)
  rw [getD_set_ne hph] at e2
  rw [hhole] at e1
  have w0 : ∀ i, dispW i Str.empty = 0 := fun i => if_pos rfl
  have w1 : ∀ i, i < 7 → dispW i (ss.getD h Str.empty) = (i + 7 - hm (ss.getD h Str.empty)) % 7 := fun i hi => by
    unfold dispW
    rw [if_neg hne, ← hm_int, ar_int i hi _ (hm_lt _)]
    exact Int.toNat_natCast _
  simp only [Nat.zero_add] at e1 e2
  rw [w0] at e1 e2
  rw [w1 p hp] at e1
  rw [w1 h hh] at e2
  exact lt_of_sums e1 e2 (ar_near p hp h hh _ (hm_lt _) hph ((goCond_nat hp hh).mp hc))
theorem goCond_of {x : Str} {p h : Int} (hp : 0 ≤ p) (hh : 0 ≤ h) (c : (h - p).fmod 7 ≤ (h - homeF x).fmod 7) : goCond x p.toNat h.toNat := by
  unfold goCond
  rw [Int.toNat_of_nonneg hp, Int.toNat_of_nonneg hh]
  rwa [Int.fmod_eq_emod_of_nonneg _ (by decide), Int.fmod_eq_emod_of_nonneg _ (by decide)] at c
theorem goCond_to {x : Str} {p h : Int} (hp : 0 ≤ p) (hh : 0 ≤ h) (c : goCond x p.toNat h.toNat) : (h - p).fmod 7 ≤ (h - homeF x).fmod 7 := by
  unfold goCond at c
  rw [Int.toNat_of_nonneg hp, Int.toNat_of_nonneg hh] at c
  rwa [Int.fmod_eq_emod_of_nonneg _ (by decide), Int.fmod_eq_emod_of_nonneg _ (by decide)]
def goesJ1 (R : Addr) (rest : List (Addr × Obj)) (c : Nat) (vs : List Value) (ss : List Str) (tgt : Nat) (n : Nat) (m : Str → Option Value) (nx : List (Addr × Obj)) : Prop :=
  ∃ (p : Int) (pt : Tok), nx = (R, listOf vs.toArray c) :: rest ∧ m (Str.ofString "place") = some (.int p pt) ∧ m (Str.ofString "ring") = some (.ref R) ∧
    0 ≤ p ∧ p < 7 ∧ ss.getD ((p.toNat + n) % 7) Str.empty ≠ Str.empty ∧ n < 7 ∧ firstGo n ss p.toNat = tgt
def goesJ2 (R : Addr) (rest : List (Addr × Obj)) (c : Nat) (tgt : List Str → Prop) (n : Nat) (m : Str → Option Value) (nx : List (Addr × Obj)) : Prop :=
  ∃ (vs : List Value) (ss : List Str) (p h : Int) (pt ht : Tok) (k : Nat), nx = (R, listOf vs.toArray c) :: rest ∧ StrsAre vs ss ∧ ss.length = 7 ∧ m (Str.ofString "here") = some (.int h ht) ∧ m (Str.ofString "place") = some (.int p pt) ∧ m (Str.ofString "ring") = some (.ref R) ∧
    0 ≤ p ∧ p < 7 ∧ 0 ≤ h ∧ h < 7 ∧ ss.getD p.toNat Str.empty = Str.empty ∧ (∀ x ∈ ss, x ≠ Str.empty → KeyOk x) ∧ k < 7 ∧ ss.getD ((h.toNat + k) % 7) Str.empty = Str.empty ∧ n = 7 * disp 0 ss + k ∧ ∀ r, GoesR ss p.toNat h.toNat r → tgt r
theorem m2 {m : Str → Option Value} {a b : Str} {va vb : Value} (h1 : m a = some va) (h2 : m b = some vb) : m = fun y => if y = a then some va else if y = b then some vb else m y := by
  funext y
  by_cases e1 : y = a
  · rw [if_pos e1, e1, h1]
  by_cases e2 : y = b
  · rw [if_neg e1, if_pos e2, e2, h2]
  rw [if_neg e1, if_neg e2]
theorem goes_K {w : World} {mean : ExcName → Option Value} {mg mb : Str → Option Value} {rest : List (Addr × Obj)} {R : Addr} {vs : List Value} {ss : List Str} {c : Nat} (p : Int) (t : Tok) (n : Nat) (hS : StrsAre vs ss) (h7 : ss.length = 7)
    (hR : ∀ p ∈ rest, p.1 ≠ R) (hp0 : 0 ≤ p) (hp7 : p < 7) (hn : n < 7) (he : ss.getD ((p.toNat + n) % 7) Str.empty ≠ Str.empty) (hall : ∀ x ∈ ss, x ≠ Str.empty → KeyOk x) :
    Ct w mean mg mb 6 117 [.ref R, .int p t] ((R, listOf vs.toArray c) :: rest) (fun v nx => v = .none ∧ ∃ vs' ss', nx = (R, listOf vs'.toArray c) :: rest ∧ StrsAre vs' ss' ∧ GoesR (ss.set (firstGo n ss p.toNat) Str.empty) (firstGo n ss p.toNat) ((firstGo n ss p.toNat + 1) % 7) ss') := by
  w_top off
  intro dp un gd cn cs a ccd cl outer A₀ base h₀ L m s Q E B F X N T hk hdp hu hret
  refine wpAny_call ?_
  k_dflt ktr_enter
  (repeat' (first | ((with_reducible show wpAny _ _ _ _ _ (Shared.mk _ _ _ (_ + 1 + 1 + 1) _)); refine' gen_toks ?_; intro _) | (k_unfold; (try dsimp only)) | (k_end; wrow_close) | walk1 | (dsimp only; walk1) | (leave1; walk_say "STEP leave1"; try dsimp only) | fail "no step"))
  unfold Stop
  rename Fr _ _ _ _ => kF
  rename News _ _ _ _ => kN
  k_dflt (refine' While_inv2 (goesJ1 R rest c vs ss (firstGo n ss p.toNat)) (n₀ := n) kF kN ?hJ ?turn ?hE)
  case hJ => exact ⟨p, _, rfl, rfl, rfl, hp0, hp7, he, hn, rfl⟩
  case hE => passes_own
  case turn =>
    clear kF kN
    rintro n₁ m₁ nx₁ h₁ tk₁ F₁ N₁ ⟨p₁, pt₁, rfl, mp, mr, p0, p7, he₁, hn₁, ht₁⟩
    rw [m2 mp mr] at F₁
    have hl₁ : vs.length = 7 := by rw [hS.length]; exact h7
    (try k_unmd)
    (try k_fold)
    (repeat' (first | ((with_reducible show wpAny _ _ _ _ _ (Shared.mk _ _ _ (_ + 1 + 1 + 1) _)); refine' gen_toks ?_; intro _) | ((with_reducible show wpAny _ _ (setItem (Value.ref _) (Value.int _ _) _) _ _ _); k_dflt (refine' mset ?k1 ?k2 ?k3 ?k5 ?k6 ?k7 ?_; (case k1 => k_asm); (case k2 => k_asm); (case k3 => k_upd); (case k5 => omega); (case k6 => first | omega | (simp only [List.length_set]; omega)); (case k7 => omega); k_whole); intro h' F' N'; (try k_sweep)) | ((with_reducible show wpAny _ _ (subscriptTail _ _ (Value.ref _) (Value.int _ _)) _ _ _); k_dflt (refine' mget ?k1 ?k2 ?k3 ?k4 ?k5 ?k6 ?_ ?k7 ?k8; (case k1 => k_asm); (case k2 => k_mem); (case k3 => with_reducible assumption); (case k4 => omega); (case k5 => omega); (case k6 => omega); ((case k7 => with_unfolding_all rfl); (case k8 => (intro _; with_unfolding_all rfl))); k_whole); intro _) | (k_unfold; (try dsimp only)) | (k_end; wrow_close) | walk1 | (dsimp only; walk1) | (leave1; walk_say "STEP leave1"; try dsimp only) | fail "no step"))
    · rename _ = true => hne
      have hne2 : ss.getD p₁.toNat Str.empty = Str.empty := emp_eq (by simpa using hne)
      have h0 : n₁ ≠ 0 := fun e => by subst e; rw [Nat.add_zero, Nat.mod_eq_of_lt (by omega)] at he₁; exact he₁ hne2
      have e1 := toNat_next p0 p7
      refine ⟨_, _, _, (R, listOf vs.toArray c) :: rest, n₁ - 1, rfl, (by k_asm), (by k_asm), (by omega), _, _, rfl, rfl, rfl, next_range.1, next_range.2, ?_, (by omega), ?_⟩
      · rw [e1, hole_next h0]; exact he₁
      · rw [e1, ← ht₁]
        obtain ⟨k, rfl⟩ := Nat.exists_eq_succ_of_ne_zero h0
        conv => rhs; rw [firstGo, if_pos hne2]
        rfl
    · rename _ = false => hne
      have hne2 : ss.getD p₁.toNat Str.empty ≠ Str.empty := emp_ne (by simpa using hne)
      have hq : firstGo n ss p.toNat = p₁.toNat := by
        rw [← ht₁]
        cases n₁ with
        | zero => rfl
        | succ k => rw [firstGo, if_neg hne2]
      rw [hq] at hret
      clear ht₁ hq
      have e1 := toNat_next p0 p7
      unfold Stop
      rename Fr _ _ _ _ => kF
      rename News _ _ _ _ => kN
      k_dflt (refine' While_inv2 (goesJ2 R rest c (GoesR (ss.set p₁.toNat Str.empty) p₁.toNat ((p₁.toNat + 1) % 7))) (n₀ := 7 * disp 0 (ss.set p₁.toNat Str.empty) + 6) kF kN ?hJ ?turn ?hE)
      case hE => passes_own
      case hJ =>
        refine ⟨_, ss.set p₁.toNat Str.empty, p₁, _, _, _, 6, rfl, strs_set (by assumption) _, by rw [List.length_set]; exact h7, rfl, rfl, rfl, p0, p7, next_range.1, next_range.2, ?_, ?_, by omega, ?_, rfl, ?_⟩
        · simp [h7, show p₁.toNat < 7 by omega]
        · intro x hx hx0
          rcases List.mem_or_eq_of_mem_set hx with h | h
          · exact hall x h hx0
          · exact absurd h hx0
        · rw [e1, show ((p₁.toNat + 1) % 7 + 6) % 7 = p₁.toNat by omega]
          simp [h7, show p₁.toNat < 7 by omega]
        · rw [e1]; exact fun r hr => hr
      case turn =>
        clear kF kN
        rintro n₂ m₂ nx₂ h₂ tk₂ F₂ N₂ ⟨vs₂, ss₂, p₂, h₂i, pt₂, ht₂, k₂, rfl, hS₂, h7₂, mh, mp₂, mr₂, q0, q7, g0, g7, hole₂, hall₂, hk₂, he₂, hn₂, ht₂'⟩
        rw [m3 mh mp₂ mr₂] at F₂
        have hl₂ : vs₂.length = 7 := by rw [hS₂.length]; exact h7₂
        (try k_unmd)
        (try k_fold)
        (repeat' (first | ((with_reducible show wpAny _ _ _ _ _ (Shared.mk _ _ _ (_ + 1 + 1 + 1) _)); refine' gen_toks ?_; intro _) | ((with_reducible show wpAny _ _ (call (Value.ref 103) _) _ _ _); k_dflt (refine' Ct.use (start_K _ _ ?hx) ?k1 ?k2 ?k3 ?k4 ?k5 ?kK ?kd ?ku ?_; (case hx => exact keyAt (by assumption) (by assumption)); ((case k1 => k_asm); (case k2 => k_asm); (case k3 => k_asm); (case k4 => k_asm); (case k5 => k_asm); (case kK => first | exact rfl | assumption); (case kd => ktr_room); (case ku => ktr_units))); intro v' nx' h' tk' hR' F' N'; obtain ⟨e', t', e2'⟩ := hR'; subst e'; subst e2'; (try dsimp only); (try k_fold)) | ((with_reducible show wpAny _ _ (setItem (Value.ref _) (Value.int _ _) _) _ _ _); k_dflt (refine' mset ?k1 ?k2 ?k3 ?k5 ?k6 ?k7 ?_; (case k1 => k_asm); (case k2 => k_asm); (case k3 => k_upd); (case k5 => omega); (case k6 => first | omega | (simp only [List.length_set]; omega)); (case k7 => omega); k_whole); intro h' F' N'; (try k_sweep)) | ((with_reducible show wpAny _ _ (subscriptTail _ _ (Value.ref _) (Value.int _ _)) _ _ _); k_dflt (refine' mget ?k1 ?k2 ?k3 ?k4 ?k5 ?k6 ?_ ?k7 ?k8; (case k1 => k_asm); (case k2 => k_mem); (case k3 => with_reducible assumption); (case k4 => omega); (case k5 => omega); (case k6 => omega); ((case k7 => with_unfolding_all rfl); (case k8 => (intro _; with_unfolding_all rfl))); k_whole); intro _) | (k_unfold; (try dsimp only)) | (k_end; wrow_close) | walk1 | (dsimp only; walk1) | (leave1; walk_say "STEP leave1"; try dsimp only) | fail "no step"))
        · rename _ ≥ _ => hcd
          rename _ = true => hne
          have hne2 := emp_ne hne
          have hcd2 := goCond_of q0 g0 hcd
          have hd := disp_move h7₂ (p := p₂.toNat) (h := h₂i.toNat) (by omega) (by omega) hole₂ hne2 hcd2
          have e2 := toNat_next g0 g7
          rename Fr _ _ _ _ => kF
          rename News _ _ _ _ => kN
          refine ⟨_, _, _, _, 7 * disp 0 ((ss₂.set p₂.toNat (ss₂.getD h₂i.toNat Str.empty)).set h₂i.toNat Str.empty) + 6, rfl, kF, news_drop (news := (R, listOf _ c) :: rest) kN (fun _ h => .tail _ h), by omega,
            _, (ss₂.set p₂.toNat (ss₂.getD h₂i.toNat Str.empty)).set h₂i.toNat Str.empty, h₂i, _, _, _, 6, rfl, strs_set (strs_set (by assumption) _) _, by rw [List.length_set, List.length_set]; exact h7₂, rfl, rfl, rfl, g0, g7, next_range.1, next_range.2, ?_, ?_, by omega, ?_, rfl, ?_⟩
          · simp [h7₂, show h₂i.toNat < 7 by omega]
          · intro x hx hx0
            rcases List.mem_or_eq_of_mem_set hx with h | h
            · rcases List.mem_or_eq_of_mem_set h with h | h
              · exact hall₂ x h hx0
              · rw [h]; exact keyAt hall₂ hne
            · exact absurd h hx0
          · rw [e2, show ((h₂i.toNat + 1) % 7 + 6) % 7 = h₂i.toNat by omega]
            simp [h7₂, show h₂i.toNat < 7 by omega]
          · rw [e2]; exact fun r hr => ht₂' r (.move hne2 hcd2 hr)
        · rename ¬ _ => hcd
          rename _ = true => hne
          have hne2 := emp_ne hne
          have hcd2 : ¬ goCond (ss₂.getD h₂i.toNat Str.empty) p₂.toNat h₂i.toNat := fun x => hcd (goCond_to q0 g0 x)
          have e2 := toNat_next g0 g7
          have h0 := hole_pos (p := h₂i.toNat) (by omega) he₂ hne2
          refine ⟨_, _, _, (R, listOf vs₂.toArray c) :: rest, 7 * disp 0 ss₂ + (k₂ - 1), rfl, (by k_asm), (by k_asm), by omega, vs₂, ss₂, p₂, _, _, _, k₂ - 1, rfl, (by assumption), h7₂, rfl, rfl, rfl, q0, q7, next_range.1, next_range.2, hole₂, hall₂, by omega, ?_, rfl, ?_⟩
          · rw [e2, hole_next h0]; exact he₂
          · rw [e2]; exact fun r hr => ht₂' r (.on hne2 hcd2 hr)
        · rename _ = false => hne
          have hne2 := emp_eq hne
          exact hret _ _ _ _ ⟨rfl, _, _, rfl, (by assumption), ht₂' _ (.stop hne2)⟩ (by k_asm) (by k_asm)
/-- a client as data: its row's codes, its place -/
def codesD (k : Str) : List Dat := k.cps.toList.map fun c : Nat => Dat.int (c : Int)
def clD (k : Str) : Dat := .list [.list (codesD k), .int (homeF k)]
def dueD (k : Str) : Dat := if k = Str.empty then .list [] else clD k
theorem codes_ok (n : Nat) (k : Str) : ∀ d ∈ codesD k, kqdOk n d = true := by
  intro d hd
  obtain ⟨c, _, rfl⟩ := List.mem_map.mp hd
  cases n <;> rfl
theorem cl_ok (k : Str) : kqdOk 8 (clD k) = true := by
  have h := codes_ok 6 k
  simp only [clD, kqdOk, List.all_cons, List.all_nil, Bool.and_true, List.all_eq_true]
  exact h
theorem due_list (k : Str) : ∃ ds, dueD k = .list ds ∧ (∀ d ∈ ds, kqdOk 8 d = true) ∧ (ds = [] ↔ k = Str.empty) := by
  unfold dueD
  by_cases h : k = Str.empty
  · rw [if_pos h]; exact ⟨[], rfl, (fun _ h => nomatch h), by simp [h]⟩
  · rw [if_neg h]
    refine ⟨_, rfl, ?_, by simp [h]⟩
    intro d hd
    simp only [List.mem_cons, List.not_mem_nil, or_false] at hd
    rcases hd with rfl | rfl
    · have := codes_ok 7 k
      simp only [kqdOk, List.all_eq_true]
      exact this
    · rfl
theorem due_ref {news : List (Addr × Obj)} {v : Value} {k : Str} (h : DatIn news v (dueD k)) : ∃ a, v = .ref a := by
  obtain ⟨ds, e, _⟩ := due_list k
  rw [e] at h
  cases h
  exact ⟨_, rfl⟩
theorem cl_ref {news : List (Addr × Obj)} {v : Value} {k : Str} (h : DatIn news v (clD k)) : ∃ a, v = .ref a := by
  cases h
  exact ⟨_, rfl⟩
theorem all_map_get {news : List (Addr × Obj)} {vs : List Value} {f : Str → Dat} {ks : List Str} (h : DatAll news vs (ks.map f)) {i : Nat} (hi : i < ks.length) : ∃ v, vs[i]? = some v ∧ DatIn news v (f (ks.getD i Str.empty)) := by
  obtain ⟨v, hv, hd⟩ := h.get (k := i) (by simpa using hi)
  refine ⟨v, hv, ?_⟩
  simpa [hi] using hd
section
variable {prog : Program} {w : World} {A : Around} {E : Value → Shared → Prop} {s : Shared} {h₀ : Heap} {L D a b : Addr} {m : Str → Option Value} {news news' n₁ : List (Addr × Obj)} {vs : List Value} {ks : List Str} {n : Nat} {k : Int} {t u : Tok} {v : Value} {i : Nat}
theorem dget {value slice : PySem.Expr} {Q : Value → Shared → Prop} (N : News h₀ L s.heap news) (hm : (D, listOf vs.toArray n) ∈ news) (hD : DatAll n₁ vs (ks.map dueD)) (h0 : 0 ≤ k) (h1 : k < ks.length) (hfit : k < 2 ^ 63) (h : ∀ a, vs[k.toNat]? = some (.ref a) → Q (.ref a) s)
    (hs : ∀ a, subscripted slice false (.ref a) (.int k u) = operate [.ref a, .int k u] (getItem (.ref a) (.int k u)) := by intro _; with_unfolding_all rfl) (hg : ∀ a r, letTemporaryGo value (.ref a) r = pure () := by intro _ _; with_unfolding_all rfl) :
    wpAny (model prog w) A (subscriptTail value slice (.ref D) (.int k u)) Q E s := by
  have hj : k.toNat < ks.length := by omega
  obtain ⟨v, hv, hd⟩ := all_map_get hD hj
  obtain ⟨a, rfl⟩ := due_ref hd
  exact kim_list N hm rfl rfl h0 hfit hv (h a hv) (hs _) (hg _)
theorem cmp_nil {Q : Value → Shared → Prop} {oz : Obj} (N : News h₀ L s.heap news) (hD : DatAll n₁ vs (ks.map dueD)) (hv : vs[i]? = some (.ref a)) (hi : i < ks.length) (hs : ∀ p ∈ n₁, p ∈ news) (mb : (b, oz) ∈ news) (cb : oz.cls = .type "list") (db : oz.data = .seq ([] : List Value).toArray n) (hu : A.units + 64 < cLine)
    (h : Q (.bool (decide (ks.getD i Str.empty = Str.empty))) s) : wpAny (model prog w) A (compareOp .Eq (.ref a) (.ref b)) Q E s := by
  obtain ⟨v, hv', hd⟩ := all_map_get hD hi
  rw [hv] at hv'; cases hv'
  obtain ⟨ds, e, ok, iff⟩ := due_list (ks.getD i Str.empty)
  rw [e] at hd
  cases hd with
  | list hm r =>
    refine kqd_eq (n₂ := []) (es := []) N (hs _ hm) rfl rfl r hs mb cb db .nil (fun _ h => nomatch h) ok (fun _ h => nomatch h) hu ?_
    have e3 : ∀ [inst : Decidable (ds = [])], @decide (ds = []) inst = decide (ks.getD i Str.empty = Str.empty) := by intro inst; rw [Bool.eq_iff_iff]; simp [iff]
    rw [e3]; exact h
theorem cmp_nnil {Q : Value → Shared → Prop} {oz : Obj} (N : News h₀ L s.heap news) (hD : DatAll n₁ vs (ks.map dueD)) (hv : vs[i]? = some (.ref a)) (hi : i < ks.length) (hs : ∀ p ∈ n₁, p ∈ news) (mb : (b, oz) ∈ news) (cb : oz.cls = .type "list") (db : oz.data = .seq ([] : List Value).toArray n) (hu : A.units + 64 < cLine)
    (h : Q (.bool (!decide (ks.getD i Str.empty = Str.empty))) s) : wpAny (model prog w) A (compareOp .NotEq (.ref a) (.ref b)) Q E s := by
  obtain ⟨v, hv', hd⟩ := all_map_get hD hi
  rw [hv] at hv'; cases hv'
  obtain ⟨ds, e, ok, iff⟩ := due_list (ks.getD i Str.empty)
  rw [e] at hd
  cases hd with
  | list hm r =>
    refine kqd_ne (n₂ := []) (es := []) N (hs _ hm) rfl rfl r hs mb cb db .nil (fun _ h => nomatch h) ok (fun _ h => nomatch h) hu ?_
    have e3 : ∀ [inst : Decidable (ds = [])], @decide (ds = []) inst = decide (ks.getD i Str.empty = Str.empty) := by intro inst; rw [Bool.eq_iff_iff]; simp [iff]
    rw [e3]; exact h
end
def firstJ (D : Addr) (news : List (Addr × Obj)) (ks : List Str) (tgt : Nat) (n : Nat) (m : Str → Option Value) (nx : List (Addr × Obj)) : Prop :=
  ∃ (p : Int) (pt : Tok), nx = news ∧ m (Str.ofString "place") = some (.int p pt) ∧ m (Str.ofString "due") = some (.ref D) ∧
    0 ≤ p ∧ p < 7 ∧ ks.getD ((p.toNat + n) % 7) Str.empty ≠ Str.empty ∧ n < 7 ∧ firstGo n ks p.toNat = tgt
theorem first_K {w : World} {mean : ExcName → Option Value} {mg mb : Str → Option Value} {news : List (Addr × Obj)} {D : Addr} {vs : List Value} {ks : List Str} {c : Nat} (p : Int) (t : Tok) (n : Nat) (hm : (D, listOf vs.toArray c) ∈ news) (hD : DatAll news vs (ks.map dueD)) (h7 : ks.length = 7)
    (hp0 : 0 ≤ p) (hp7 : p < 7) (hn : n < 7) (he : ks.getD ((p.toNat + n) % 7) Str.empty ≠ Str.empty) :
    Ct w mean mg mb 3 129 [.ref D, .int p t] news (fun v nx => nx = news ∧ vs[firstGo n ks p.toNat]? = some v ∧ ∃ a, v = .ref a) := by
  w_top off
  intro dp un gd cn cs a ccd cl outer A₀ base h₀ L m s Q E B F X N T hk hdp hu hret
  refine wpAny_call ?_
  k_dflt ktr_enter
  k_steps
  unfold Stop
  rename Fr _ _ _ _ => kF
  rename News _ _ _ _ => kN
  k_dflt (refine' While_inv2 (firstJ D news ks (firstGo n ks p.toNat)) (n₀ := n) kF kN ?hJ ?turn ?hE)
  case hJ => exact ⟨p, _, rfl, rfl, rfl, hp0, hp7, he, hn, rfl⟩
  case hE => passes_own
  case turn =>
    clear kF kN
    rintro n₁ m₁ nx₁ h₁ tk₁ F₁ N₁ ⟨p₁, pt₁, rfl, mp, mr, p0, p7, he₁, hn₁, ht₁⟩
    rw [m2 mp mr] at F₁
    (try k_unmd)
    (try k_fold)
    (repeat' (first | ((with_reducible show wpAny _ _ (compareOp CmpOp.Eq (Value.ref _) (Value.ref _)) _ _ _); k_dflt (refine' cmp_nil ?k1 ?k2 ?k3 ?k4 ?k5 ?k6 ?k7 ?k8 ?k9 ?_; (case k1 => k_asm); (case k2 => with_reducible assumption); (case k3 => with_reducible assumption); (case k5 => (first | (intro p9 h9; simp only [List.mem_cons, List.mem_append] at h9 ⊢; first | (simp [h9]; done) | (rcases h9 with h9 | h9 <;> simp [h9]; done) | (rcases h9 with h9 | h9 | h9 <;> simp [h9]; done)) | kqd_sub)); (case k6 => k_mem); (case k7 => exact rfl); (case k8 => exact rfl); (case k4 => omega); (case k9 => ktr_units); k_whole)) | ((with_reducible show wpAny _ _ (subscriptTail _ _ (Value.ref _) (Value.int _ _)) _ _ _); k_dflt (refine' dget ?k1 ?k2 ?k3 ?k4 ?k5 ?k6 ?_ ?k7 ?k8; (case k1 => k_asm); (case k3 => with_reducible assumption); (case k2 => first | k_mem | assumption | exact List.mem_cons_of_mem _ (by assumption) | exact List.mem_cons_of_mem _ (List.mem_cons_of_mem _ (by assumption))); (case k4 => omega); (case k5 => omega); (case k6 => omega); (case k7 => (intro _; with_unfolding_all rfl)); (case k8 => (intro _ _; with_unfolding_all rfl)); k_whole); intro _ _) | (k_unfold; (try dsimp only)) | (k_end; wrow_close) | walk1 | (dsimp only; walk1) | (leave1; walk_say "STEP leave1"; try dsimp only) | fail "no step"))
    · rename ks.getD p₁.toNat Str.empty = Str.empty => hne2
      have h0 : n₁ ≠ 0 := fun e => by subst e; rw [Nat.add_zero, Nat.mod_eq_of_lt (by omega)] at he₁; exact he₁ hne2
      have e1 := toNat_next p0 p7
      refine ⟨_, _, _, _, n₁ - 1, rfl, (by k_asm), news_drop (by k_asm) (fun _ h => .tail _ h), (by omega), _, _, rfl, rfl, rfl, next_range.1, next_range.2, ?_, (by omega), ?_⟩
      · rw [e1, hole_next h0]; exact he₁
      · rw [e1, ← ht₁]
        obtain ⟨k, rfl⟩ := Nat.exists_eq_succ_of_ne_zero h0
        conv => rhs; rw [firstGo, if_pos hne2]
        rfl
    · rename ¬ (ks.getD p₁.toNat Str.empty = Str.empty) => hne2
      rename vs[p₁.toNat]? = some _ => hv
      have hq : firstGo n ks p.toNat = p₁.toNat := by
        rw [← ht₁]
        cases n₁ with
        | zero => rfl
        | succ k => rw [firstGo, if_neg hne2]
      refine hret _ _ _ _ ⟨rfl, ?_, _, rfl⟩ (by k_asm) (news_drop (by k_asm) (fun _ h => .tail _ h))
      rw [hq]; exact hv
-- the order of two lists: list.__lt__
section
open PySem.SeqAt PySem.MeetsSeq PySem.MeetsSeq2 PySem.MeetsSeq3
open PySem.AutoSeq1 (wpAny_loadPart')
def LtAt (A : Around) (s : Shared) (y x : Value) (b : Bool) : Prop :=
  ∀ (prog : Program) (w : World) (E : Value → Shared → Prop) (Q : Value → Shared → Prop), Q (.bool b) s → wpAny (model prog w) A (richCompare .Lt y x) Q E s
def lexB (e f : Nat → Bool) (m1 m2 : Nat) : Nat → Nat → Bool
  | 0, _ => decide (m1 < m2)
  | k + 1, i => if e i = true then lexB e f m1 m2 k (i + 1) else f i
theorem lt_loopAt (l b : Addr) (items items2 : Array Value) (n n2 : Nat) (dd dd2 : Option Addr) (sl sl2 : Array (Option Value)) (e f : Nat → Bool) (k : Nat) :
    ∀ i : Nat, min items.size items2.size - i = k → Meets (Builtin.«list.__eq__.loop» ⟨[.ref l, .ref b, rawInt i, rawInt 0], []⟩)
      (fun A R s => s.heap.get? l = some { cls := .type "list", dict := dd, data := .seq items n, slots := sl } ∧ s.heap.get? b = some { cls := .type "list", dict := dd2, data := .seq items2 n2, slots := sl2 } ∧
        (∀ j (h1 : j < items.size) (h2 : j < items2.size), EqAt A.in1 s items[j] items2[j] (e j)) ∧ (∀ j (h1 : j < items.size) (h2 : j < items2.size), LtAt A.in1 s items[j] items2[j] (f j)) ∧
        R (.ok (.ret (.bool (lexB e f items.size items2.size k i)))) s) := by
  induction k with
  | zero =>
    intro i hk prog w A R s h
    obtain ⟨hp, g, d, tk, os⟩ := s; obtain ⟨hl, hb, he, hf, h⟩ := h
    wp_walk using wpAny_loadPart' hl, wpAny_loadPart' hb
    have hi : (items[((i : Nat) : Int).toNat]? = none) ∨ (items2[((i : Nat) : Int).toNat]? = none) := by
      rcases Nat.le_or_le items.size items2.size with q | q
      · left; simp; omega
      · right; simp; omega
    have fin : wpAny (model prog w) A.in1 (do ret (.bool (decide ((← Builtin.List.listItems (.ref l)).size < (← Builtin.List.listItems (.ref b)).size)))) (fun fin s' => match fin with | .done f => R (.ok f) s' | .again c' => c'.quiet = true ∧ codeAny (model prog w) A c' R s') (fun e s' => R (.error e) s') ⟨hp, g, d, tk, os⟩ := by
      wp_walk using wpAny_loadPart' hl, wpAny_loadPart' hb
      exact h
    rcases hi with hi | hi
    · rw [hi]
      exact fin
    · cases hx : items[((i : Nat) : Int).toNat]? with
      | none => exact fin
      | some x => rw [hi]; exact fin
  | succ k ih =>
    intro i hk prog w A R s h
    obtain ⟨hp, g, d, tk, os⟩ := s; obtain ⟨hl, hb, he, hf, h⟩ := h
    wp_walk using wpAny_loadPart' hl, wpAny_loadPart' hb
    have hlt : i < items.size := by omega
    have hlt2 : i < items2.size := by omega
    have hi1 : items[((i : Nat) : Int).toNat]? = some items[i] := by simp [hlt]
    have hi2 : items2[((i : Nat) : Int).toNat]? = some items2[i] := by simp [hlt2]
    have hc : ((i : Int) + 1) = ((i + 1 : Nat) : Int) := by push_cast; rfl
    rw [lexB] at h
    rw [hi1, hi2]
    refine wpAny_bind (he i hlt hlt2 prog w _ _ ?_)
    cases hb' : e i with
    | true =>
      rw [hb', if_pos rfl] at h
      wp_walk
      rw [hc]
      exact ⟨plainId_quiet plain_eq_loop _, codeAny_builtin entry_eq_loop (by
        rw [Around.under_plainId plain_eq_loop _]
        exact ih (i + 1) (by omega) prog w A R _ ⟨hl, hb, he, hf, h⟩)⟩
    | false =>
      rw [hb', if_neg (by simp)] at h
      wp_walk using wpAny_loadPart' hl, wpAny_loadPart' hb
      rw [hi1, hi2]
      refine wpAny_bind (hf i hlt hlt2 prog w _ _ ?_)
      wp_walk
      exact h
theorem list_ltAt (l b : Addr) (items items2 : Array Value) (n n2 : Nat) (dd dd2 : Option Addr) (sl sl2 : Array (Option Value)) (e f : Nat → Bool) :
    Meets (Builtin.«list.__lt__» ⟨[.ref l, .ref b], []⟩)
      (fun A R s => s.heap.get? l = some { cls := .type "list", dict := dd, data := .seq items n, slots := sl } ∧ s.heap.get? b = some { cls := .type "list", dict := dd2, data := .seq items2 n2, slots := sl2 } ∧
        (∀ j (h1 : j < items.size) (h2 : j < items2.size), EqAt A.in1 s items[j] items2[j] (e j)) ∧ (∀ j (h1 : j < items.size) (h2 : j < items2.size), LtAt A.in1 s items[j] items2[j] (f j)) ∧
        R (.ok (.ret (.bool (lexB e f items.size items2.size (min items.size items2.size) 0)))) s) := by
  intro prog w A R s h
  obtain ⟨hp, g, d, tk, os⟩ := s; obtain ⟨hl, hb, he, hf, h⟩ := h
  have f3 := AutoSeq1.sub_list_list
  wp_walk using wpAny_loadPart' hl, wpAny_loadPart' hb
  exact ⟨plainId_quiet plain_eq_loop _, codeAny_builtin entry_eq_loop (by
    rw [Around.under_plainId plain_eq_loop _]
    exact lt_loopAt l b items items2 n n2 dd dd2 sl sl2 e f _ 0 rfl prog w A R _ ⟨hl, hb, he, hf, h⟩)⟩
end
-- two clients' order
section
open PySem.SeqAt PySem.MeetsSeq
theorem lex_drop (l1 l2 : List Nat) : ∀ k i, i ≤ min l1.length l2.length → min l1.length l2.length - i = k →
    lexB (fun j => decide (l1.getD j 0 = l2.getD j 0)) (fun j => decide (l1.getD j 0 < l2.getD j 0)) l1.length l2.length k i = decide (l1.drop i < l2.drop i)
  | 0, i, hi, hk => by
    rw [lexB]
    have e : i = l1.length ∨ i = l2.length := by omega
    rcases Nat.lt_or_ge l1.length l2.length with q | q
    · have ei : i = l1.length := by omega
      subst ei
      rw [List.drop_length, decide_eq_true q]
      cases h : l2.drop l1.length with
      | nil => have := congrArg List.length h; simp at this; omega
      | cons x r => simp
    · have ei : i = l2.length := by omega
      subst ei
      rw [List.drop_length, decide_eq_false (by omega)]
      simp
  | k + 1, i, hi, hk => by
    have h1 : i < l1.length := by omega
    have h2 : i < l2.length := by omega
    rw [lexB, List.drop_eq_getElem_cons h1, List.drop_eq_getElem_cons h2]
    have g1 : l1.getD i 0 = l1[i] := by simp [h1]
    have g2 : l2.getD i 0 = l2[i] := by simp [h2]
    rw [g1, g2]
    by_cases q : l1[i] = l2[i]
    · rw [if_pos (by simpa using q), lex_drop l1 l2 k (i + 1) (by omega) (by omega)]
      rw [Bool.eq_iff_iff, decide_eq_true_eq, decide_eq_true_eq, List.cons_lt_cons_iff]
      simp only [q, Nat.lt_irrefl, true_and, false_or]
    · rw [if_neg (by simpa using q)]
      rw [Bool.eq_iff_iff, decide_eq_true_eq, decide_eq_true_eq, List.cons_lt_cons_iff]
      simp only [q, false_and, or_false]
theorem beq_cast (x y : Nat) : (((x : Nat) : Int) == ((y : Nat) : Int)) = decide (x = y) := by
  rw [Bool.eq_iff_iff, beq_iff_eq, decide_eq_true_eq]; omega
theorem lt_cast (x y : Nat) : decide (((x : Nat) : Int) < ((y : Nat) : Int)) = decide (x < y) := by
  rw [Bool.eq_iff_iff, decide_eq_true_eq, decide_eq_true_eq]; omega
theorem lt_intAt (A : Around) (s : Shared) (a b : Int) (t u : Tok) : LtAt A s (.int a t) (.int b u) (decide (a < b)) := fun _ _ _ _ h => lt_int (by exact h)
theorem codes_at {news : List (Addr × Obj)} {vs : List Value} {k : Str} (h : DatAll news vs (codesD k)) (j : Nat) (hj : j < vs.length) : ∃ t, vs[j] = .int (k.cps.toList.getD j 0 : Nat) t := by
  have hl := h.length
  have hj2 : j < (codesD k).length := by omega
  obtain ⟨v, hv, hd⟩ := h.get hj2
  have e : vs[j] = v := by rw [List.getElem?_eq_getElem hj] at hv; exact Option.some.inj hv
  have hj3 : j < k.cps.toList.length := by simpa [codesD] using hj2
  have e2 : (codesD k)[j] = Dat.int (k.cps.toList.getD j 0 : Nat) := by simp only [codesD, List.getElem_map]; congr 2; simp at hj3; simp [hj3]
  rw [e2] at hd
  rw [e]
  cases hd
  exact ⟨_, rfl⟩
theorem codes_lt {h₀ : Heap} {L a b : Addr} {s : Shared} {news : List (Addr × Obj)} {A : Around} {k1 k2 : Str} (N : News h₀ L s.heap news) (h1 : DatIn news (.ref a) (.list (codesD k1))) (h2 : DatIn news (.ref b) (.list (codesD k2))) (hu : A.units + 2 < cLine) :
    LtAt A s (.ref a) (.ref b) (decide (k1.cps.toList < k2.cps.toList)) := by
  intro prog w E Q hq
  cases h1 with
  | list m1 r1 =>
    cases h2 with
    | list m2 r2 =>
      rename_i vs n vs2 n2
      have l1 : vs.length = k1.cps.toList.length := by rw [r1.length]; simp [codesD]
      have l2 : vs2.length = k2.cps.toList.length := by rw [r2.length]; simp [codesD]
      refine richCompare_meets_room (op := .Lt) ⟨_, N.get m1, rfl⟩ ⟨_, N.get m2, rfl⟩ F.slot_list_lt F.entry_list_lt (F.args_list_lt_2 _ _)
        (list_ltAt a b vs.toArray vs2.toArray n n2 none none #[] #[] (fun j => decide (k1.cps.toList.getD j 0 = k2.cps.toList.getD j 0)) (fun j => decide (k1.cps.toList.getD j 0 < k2.cps.toList.getD j 0)))
        ⟨N.get m1, N.get m2, ?_, ?_, ⟨nofun, ?_⟩⟩ (by omega)
      · intro j h1 h2
        obtain ⟨t, e1⟩ := codes_at r1 j (by simpa using h1)
        obtain ⟨u, e2⟩ := codes_at r2 j (by simpa using h2)
        simp only [List.getElem_toArray]
        rw [e1, e2]
        rw [← beq_cast]
        exact (EqGives.int _ _ t u).at _ s
      · intro j h1 h2
        obtain ⟨t, e1⟩ := codes_at r1 j (by simpa using h1)
        obtain ⟨u, e2⟩ := codes_at r2 j (by simpa using h2)
        simp only [List.getElem_toArray]
        rw [e1, e2]
        rw [← lt_cast]
        exact lt_intAt A.in1 s _ _ t u
      · have := lex_drop k1.cps.toList k2.cps.toList (min k1.cps.toList.length k2.cps.toList.length) 0 (Nat.zero_le _) rfl
        simp only [List.size_toArray, l1, l2]
        rw [this, List.drop_zero, List.drop_zero]
        exact hq
theorem codes_inj {k1 k2 : Str} (h : codesD k1 = codesD k2) : k1 = k2 := by
  have e : k1.cps.toList = k2.cps.toList := by
    unfold codesD at h
    exact (List.map_inj_right (fun a b q => by have := Dat.int.inj q; omega)).mp h
  cases k1; cases k2
  simp only [PySem.Str.mk.injEq] at e ⊢
  exact Array.toList_inj.mp e
theorem dat_eqAt {h₀ : Heap} {L : Addr} {s : Shared} {news : List (Addr × Obj)} {A : Around} {v1 v2 : Value} {d1 d2 : Dat} (N : News h₀ L s.heap news) (h1 : DatIn news v1 d1) (h2 : DatIn news v2 d2) (o1 : kqdOk 8 d1 = true) (o2 : kqdOk 8 d2 = true) (hu : A.units + 8 < cLine) {b : Bool} (hb : b = true ↔ d1 = d2) :
    EqAt A s v1 v2 b := by
  obtain ⟨as, r1⟩ := kqd_in N 8 h1 o1
  obtain ⟨bs, r2⟩ := kqd_in N 8 h2 o2
  have y1 := kqd_lay 8 d1 o1
  have y2 := kqd_lay 8 d2 o2
  have x := eqAt_reads (kqdP d1) (kqdP d2) A s v1 v2 as bs r1 r2 y1.1 y2.1 (by have := Nat.min_le_left (kqdP d1).depth (kqdP d2).depth; omega)
  have e : PyData.eqv (kqdP d1) (kqdP d2) = b := by
    rw [Bool.eq_iff_iff, kqd_eqv 8 d1 d2 8 o1 o2, hb]
  rw [e] at x
  exact x
theorem cl_inv {news : List (Addr × Obj)} {v : Value} {k : Str} (h : DatIn news v (clD k)) : ∃ (a r : Addr) (t : Tok) (n : Nat), v = .ref a ∧ (a, listOf [Value.ref r, .int (homeF k) t].toArray n) ∈ news ∧ DatIn news (.ref r) (.list (codesD k)) := by
  cases h with
  | list m r1 =>
    cases r1 with
    | cons x1 r1 =>
      cases r1 with
      | cons y1 r1 =>
        cases r1
        cases y1
        cases x1 with
        | list m2 r2 => exact ⟨_, _, _, _, rfl, m, .list m2 r2⟩
theorem cl_lt {h₀ : Heap} {L : Addr} {s : Shared} {news : List (Addr × Obj)} {A : Around} {v1 v2 : Value} {k1 k2 : Str} (N : News h₀ L s.heap news) (h1 : DatIn news v1 (clD k1)) (h2 : DatIn news v2 (clD k2)) (hu : A.units + 20 < cLine) :
    Meets (Builtin.«list.__lt__» ⟨[v1, v2], []⟩) (fun A' R s' => A' = A ∧ s' = s ∧ R (.ok (.ret (.bool (decide (k1.cps.toList < k2.cps.toList))))) s) := by
  obtain ⟨a1, r1, t1, n1, rfl, m1, c1⟩ := cl_inv h1
  obtain ⟨a2, r2, t2, n2, rfl, m2, c2⟩ := cl_inv h2
  have o1 : kqdOk 8 (.list (codesD k1)) = true := by simp only [kqdOk, List.all_eq_true]; exact codes_ok 7 k1
  have o2 : kqdOk 8 (.list (codesD k2)) = true := by simp only [kqdOk, List.all_eq_true]; exact codes_ok 7 k2
  have M := list_ltAt a1 a2 [Value.ref r1, .int (homeF k1) t1].toArray [Value.ref r2, .int (homeF k2) t2].toArray n1 n2 none none #[] #[]
    (fun j => if j = 0 then decide (k1 = k2) else decide (homeF k1 = homeF k2)) (fun j => if j = 0 then decide (k1.cps.toList < k2.cps.toList) else decide (homeF k1 < homeF k2))
  refine M.of_imp ?_
  rintro A' R s' ⟨rfl, rfl, h⟩
  have hu1 : A'.in1.units + 8 < cLine := by show A'.units + 1 + 8 < cLine; omega
  have hu2 : A'.in1.units + 2 < cLine := by show A'.units + 1 + 2 < cLine; omega
  refine ⟨N.get m1, N.get m2, ?_, ?_, ?_⟩
  · intro j q1 q2
    match j, q1, q2 with
    | 0, _, _ =>
      simp only [List.getElem_toArray, List.getElem_cons_zero, if_true]
      have K := fun b => @dat_eqAt _ _ _ _ A'.in1 _ _ _ _ N c1 c2 o1 o2 hu1 b
      refine K _ ?_
      simp only [if_true, decide_eq_true_eq, Dat.list.injEq]
      exact ⟨fun e => by rw [e], codes_inj⟩
    | 1, _, _ =>
      have x := (EqGives.int (homeF k1) (homeF k2) t1 t2).at A'.in1 s'
      have e : (homeF k1 == homeF k2) = decide (homeF k1 = homeF k2) := by rw [Bool.eq_iff_iff, beq_iff_eq, decide_eq_true_eq]
      rw [e] at x
      simp only [List.getElem_toArray, List.getElem_cons_zero, List.getElem_cons_succ, Nat.succ_ne_self, if_false]
      exact x
    | j + 2, q1, _ => exact absurd q1 (by simp)
  · intro j q1 q2
    match j, q1, q2 with
    | 0, _, _ =>
      simp only [List.getElem_toArray, List.getElem_cons_zero, if_true]
      have K := @codes_lt _ _ _ _ _ _ A'.in1 _ _ N c1 c2 hu2
      exact K
    | 1, _, _ =>
      simp only [List.getElem_toArray, List.getElem_cons_zero, List.getElem_cons_succ, Nat.succ_ne_self, if_false]
      exact lt_intAt _ _ _ _ _ _
    | j + 2, q1, _ => exact absurd q1 (by simp)
  · have e : lexB (fun j => if j = 0 then decide (k1 = k2) else decide (homeF k1 = homeF k2)) (fun j => if j = 0 then decide (k1.cps.toList < k2.cps.toList) else decide (homeF k1 < homeF k2)) 2 2 2 0 = decide (k1.cps.toList < k2.cps.toList) := by
      simp only [lexB]
      by_cases q : k1 = k2
      · subst q
        simp
      · simp [q]
    show R (.ok (.ret (.bool (lexB _ _ 2 2 2 0)))) s'
    rw [e]
    exact h
/-- the order that sorted asks of two clients -/
theorem cl_ask {prog : Program} {w : World} {h₀ : Heap} {L : Addr} {s : Shared} {news : List (Addr × Obj)} {A : Around} {E : Value → Shared → Prop} {v1 v2 : Value} {k1 k2 : Str} {Q : Bool → Shared → Prop} (N : News h₀ L s.heap news) (h1 : DatIn news v1 (clD k1)) (h2 : DatIn news v2 (clD k2)) (hu : A.units + 22 < cLine)
    (h : Q (decide (k1.cps.toList < k2.cps.toList)) s) : wpAny (model prog w) A (keyLt' oneType' v1 v2) Q E s := by
  have c := cl_lt (A := A) N h1 h2 (by omega)
  obtain ⟨a1, r1, t1, n1, rfl, m1, c1⟩ := cl_inv h1
  obtain ⟨a2, r2, t2, n2, rfl, m2, c2⟩ := cl_inv h2
  rw [keyLt'_oneType, oneLt'_eq]
  simp only [if_true]
  refine wpAny_bind (wpAny_cRoomFor (by omega) ?_)
  refine wpAny_bind (wpAny_callSpecialIfBound?_slot ⟨_, N.get m1, rfl⟩ F.slot_list_lt (call_meets F.slot_list_lt ⟨_, N.get m1, rfl⟩ F.entry_list_lt (F.args_list_lt_2 _ _) c ⟨rfl, rfl, ?_⟩))
  exact wpAny_truthy_bool h
end
-- the sort, as a plain function of a comparison
section
def kev {α : Type} (c : Nat → Nat → Bool) : KasT α → α
  | .ret a => a
  | .ask i j k => kev c (k (c i j))
theorem kev_bind {α β : Type} (c : Nat → Nat → Bool) (f : α → KasT β) : ∀ t : KasT α, kev c (t.bind f) = kev c (f (kev c t))
  | .ret _ => rfl
  | .ask i j k => kev_bind c f (k (c i j))
theorem kev_wp {α : Type} {cmp : Nat → Nat → (Bool → Shared → Prop) → Shared → Prop} {c : Nat → Nat → Bool} {s : Shared} {Q : α → Shared → Prop} (hc : ∀ i j (C : Bool → Shared → Prop), C (c i j) s → cmp i j C s) : ∀ t : KasT α, Q (kev c t) s → t.kasWp cmp Q s
  | .ret _, h => h
  | .ask i j k, h => hc i j _ (kev_wp hc (k (c i j)) h)
def gD (p : Array Nat) (i : Nat) : Nat := p.getD i 0
theorem gD_eq {p q : Array Nat} {i j : Nat} (h : p[i]? = q[j]?) : gD p i = gD q j := by
  unfold gD
  rw [Array.getD_eq_getD_getElem?, Array.getD_eq_getD_getElem?, h]
theorem gD_rev {p : Array Nat} {i j : Nat} (hj : j ≤ p.size) (k : Nat) : gD (kas_rev p i j) k = if i ≤ k ∧ k < j then gD p (i + j - 1 - k) else gD p k := by
  have e := getElem?_mirror_all (i := i) hj k
  unfold kas_rev
  by_cases h1 : i ≤ k ∧ k < j
  · rw [if_pos h1] at e ⊢; exact gD_eq e
  · rw [if_neg h1] at e ⊢; exact gD_eq e
theorem gD_bubble {p : Array Nat} {src d : Nat} (hs : src < p.size) (hd : d ≤ src) (k : Nat) :
    gD (bubble p src d) k = if k = src - d then gD p src else if src - d < k ∧ k ≤ src then gD p (k - 1) else gD p k := by
  have e := getElem?_bubble hs d hd k
  by_cases h1 : k = src - d
  · rw [if_pos h1] at e ⊢; exact gD_eq e
  · rw [if_neg h1] at e ⊢
    by_cases h2 : src - d < k ∧ k ≤ src
    · rw [if_pos h2] at e ⊢; exact gD_eq e
    · rw [if_neg h2] at e ⊢; exact gD_eq e
theorem rev_size (p : Array Nat) (i j : Nat) : (kas_rev p i j).size = p.size := mirror_size _ _ _ _
theorem rev_perm (p : Array Nat) (i j : Nat) : (kas_rev p i j).Perm p := mirror_perm _ _ _ _
variable {c : Nat → Nat → Bool}
/-- rising up to n -/
def SoT (c : Nat → Nat → Bool) (p : Array Nat) (n : Nat) : Prop := ∀ i j, i ≤ j → j < n → c (gD p j) (gD p i) = false
/-- falling up to n -/
def FaT (c : Nat → Nat → Bool) (p : Array Nat) (n : Nat) : Prop := ∀ i j, i ≤ j → j < n → c (gD p i) (gD p j) = false
structure OrdC (c : Nat → Nat → Bool) : Prop where
  irr : ∀ i, c i i = false
  asy : ∀ i j, c i j = true → c j i = false
  tra : ∀ i j k, c j i = false → c k j = false → c k i = false
theorem so_one (O : OrdC c) (p : Array Nat) : SoT c p 1 := by
  intro i j h1 h2
  have e : i = j := by omega
  rw [e]; exact O.irr _
theorem fa_one (O : OrdC c) (p : Array Nat) : FaT c p 1 := by
  intro i j h1 h2
  have e : i = j := by omega
  rw [e]; exact O.irr _
theorem so_ext (O : OrdC c) {p : Array Nat} {n : Nat} (h : SoT c p n) (hn : 1 ≤ n) (hx : c (gD p n) (gD p (n - 1)) = false) : SoT c p (n + 1) := by
  intro i j hij hj
  by_cases e : j < n
  · exact h i j hij e
  · have ej : j = n := by omega
    subst ej
    by_cases e2 : i = j
    · rw [e2]; exact O.irr _
    · exact O.tra _ _ _ (h i (j - 1) (by omega) (by omega)) hx
theorem fa_ext (O : OrdC c) {p : Array Nat} {n : Nat} (h : FaT c p n) (hn : 1 ≤ n) (hx : c (gD p (n - 1)) (gD p n) = false) : FaT c p (n + 1) := by
  intro i j hij hj
  by_cases e : j < n
  · exact h i j hij e
  · have ej : j = n := by omega
    subst ej
    by_cases e2 : i = j
    · rw [e2]; exact O.irr _
    · exact O.tra _ _ _ hx (h i (j - 1) (by omega) (by omega))
theorem asc_ok (O : OrdC c) (p : Array Nat) : ∀ f n, 1 ≤ n → SoT c p n → n ≤ kev c (kas_asc p f n) ∧ kev c (kas_asc p f n) ≤ n + f ∧ SoT c p (kev c (kas_asc p f n))
  | 0, n, _, h => ⟨Nat.le_refl _, Nat.le_refl _, h⟩
  | f + 1, n, h1, h => by
    have e : kev c (kas_asc p (f + 1) n) = if c (gD p n) (gD p (n - 1)) = true then n else kev c (kas_asc p f (n + 1)) := by
      show kev c (if c (gD p n) (gD p (n - 1)) = true then KasT.ret n else kas_asc p f (n + 1)) = _
      split <;> rfl
    rw [e]
    cases hx : c (gD p n) (gD p (n - 1)) with
    | true => simp only [if_true]; exact ⟨Nat.le_refl _, by omega, h⟩
    | false =>
      simp only [Bool.false_eq_true, if_false]
      have ih := asc_ok O p f (n + 1) (by omega) (so_ext O h h1 hx)
      exact ⟨by omega, by omega, ih.2.2⟩
theorem so_rev {p : Array Nat} {n : Nat} (hn : n ≤ p.size) (h : FaT c p n) : SoT c (kas_rev p 0 n) n := by
  intro i j hij hj
  rw [gD_rev hn, gD_rev hn, if_pos ⟨by omega, by omega⟩, if_pos ⟨by omega, by omega⟩]
  exact h _ _ (by omega) (by omega)
theorem fa_rev {p : Array Nat} {n : Nat} (hn : n ≤ p.size) (h : SoT c p n) : FaT c (kas_rev p 0 n) n := by
  intro i j hij hj
  rw [gD_rev hn, gD_rev hn, if_pos ⟨by omega, by omega⟩, if_pos ⟨by omega, by omega⟩]
  exact h _ _ (by omega) (by omega)
/-- the last q + 1 up to n are alike -/
def EqT (c : Nat → Nat → Bool) (p : Array Nat) (n q : Nat) : Prop := ∀ i j, n ≤ i + (q + 1) → i < n → n ≤ j + (q + 1) → j < n → c (gD p i) (gD p j) = false
theorem eq_zero (O : OrdC c) (p : Array Nat) (n : Nat) : EqT c p n 0 := by
  intro i j h1 h2 h3 h4
  have e : i = j := by omega
  rw [e]; exact O.irr _
theorem fa_block (O : OrdC c) {p : Array Nat} {n q : Nat} (hn : n ≤ p.size) (hq : q + 1 ≤ n) (h : FaT c p n) (he : EqT c p n q) : FaT c (kas_rev p (n - (q + 1)) n) n := by
  intro i j hij hj
  rw [gD_rev hn, gD_rev hn]
  by_cases hi : n - (q + 1) ≤ i ∧ i < n
  · rw [if_pos hi, if_pos ⟨by omega, hj⟩]
    exact he _ _ (by omega) (by omega) (by omega) (by omega)
  · rw [if_neg hi]
    by_cases hj2 : n - (q + 1) ≤ j ∧ j < n
    · rw [if_pos hj2]; exact h _ _ (by omega) (by omega)
    · rw [if_neg hj2]; exact h _ _ hij hj
theorem desc_ok (O : OrdC c) : ∀ f (p : Array Nat) n q, n + f ≤ p.size → q + 1 ≤ n → FaT c p n → EqT c p n q →
    (kev c (kas_desc f p n q)).1.Perm p ∧ n ≤ (kev c (kas_desc f p n q)).2.1 ∧ (kev c (kas_desc f p n q)).2.1 ≤ n + f ∧ (kev c (kas_desc f p n q)).2.2 + 1 ≤ (kev c (kas_desc f p n q)).2.1 ∧
      FaT c (kev c (kas_desc f p n q)).1 (kev c (kas_desc f p n q)).2.1 ∧ EqT c (kev c (kas_desc f p n q)).1 (kev c (kas_desc f p n q)).2.1 (kev c (kas_desc f p n q)).2.2
  | 0, p, n, q, hs, hq, h, he => ⟨Array.Perm.refl _, Nat.le_refl _, Nat.le_refl _, hq, h, he⟩
  | f + 1, p, n, q, hs, hq, h, he => by
    have e : kev c (kas_desc (f + 1) p n q) = if c (gD p n) (gD p (n - 1)) = true then (if q > 0 then kev c (kas_desc f (kas_rev p (n - (q + 1)) n) (n + 1) 0) else kev c (kas_desc f p (n + 1) 0))
        else if c (gD p (n - 1)) (gD p n) = true then (p, n, q) else kev c (kas_desc f p (n + 1) (q + 1)) := by
      show kev c (if c (gD p n) (gD p (n - 1)) = true then (if q > 0 then kas_desc f (kas_rev p (n - (q + 1)) n) (n + 1) 0 else kas_desc f p (n + 1) 0)
        else KasT.ask (gD p (n - 1)) (gD p n) fun d => if d = true then KasT.ret (p, n, q) else kas_desc f p (n + 1) (q + 1)) = _
      split
      · split <;> rfl
      · show kev c (if c (gD p (n - 1)) (gD p n) = true then KasT.ret (p, n, q) else kas_desc f p (n + 1) (q + 1)) = _
        split <;> rfl
    rw [e]
    have one : ∀ (p' : Array Nat) (n' : Nat), EqT c p' n' 0 := by
      intro p' n' i j h1 h2 h3 h4
      have : i = j := by omega
      rw [this]; exact O.irr _
    by_cases hx : c (gD p n) (gD p (n - 1)) = true
    · rw [if_pos hx]
      by_cases hq0 : q > 0
      · rw [if_pos hq0]
        have hf := fa_block O (by omega) hq h he
        have hg : ∀ k, n ≤ k → gD (kas_rev p (n - (q + 1)) n) k = gD p k := fun k hk => by rw [gD_rev (by omega), if_neg (by omega)]
        have hl : c (gD p n) (gD (kas_rev p (n - (q + 1)) n) (n - 1)) = true ∨ c (gD (kas_rev p (n - (q + 1)) n) (n - 1)) (gD p n) = false := by
          right
          rw [gD_rev (by omega), if_pos (by omega)]
          have a1 := he (n - 1) (n - (q + 1) + n - 1 - (n - 1)) (by omega) (by omega) (by omega) (by omega)
          have a2 := O.asy _ _ hx
          exact O.tra _ _ _ a2 (he (n - (q + 1) + n - 1 - (n - 1)) (n - 1) (by omega) (by omega) (by omega) (by omega))
        have hl2 : c (gD (kas_rev p (n - (q + 1)) n) (n - 1)) (gD (kas_rev p (n - (q + 1)) n) n) = false := by
          rw [hg n (Nat.le_refl _)]
          rcases hl with hl | hl
          · exact O.asy _ _ hl
          · exact hl
        have ih := desc_ok O f (kas_rev p (n - (q + 1)) n) (n + 1) 0 (by rw [rev_size]; omega) (by omega) (fa_ext O hf (by omega) hl2) (one _ _)
        exact ⟨ih.1.trans (rev_perm _ _ _), by omega, by omega, ih.2.2.2.1, ih.2.2.2.2.1, ih.2.2.2.2.2⟩
      · rw [if_neg hq0]
        have ih := desc_ok O f p (n + 1) 0 (by omega) (by omega) (fa_ext O h (by omega) (O.asy _ _ hx)) (one _ _)
        exact ⟨ih.1, by omega, by omega, ih.2.2.2.1, ih.2.2.2.2.1, ih.2.2.2.2.2⟩
    · rw [if_neg hx]
      by_cases hy : c (gD p (n - 1)) (gD p n) = true
      · rw [if_pos hy]
        exact ⟨Array.Perm.refl _, Nat.le_refl _, by show n ≤ n + (f + 1); omega, hq, h, he⟩
      · rw [if_neg hy]
        have hx' : c (gD p n) (gD p (n - 1)) = false := by simpa using hx
        have hy' : c (gD p (n - 1)) (gD p n) = false := by simpa using hy
        have he2 : EqT c p (n + 1) (q + 1) := by
          intro i j h1 h2 h3 h4
          by_cases ei : i = n
          · by_cases ej : j = n
            · rw [ei, ej]; exact O.irr _
            · rw [ei]; exact O.tra _ _ _ (he (n - 1) j (by omega) (by omega) (by omega) (by omega)) hx'
          · by_cases ej : j = n
            · rw [ej]; exact O.tra _ _ _ hy' (he i (n - 1) (by omega) (by omega) (by omega) (by omega))
            · exact he i j (by omega) (by omega) (by omega) (by omega)
        have ih := desc_ok O f p (n + 1) (q + 1) (by omega) (by omega) (fa_ext O h (by omega) hy') he2
        exact ⟨ih.1, by omega, by omega, ih.2.2.2.1, ih.2.2.2.2.1, ih.2.2.2.2.2⟩
theorem asc_stop (p : Array Nat) : ∀ f n, kev c (kas_asc p f n) = n + f ∨ c (gD p (kev c (kas_asc p f n))) (gD p (kev c (kas_asc p f n) - 1)) = true
  | 0, n => .inl rfl
  | f + 1, n => by
    have e : kev c (kas_asc p (f + 1) n) = if c (gD p n) (gD p (n - 1)) = true then n else kev c (kas_asc p f (n + 1)) := by
      show kev c (if c (gD p n) (gD p (n - 1)) = true then KasT.ret n else kas_asc p f (n + 1)) = _
      split <;> rfl
    rw [e]
    by_cases hx : c (gD p n) (gD p (n - 1)) = true
    · rw [if_pos hx]; exact .inr hx
    · rw [if_neg hx]
      rcases asc_stop p f (n + 1) with h | h
      · left; omega
      · exact .inr h
theorem lt_le (O : OrdC c) {a b d : Nat} (h1 : c a b = true) (h2 : c d b = false) : c a d = true := by
  cases h : c a d with
  | true => rfl
  | false => rw [O.tra b d a h2 h] at h1; cases h1
theorem tail3_ok (O : OrdC c) {p : Array Nat} {n nrem : Nat} (h1 : 1 ≤ n) (h2 : n ≤ nrem) (h3 : nrem ≤ p.size) (h : FaT c p n) :
    (kev c (kas_tail3 n nrem p)).2.Perm p ∧ 1 ≤ (kev c (kas_tail3 n nrem p)).1 ∧ (kev c (kas_tail3 n nrem p)).1 ≤ nrem ∧ SoT c (kev c (kas_tail3 n nrem p)).2 (kev c (kas_tail3 n nrem p)).1 := by
  have a := asc_ok O (kas_rev p 0 n) (nrem - n) n h1 (so_rev (by omega) h)
  have e : kev c (kas_tail3 n nrem p) = (kev c (kas_asc (kas_rev p 0 n) (nrem - n) n), kas_rev p 0 n) := kev_bind c _ _
  rw [e]
  exact ⟨rev_perm _ _ _, by show 1 ≤ kev c _; omega, by show kev c _ ≤ nrem; omega, a.2.2⟩
theorem descPart_ok (O : OrdC c) {p : Array Nat} {n nrem : Nat} (h1 : 1 ≤ n) (h2 : n + 1 ≤ nrem) (h3 : nrem ≤ p.size) (h : FaT c p n) (hx : c (gD p n) (gD p (n - 1)) = true) :
    (kev c (kas_descPart n nrem p)).2.Perm p ∧ 1 ≤ (kev c (kas_descPart n nrem p)).1 ∧ (kev c (kas_descPart n nrem p)).1 ≤ nrem ∧ SoT c (kev c (kas_descPart n nrem p)).2 (kev c (kas_descPart n nrem p)).1 := by
  have d := desc_ok O (nrem - (n + 1)) p (n + 1) 0 (by omega) (by omega) (fa_ext O h h1 (O.asy _ _ hx)) (eq_zero O _ _)
  have e : kev c (kas_descPart n nrem p) = if (kev c (kas_desc (nrem - (n + 1)) p (n + 1) 0)).2.2 > 0 then kev c (kas_tail3 (kev c (kas_desc (nrem - (n + 1)) p (n + 1) 0)).2.1 nrem (kas_rev (kev c (kas_desc (nrem - (n + 1)) p (n + 1) 0)).1 ((kev c (kas_desc (nrem - (n + 1)) p (n + 1) 0)).2.1 - ((kev c (kas_desc (nrem - (n + 1)) p (n + 1) 0)).2.2 + 1)) (kev c (kas_desc (nrem - (n + 1)) p (n + 1) 0)).2.1))
      else kev c (kas_tail3 (kev c (kas_desc (nrem - (n + 1)) p (n + 1) 0)).2.1 nrem (kev c (kas_desc (nrem - (n + 1)) p (n + 1) 0)).1) := by
    unfold kas_descPart
    rw [kev_bind]
    split <;> rfl
  rw [e]
  generalize kev c (kas_desc (nrem - (n + 1)) p (n + 1) 0) = r at d ⊢
  obtain ⟨d1, d2, d3, d4, d5, d6⟩ := d
  have hz := d1.size_eq
  split
  · have t := tail3_ok O (p := kas_rev r.1 (r.2.1 - (r.2.2 + 1)) r.2.1) (n := r.2.1) (nrem := nrem) (by omega) (by omega) (by rw [rev_size]; omega) (fa_block O (by omega) d4 d5 d6)
    exact ⟨t.1.trans ((rev_perm _ _ _).trans d1), t.2⟩
  · have t := tail3_ok O (p := r.1) (n := r.2.1) (nrem := nrem) (by omega) (by omega) (by omega) d5
    exact ⟨t.1.trans d1, t.2⟩
theorem count_ok (O : OrdC c) {p : Array Nat} {nrem : Nat} (h1 : 1 ≤ nrem) (h3 : nrem ≤ p.size) :
    (kev c (kas_count nrem p)).2.Perm p ∧ 1 ≤ (kev c (kas_count nrem p)).1 ∧ (kev c (kas_count nrem p)).1 ≤ nrem ∧ SoT c (kev c (kas_count nrem p)).2 (kev c (kas_count nrem p)).1 := by
  have a := asc_ok O p (nrem - 1) 1 (Nat.le_refl _) (so_one O _)
  have st := asc_stop (c := c) p (nrem - 1) 1
  have e : kev c (kas_count nrem p) = if (kev c (kas_asc p (nrem - 1) 1) == nrem) = true then (kev c (kas_asc p (nrem - 1) 1), p) else if kev c (kas_asc p (nrem - 1) 1) > 1 then
      (if c (gD p 0) (gD p (kev c (kas_asc p (nrem - 1) 1) - 1)) = true then (kev c (kas_asc p (nrem - 1) 1), p) else kev c (kas_descPart (kev c (kas_asc p (nrem - 1) 1)) nrem (kas_rev p 0 (kev c (kas_asc p (nrem - 1) 1)))))
      else kev c (kas_descPart (kev c (kas_asc p (nrem - 1) 1)) nrem p) := by
    unfold kas_count
    rw [kev_bind]
    split
    · rfl
    · split
      · show kev c (if c (gD p 0) (gD p (kev c (kas_asc p (nrem - 1) 1) - 1)) = true then KasT.ret _ else kas_descPart _ nrem _) = _
        split <;> rfl
      · rfl
  rw [e]
  generalize kev c (kas_asc p (nrem - 1) 1) = n at a st ⊢
  obtain ⟨a1, a2, a3⟩ := a
  by_cases q : n = nrem
  · rw [if_pos (by simpa using q)]
    exact ⟨Array.Perm.refl _, a1, by show n ≤ nrem; omega, a3⟩
  · rw [if_neg (by simpa using q)]
    have hx : c (gD p n) (gD p (n - 1)) = true := by
      rcases st with h | h
      · omega
      · exact h
    by_cases g : n > 1
    · rw [if_pos g]
      by_cases y : c (gD p 0) (gD p (n - 1)) = true
      · rw [if_pos y]
        exact ⟨Array.Perm.refl _, a1, by show n ≤ nrem; omega, a3⟩
      · rw [if_neg y]
        have y' : c (gD p 0) (gD p (n - 1)) = false := by simpa using y
        have r := descPart_ok O (p := kas_rev p 0 n) (n := n) (nrem := nrem) (by omega) (by omega) (by rw [rev_size]; omega) (fa_rev (by omega) a3) (by
          rw [gD_rev (by omega), gD_rev (by omega), if_neg (by omega), if_pos (by omega)]
          rw [show 0 + n - 1 - (n - 1) = 0 by omega]
          exact lt_le O hx y')
        exact ⟨r.1.trans (rev_perm _ _ _), r.2⟩
    · rw [if_neg g]
      have en : n = 1 := by omega
      subst en
      exact descPart_ok O (Nat.le_refl _) (by omega) h3 (fa_one O _) hx
theorem place_ok (O : OrdC c) {p : Array Nat} {k : Nat} (hs : SoT c p k) : ∀ f l r, l ≤ r → r ≤ k → r - l ≤ f → (∀ i, i < l → c (gD p k) (gD p i) = false) → (∀ i, r ≤ i → i < k → c (gD p k) (gD p i) = true) →
    kev c (kas_place p k f l r) ≤ k ∧ (∀ i, i < kev c (kas_place p k f l r) → c (gD p k) (gD p i) = false) ∧ (∀ i, kev c (kas_place p k f l r) ≤ i → i < k → c (gD p k) (gD p i) = true)
  | 0, l, r, h1, h2, h3, ha, hb => ⟨by show l ≤ k; omega, ha, fun i hi hk => hb i (Nat.le_trans (show r ≤ l by omega) hi) hk⟩
  | f + 1, l, r, h1, h2, h3, ha, hb => by
    have e : kev c (kas_place p k (f + 1) l r) = if l ≥ r then l else if c (gD p k) (gD p ((l + r) / 2)) = true then kev c (kas_place p k f l ((l + r) / 2)) else kev c (kas_place p k f ((l + r) / 2 + 1) r) := by
      show kev c (if l ≥ r then KasT.ret l else KasT.ask (gD p k) (gD p ((l + r) / 2)) fun d => if d = true then kas_place p k f l ((l + r) / 2) else kas_place p k f ((l + r) / 2 + 1) r) = _
      split
      · rfl
      · show kev c (if c (gD p k) (gD p ((l + r) / 2)) = true then kas_place p k f l ((l + r) / 2) else kas_place p k f ((l + r) / 2 + 1) r) = _
        split <;> rfl
    rw [e]
    by_cases g : l ≥ r
    · rw [if_pos g]
      have el : l = r := by omega
      exact ⟨by omega, ha, fun i hi hk => hb i (by omega) hk⟩
    · rw [if_neg g]
      by_cases y : c (gD p k) (gD p ((l + r) / 2)) = true
      · rw [if_pos y]
        exact place_ok O hs f l ((l + r) / 2) (by omega) (by omega) (by omega) ha fun i hi hk => lt_le O y (hs _ _ hi hk)
      · rw [if_neg y]
        have y' : c (gD p k) (gD p ((l + r) / 2)) = false := by simpa using y
        exact place_ok O hs f ((l + r) / 2 + 1) r (by omega) h2 (by omega) (fun i hi => O.tra _ _ _ (hs i ((l + r) / 2) (by omega) (by omega)) y') hb
theorem bin_ok (O : OrdC c) : ∀ f (p : Array Nat) k, k + f ≤ p.size → SoT c p k → (kev c (kas_bin f p k)).Perm p ∧ SoT c (kev c (kas_bin f p k)) (k + f)
  | 0, p, k, _, h => ⟨Array.Perm.refl _, h⟩
  | f + 1, p, k, hz, h => by
    have e : kev c (kas_bin (f + 1) p k) = kev c (kas_bin f (bubble p k (k - kev c (kas_place p k k 0 k))) (k + 1)) := kev_bind c _ _
    rw [e]
    obtain ⟨p1, p2, p3⟩ := place_ok O h k 0 k (Nat.zero_le _) (Nat.le_refl _) (by omega) (fun i hi => absurd hi (Nat.not_lt_zero _)) (fun i h1 h2 => by omega)
    generalize kev c (kas_place p k k 0 k) = l at p1 p2 p3 ⊢
    have hb : ∀ x, gD (bubble p k (k - l)) x = if x = l then gD p k else if l < x ∧ x ≤ k then gD p (x - 1) else gD p x := by
      intro x
      rw [gD_bubble (by omega) (by omega)]
      rw [show k - (k - l) = l by omega]
    have so : SoT c (bubble p k (k - l)) (k + 1) := by
      intro i j hij hj
      rw [hb, hb]
      by_cases ej : j = l
      · rw [if_pos ej]
        by_cases ei : i = l
        · rw [if_pos ei]; exact O.irr _
        · rw [if_neg ei, if_neg (by omega)]; exact p2 i (by omega)
      · rw [if_neg ej]
        by_cases ei : i = l
        · rw [if_pos ei, if_pos (by omega)]
          exact O.asy _ _ (p3 (j - 1) (by omega) (by omega))
        · rw [if_neg ei]
          by_cases qj : l < j ∧ j ≤ k
          · rw [if_pos qj]
            by_cases qi : l < i ∧ i ≤ k
            · rw [if_pos qi]; exact h _ _ (by omega) (by omega)
            · rw [if_neg qi]; exact h _ _ (by omega) (by omega)
          · rw [if_neg qj, if_neg (by omega)]; exact h _ _ hij (by omega)
    have ih := bin_ok O f (bubble p k (k - l)) (k + 1) (by rw [bubble_size]; omega) so
    exact ⟨ih.1.trans (bubble_perm _ _ _), by rw [show k + (f + 1) = k + 1 + f by omega]; exact ih.2⟩
theorem sort_ok (O : OrdC c) {n : Nat} (h1 : 1 ≤ n) : (kev c (kas_sort n)).Perm (List.range n).toArray ∧ SoT c (kev c (kas_sort n)) n := by
  obtain ⟨a1, a2, a3, a4⟩ := count_ok (c := c) O (p := (List.range n).toArray) (nrem := n) h1 (by simp)
  have e : kev c (kas_sort n) = if (kev c (kas_count n (List.range n).toArray)).1 < n then kev c (kas_bin (n - max (kev c (kas_count n (List.range n).toArray)).1 1) (kev c (kas_count n (List.range n).toArray)).2 (max (kev c (kas_count n (List.range n).toArray)).1 1))
      else (kev c (kas_count n (List.range n).toArray)).2 := by
    unfold kas_sort
    rw [kev_bind]
    split <;> rfl
  rw [e]
  generalize kev c (kas_count n (List.range n).toArray) = r at a1 a2 a3 a4 ⊢
  have hz : r.2.size = n := by rw [a1.size_eq]; simp
  have hm : max r.1 1 = r.1 := by omega
  rw [hm]
  split
  · have b := bin_ok O (n - r.1) r.2 r.1 (by omega) a4
    exact ⟨b.1.trans a1, by rw [show r.1 + (n - r.1) = n by omega] at b; exact b.2⟩
  · exact ⟨a1, by rw [show r.1 = n by omega] at a4; exact a4⟩
end
-- the sort asks of its own items alone
section
def InR (n : Nat) {α : Type} (P : α → Prop) : KasT α → Prop
  | .ret a => P a
  | .ask i j k => i < n ∧ j < n ∧ ∀ b, InR n P (k b)
theorem InR.bind {n : Nat} {α β : Type} {P : α → Prop} {Q : β → Prop} {f : α → KasT β} (hf : ∀ a, P a → InR n Q (f a)) : ∀ t : KasT α, InR n P t → InR n Q (t.bind f)
  | .ret a, h => hf a h
  | .ask i j k, h => ⟨h.1, h.2.1, fun b => InR.bind hf (k b) (h.2.2 b)⟩
theorem InR.wp {n : Nat} {α : Type} {P : α → Prop} {cmp : Nat → Nat → (Bool → Shared → Prop) → Shared → Prop} {c : Nat → Nat → Bool} {s : Shared} {Q : α → Shared → Prop} (hc : ∀ i j (C : Bool → Shared → Prop), i < n → j < n → C (c i j) s → cmp i j C s) : ∀ t : KasT α, InR n P t → Q (kev c t) s → t.kasWp cmp Q s
  | .ret _, _, h => h
  | .ask i j k, r, h => hc i j _ r.1 r.2.1 (InR.wp hc (k (c i j)) (r.2.2 _) h)
def InA (n : Nat) (p : Array Nat) : Prop := ∀ x ∈ p.toList, x < n
theorem InA.perm {n : Nat} {p q : Array Nat} (h : InA n p) (e : q.Perm p) : InA n q := fun x hx => h x ((Array.perm_iff_toList_perm.mp e).mem_iff.mp hx)
theorem InA.at {n : Nat} (hn : 0 < n) {p : Array Nat} (h : InA n p) (i : Nat) : p.getD i 0 < n := by
  rw [Array.getD_eq_getD_getElem?]
  cases e : p[i]? with
  | none => exact hn
  | some x => exact h x (by rw [Array.mem_toList_iff]; exact Array.mem_of_getElem? e)
variable {n : Nat}
theorem in_asc (hn : 0 < n) {p : Array Nat} (h : InA n p) : ∀ f m, InR n (fun _ : Nat => True) (kas_asc p f m)
  | 0, _ => trivial
  | f + 1, m => ⟨h.at hn _, h.at hn _, fun b => by
      cases b with
      | true => exact trivial
      | false => exact in_asc hn h f (m + 1)⟩
theorem in_desc (hn : 0 < n) : ∀ f {p : Array Nat} m q, InA n p → InR n (fun r : Array Nat × Nat × Nat => InA n r.1) (kas_desc f p m q)
  | 0, _, _, _, h => h
  | f + 1, p, m, q, h => ⟨h.at hn _, h.at hn _, fun b => by
      cases b with
      | true =>
        show InR n _ (if q > 0 then kas_desc f (kas_rev p (m - (q + 1)) m) (m + 1) 0 else kas_desc f p (m + 1) 0)
        split
        · exact in_desc hn f _ _ (h.perm (rev_perm _ _ _))
        · exact in_desc hn f _ _ h
      | false =>
        exact ⟨h.at hn _, h.at hn _, fun d => by
          cases d with
          | true => exact h
          | false => exact in_desc hn f _ _ h⟩⟩
theorem in_tail3 (hn : 0 < n) {p : Array Nat} (h : InA n p) (m r : Nat) : InR n (fun r : Nat × Array Nat => InA n r.2) (kas_tail3 m r p) := by
  unfold kas_tail3
  refine InR.bind (P := fun _ => True) (fun a _ => ?_) _ (in_asc hn (h.perm (rev_perm _ _ _)) _ _)
  exact h.perm (rev_perm _ _ _)
theorem in_descPart (hn : 0 < n) {p : Array Nat} (h : InA n p) (m r : Nat) : InR n (fun r : Nat × Array Nat => InA n r.2) (kas_descPart m r p) := by
  refine InR.bind (fun a ha => ?_) _ (in_desc hn _ _ _ h)
  split
  · exact in_tail3 hn (InA.perm ha (rev_perm _ _ _)) _ _
  · exact in_tail3 hn ha _ _
theorem in_count (hn : 0 < n) {p : Array Nat} (h : InA n p) (r : Nat) : InR n (fun r : Nat × Array Nat => InA n r.2) (kas_count r p) := by
  refine InR.bind (fun a _ => ?_) _ (in_asc hn h _ _)
  split
  · exact h
  · split
    · refine ⟨h.at hn _, h.at hn _, fun b => ?_⟩
      cases b with
      | true => exact h
      | false => exact in_descPart hn (h.perm (rev_perm _ _ _)) _ _
    · exact in_descPart hn h _ _
theorem in_place (hn : 0 < n) {p : Array Nat} (h : InA n p) (k : Nat) : ∀ f l r, InR n (fun _ : Nat => True) (kas_place p k f l r)
  | 0, _, _ => trivial
  | f + 1, l, r => by
    show InR n _ (if l ≥ r then KasT.ret l else _)
    split
    · exact trivial
    · refine ⟨h.at hn _, h.at hn _, fun b => ?_⟩
      cases b with
      | true => exact in_place hn h k f _ _
      | false => exact in_place hn h k f _ _
theorem in_bin (hn : 0 < n) : ∀ f {p : Array Nat} k, InA n p → InR n (fun _ : Array Nat => True) (kas_bin f p k)
  | 0, _, _, _ => trivial
  | f + 1, p, k, h => InR.bind (fun l _ => in_bin hn f (k + 1) (h.perm (bubble_perm _ _ _))) _ (in_place hn h _ _ _ _)
theorem in_sort (hn : 0 < n) : InR n (fun _ : Array Nat => True) (kas_sort n) := by
  refine InR.bind (fun r hr => ?_) _ (in_count hn (p := (List.range n).toArray) (fun x hx => by simpa using hx) n)
  split
  · exact in_bin hn _ _ hr
  · exact trivial
end
section
open PySem.SeqAt PySem.MeetsSeq
def kLe (a b : Str) : Prop := ¬ b.cps.toList < a.cps.toList
theorem all_perm {news : List (Addr × Obj)} {vs : List Value} {ks : List Str} {f : Str → Dat} (h : DatAll news vs (ks.map f)) : ∀ (is : List Nat), (∀ i ∈ is, i < ks.length) →
    DatAll news (is.map fun i => vs.getD i Value.none) ((is.map fun i => ks.getD i Str.empty).map f)
  | [], _ => .nil
  | i :: r, hi => by
    obtain ⟨v, hv, hd⟩ := all_map_get h (hi i (.head _))
    refine .cons ?_ (all_perm h r fun j hj => hi j (.tail _ hj))
    show DatIn news (vs.getD i Value.none) (f (ks.getD i Str.empty))
    rw [List.getD_eq_getElem?_getD, hv]
    exact hd
theorem range_getD (ks : List Str) : (List.range ks.length).map (fun i => ks.getD i Str.empty) = ks := by
  apply List.ext_getElem
  · simp
  · intro i h1 h2
    simp only [List.getElem_map, List.getElem_range, List.getD_eq_getElem?_getD]
    simp at h1
    simp [h1]
theorem ordC (ks : List Str) : OrdC (fun i j => decide ((ks.getD i Str.empty).cps.toList < (ks.getD j Str.empty).cps.toList)) where
  irr i := decide_eq_false (List.lt_irrefl _)
  asy i j h := decide_eq_false fun q => List.lt_asymm (of_decide_eq_true h) q
  tra i j k h1 h2 := by
    have a1 := of_decide_eq_false h1
    have a2 := of_decide_eq_false h2
    exact decide_eq_false fun q => a1 (List.lt_of_le_of_lt (List.not_lt.mp a2) q)
variable {prog : Program} {w : World} {A : Around} {E : Value → Shared → Prop} {s : Shared} {h₀ : Heap} {L T : Addr} {m : Str → Option Value} {news : List (Addr × Obj)} {vs : List Value} {ks : List Str} {n : Nat}
theorem sort_few {a : Addr} {P : PySem.Fin → Shared → Prop} (F : Fr h₀ L s.heap m) (N : News h₀ L s.heap news) (ho : s.heap.get? a = some (seqObj "list" vs.toArray n)) (haL : a ≠ L) (ha0 : h₀.get? a = none) (hna : ∀ p ∈ news, p.1 ≠ a) (h2 : vs.length < 2)
    (h : ∀ c h', Fr h₀ L h' m → News h₀ L h' ((a, listOf vs.toArray c) :: news) → P (.done (.ret .none)) { s with heap := h' }) :
    wpAny (model prog w) A (Builtin.«list.sort» ⟨[.ref a], []⟩) P E s := by
  have s1 := Heap.SameBut.update s.heap a (Obj.mapSeq fun _ => (#[] : Array Value))
  obtain ⟨e1, ho1⟩ : ∃ e1, (s.heap.update a (Obj.mapSeq fun _ => (#[] : Array Value))).get? a = some (seqObj "list" #[] e1) := ⟨_, get?_update_seq ho fun _ => #[]⟩
  have F3 : Fr h₀ L (((s.heap.update a (Obj.mapSeq fun _ => (#[] : Array Value))).push (seqObj "tuple" vs.toArray 0)).push (seqObj "list" #[] 0)) m := ((kas_fr F s1 haL ha0).push _).push _
  have N2 : News h₀ L (((s.heap.update a (Obj.mapSeq fun _ => (#[] : Array Value))).push (seqObj "tuple" vs.toArray 0)).push (seqObj "list" #[] 0)) news :=
    (kas_news N s1 hna).grown fun b x e => Heap.get?_push_of_some _ (Heap.get?_push_of_some _ e)
  have ho6 : (((s.heap.update a (Obj.mapSeq fun _ => (#[] : Array Value))).push (seqObj "tuple" vs.toArray 0)).push (seqObj "list" #[] 0)).get? a = some (seqObj "list" #[] e1) := Heap.get?_push_of_some _ (Heap.get?_push_of_some _ ho1)
  rw [list_sort_plain]
  refine wpAny_bind (listItems_at ho rfl ?_)
  refine wpAny_bind (listUpdate_at ho rfl ?_ (by rw [List.size_toArray, sizeLine_eq]; omega) (Nat.zero_le _))
  refine wpAny_bind (seqEpoch_at ho1 rfl ?_)
  refine wpAny_bind (wpAny_newTuple ?_ (by show vs.length ≤ _; rw [sizeLine_eq]; omega))
  refine wpAny_bind (wpAny_newList ?_ (Nat.zero_le _))
  refine wpAny_holding ?_
  show wpAny (model prog w) A _ P E { s with heap := ((s.heap.update a (Obj.mapSeq fun _ => (#[] : Array Value))).push (seqObj "tuple" vs.toArray 0)).push (seqObj "list" #[] 0) }
  dsimp only
  have hn2 : vs.toArray.size < 2 := by rw [List.size_toArray]; exact h2
  rw [if_pos hn2, if_pos hn2]
  refine wpAny_bind (wpAny_pure ?_)
  rw [StateT.run_pure]
  refine wpAny_bind (wpAny_pure ?_)
  dsimp only
  refine wpAny_bind (seqEpoch_at ho6 rfl ?_)
  have eo : (arrOf (SortSt.mk' general' (vs.toArray.zip vs.toArray) #[] 7 none)).map (·.2) = vs.toArray := by
    show (vs.toArray.zip vs.toArray).map (·.2) = vs.toArray
    apply Array.toList_inj.mp
    simp [List.map_snd_zip]
  rw [eo]
  refine wpAny_bind (listUpdate_at ho6 rfl ?_ (Nat.zero_le _) (by rw [List.size_toArray, sizeLine_eq]; omega))
  simp only [bne_self_eq_false, Bool.false_eq_true, if_false]
  have s2 := Heap.SameBut.update (((s.heap.update a (Obj.mapSeq fun _ => (#[] : Array Value))).push (seqObj "tuple" vs.toArray 0)).push (seqObj "list" #[] 0)) a (Obj.mapSeq fun _ => vs.toArray)
  obtain ⟨c2, hc2⟩ : ∃ c2, ((((s.heap.update a (Obj.mapSeq fun _ => (#[] : Array Value))).push (seqObj "tuple" vs.toArray 0)).push (seqObj "list" #[] 0)).update a (Obj.mapSeq fun _ => vs.toArray)).get? a = some (seqObj "list" vs.toArray c2) := ⟨_, get?_update_seq ho6 fun _ => vs.toArray⟩
  refine wpAny_pure (h c2 _ (kas_fr F3 s2 haL ha0) ?_)
  intro p hp
  rcases List.mem_cons.mp hp with rfl | hp
  · exact ⟨hc2, haL, ha0⟩
  · exact kas_news N2 s2 hna p hp
theorem sorted_few {Q : Value → Shared → Prop} (F : Fr h₀ L s.heap m) (N : News h₀ L s.heap news) (hl : s.heap.IsList T vs.toArray) (h2 : vs.length < 2)
    (h : ∀ D c h', Fr h₀ L h' m → News h₀ L h' ((D, listOf vs.toArray c) :: news) → (∀ q ∈ news, q.1 < D) → Q (.ref D) { s with heap := h' }) :
    wpAny (model prog w) A (call (.builtin "sorted") [.ref T]) Q E s := by
  refine Calls.call_function_entry kind_sorted plain_sorted entry_sorted (args_sorted1 _) ?_
  unfold Builtin.«sorted»
  refine wpAny_bind (m := checkCount "sorted" 1 1 _) (wpAny_pure ?_)
  refine wpAny_bind (collect_list hl ?_ (by rw [sizeLine_eq]; omega))
  refine wpAny_bind (wpAny_newList ?_ (by rw [sizeLine_eq]; omega))
  have hsz : ((s.heap.push (seqObj "list" #[] 0)).update s.heap.objs.size (Obj.mapSeq (· ++ vs.toArray))).objs.size = s.heap.objs.size + 1 := by
    rw [Heap.size_update, size_push']
  have hoL : (((s.heap.push (seqObj "list" #[] 0)).update s.heap.objs.size (Obj.mapSeq (· ++ vs.toArray))).push (seqObj "list" vs.toArray 0)).get? (s.heap.objs.size + 1) = some (seqObj "list" vs.toArray 0) := by
    rw [← hsz]; exact Heap.get?_push_size _ rfl
  have keep : ∀ b o, s.heap.get? b = some o → (((s.heap.push (seqObj "list" #[] 0)).update s.heap.objs.size (Obj.mapSeq (· ++ vs.toArray))).push (seqObj "list" vs.toArray 0)).get? b = some o := fun b o q => by
    have hlt : b < s.heap.objs.size := Heap.lt_size q
    rw [Heap.get?_push_ne _ _ _ (by rw [hsz]; exact Nat.ne_of_lt (Nat.lt_succ_of_lt hlt)), Heap.get?_update_ne _ _ _ _ (Nat.ne_of_lt hlt), Heap.get?_push_ne _ _ _ (Nat.ne_of_lt hlt)]
    exact q
  have hL : L < s.heap.objs.size := F.ns.lt
  show wpAny _ _ _ _ _ { s with heap := ((s.heap.push (seqObj "list" #[] 0)).update s.heap.objs.size (Obj.mapSeq (· ++ vs.toArray))).push (seqObj "list" vs.toArray 0) }
  rw [hsz]
  refine wpAny_bind (wpAny_holding (wpAny_call_entry slot_list_sort ⟨_, hoL, rfl⟩ entry_list_sort ?body (args_list_sort _)))
  refine sort_few (s := { s with heap := ((s.heap.push (seqObj "list" #[] 0)).update s.heap.objs.size (Obj.mapSeq (· ++ vs.toArray))).push (seqObj "list" vs.toArray 0) })
    (F.kept keep) (N.grown keep) hoL (Nat.ne_of_gt (Nat.lt_succ_of_lt hL)) (Heap.get?_none_of_le (Nat.le_trans F.above (Nat.le_succ_of_le (Nat.le_of_lt hL))))
    (fun p hp => Nat.ne_of_lt (Nat.lt_succ_of_lt (Heap.lt_size (N p hp).1))) h2 fun c h' F' N' => ?_
  exact ⟨_, rfl, wpAny_pure ⟨_, rfl, h _ c h' F' N' fun q hq => Nat.lt_succ_of_lt (Heap.lt_size (N q hq).1)⟩⟩
/-- sorted upon a list of clients -/
theorem sorted_cl {Q : Value → Shared → Prop} {n₁ : List (Addr × Obj)} (F : Fr h₀ L s.heap m) (N : News h₀ L s.heap news) (hm : (T, listOf vs.toArray n) ∈ news) (hD : DatAll n₁ vs (ks.map clD)) (hs : ∀ p ∈ n₁, p ∈ news) (h64 : ks.length < 64) (hu : A.units + 30 < cLine)
    (h : ∀ (D : Addr) (c : Nat) (h' : Heap) (vs' : List Value) (ks' : List Str), Fr h₀ L h' m → News h₀ L h' ((D, listOf (List.toArray vs') c) :: news) → (∀ q ∈ news, q.1 < D) → DatAll n₁ vs' (ks'.map clD) → ks'.Perm ks → ks'.Pairwise kLe → Q (.ref D) { s with heap := h' }) :
    wpAny (model prog w) A (call (.builtin "sorted") [.ref T]) Q E s := by
  have hl : vs.length = ks.length := by rw [hD.length, List.length_map]
  have hL : s.heap.IsList T vs.toArray := ⟨_, N.get hm, rfl, n, rfl⟩
  by_cases h2 : vs.length < 2
  · refine sorted_few F N hL h2 fun D c h' F' N' lt => h D c h' vs ks F' N' lt hD (List.Perm.refl _) ?_
    match ks, hl with
    | [], _ => exact .nil
    | [k], _ => exact .cons (fun _ h => nomatch h) .nil
    | _ :: _ :: _, e => simp at e; omega
  · have hpos : 0 < vs.length := by omega
    refine kas_sorted (T := .type "list") F N hL (by omega) (by omega) ?_ rfl ?_
    · intro h F' N' v hv
      obtain ⟨i, hi, e⟩ := List.mem_iff_getElem.mp hv
      obtain ⟨v', hv', hd⟩ := all_map_get hD (i := i) (by omega)
      rw [List.getElem?_eq_getElem hi, e] at hv'
      cases hv'
      obtain ⟨a, r, t, n, rfl, hm, _⟩ := cl_inv hd
      exact (Looks.ld (N'.get (hs _ hm))).andThen .now
    · intro D e1 h' F' N' lt
      have O := ordC ks
      have so := sort_ok O (n := vs.length) (by omega)
      refine InR.wp (c := fun i j => decide ((ks.getD i Str.empty).cps.toList < (ks.getD j Str.empty).cps.toList)) ?_ _ (in_sort hpos) ?_
      · intro i j C hi hj hC
        obtain ⟨vi, ei, di⟩ := all_map_get hD (i := i) (by omega)
        obtain ⟨vj, ej, dj⟩ := all_map_get hD (i := j) (by omega)
        show wpAny _ _ (keyLt' oneType' (vs.getD i Value.none) (vs.getD j Value.none)) C _ _
        rw [List.getD_eq_getElem?_getD, List.getD_eq_getElem?_getD, ei, ej]
        exact cl_ask (news := (D, seqObj "list" #[] e1) :: news) N' (di.mono fun _ h => .tail _ (hs _ h)) (dj.mono fun _ h => .tail _ (hs _ h)) (by show A.units + 1 + 1 + 22 < cLine; omega) hC
      · refine KasFin.intro F' N' (g := fun o => (D, o) :: news) (.head fun p hp => Nat.ne_of_lt (lt p hp)) fun h'' c F'' N'' => ?_
        generalize kev _ (kas_sort vs.length) = p at so N''
        obtain ⟨hp, hs2⟩ := so
        have hpl : p.toList.Perm (List.range vs.length) := by
          have := Array.perm_iff_toList_perm.mp hp
          simpa using this
        have hin : ∀ i ∈ p.toList, i < ks.length := fun i hi => by
          have := hpl.mem_iff.mp hi
          rw [List.mem_range] at this
          omega
        refine h D c h'' (p.toList.map fun i => vs.getD i Value.none) (p.toList.map fun i => ks.getD i Str.empty) F'' N'' lt (all_perm hD _ hin) ?_ ?_
        · have e := hpl.map fun i => ks.getD i Str.empty
          rw [hl, range_getD] at e
          exact e
        · rw [List.pairwise_map, List.pairwise_iff_getElem]
          intro i j hi hj hij
          have hz : p.toList.length = vs.length := by rw [hpl.length_eq, List.length_range]
          have q := hs2 i j (Nat.le_of_lt hij) (by omega)
          have g : ∀ x (hx : x < p.toList.length), gD p x = p.toList[x] := fun x hx => by
            unfold gD
            rw [Array.getD_eq_getD_getElem?]
            simp at hx
            simp [hx]
          rw [g i hi, g j hj] at q
          exact of_decide_eq_false q
end
def placeGo : Nat → List Str → Nat → Nat
  | 0, _, p => p
  | n + 1, ring, p => if ring.getD p Str.empty = Str.empty then p else placeGo n ring ((p + 1) % 7)
def dueStep (ring : List Str) (k : Str) : List Str := ring.set (placeGo 7 ring (homeF k).toNat) k
def dueOf (ks : List Str) : List Str := ks.foldl dueStep (List.replicate 7 Str.empty)
local macro_rules | `(tactic| walk_at "pyIter ref") => `(tactic| (k_here; refine stop_at ?_))
local macro_rules | `(tactic| walk_at "CompRest") => `(tactic| (k_here; refine stop_at ?_))
-- a loop upon a list of the ledger; a comprehension's turns
section
variable {prog : Program} {w : World} {A : Around} {E : Value → Shared → Prop} {s : Shared} {env : Env} {h₀ : Heap} {x : Str} {body : List Stmt} {Q : Flow → Shared → Prop}
theorem iter_any {l : Addr} {vs : List Value} {c : Nat} {m₀ : Str → Option Value} {news nx₀ : List (Addr × Obj)} (J : Nat → (Str → Option Value) → List (Addr × Obj) → Prop)
    (hh : A.handled = none) (hm : (l, listOf vs.toArray c) ∈ news) (F : Fr h₀ env.locals s.heap m₀) (N : News h₀ env.locals s.heap news) (hs : ∀ p ∈ nx₀, p ∈ news) (hl : ∀ p ∈ nx₀, p.1 ≠ l) (hj : J 0 m₀ nx₀)
    (turn : ∀ i v m₁ nx h tk own, vs[i]? = some v → OwnOff own (nx.map (·.1)) → J i m₁ nx → Fr h₀ env.locals h (fun y => if y = x then some v else m₁ y) → News h₀ env.locals h (nx ++ own) →
      wpAny (model prog w) A (execs body env) (InvPostG h₀ env.locals (J (i + 1)) own { s with heap := h, toks := tk } Q) E { s with heap := h, toks := tk })
    (done : ∀ m₁ nx h tk, J vs.length m₁ nx → Fr h₀ env.locals h m₁ → News h₀ env.locals h nx → Q .next { s with heap := h, toks := tk }) :
    wpAny (model prog w) A (pyIter (.ref l)) (fun it s₂ => LoopAtV prog w A h₀ env x body Q E it s₂) E s := by
  have hls : s.heap.IsList l vs.toArray := ⟨_, N.get hm, rfl, c, rfl⟩
  have hlt : l < s.heap.objs.size := Heap.lt_size (N.get hm)
  have hne : l ≠ s.heap.objs.size := Nat.ne_of_lt hlt
  have hl0 : h₀.get? l = none := N.fresh hm
  refine wpAny_pyIter_list hls ?_
  have W := Walks.list (prog := prog) (w := w) hh s.heap.objs.size l hne vs.toArray
  have hlen : vs.toArray.size = vs.length := by simp
  rw [hlen] at W
  refine ⟨_, _, _, vs.length, _, _, m₀, nx₀, (fun i m nx => J i m nx ∧ ∀ p ∈ nx, p.1 ≠ l), rfl, W, ?_, ?_, ?_, ⟨⟨_, Heap.get?_push_size _ rfl, rfl, rfl⟩, hls.at fun o e => Heap.get?_push_of_some _ e⟩, F.push _, (fun p hp => ⟨Heap.get?_push_of_some _ (N p (hs p hp)).1, (N p (hs p hp)).2⟩), ⟨hj, hl⟩, ?_, ?_⟩
  · intro hq
    rcases List.mem_cons.mp hq with e | hq
    · exact absurd F.ns.lt (e ▸ Nat.lt_irrefl _)
    · exact (N _ hm).2.1 (List.mem_singleton.mp hq).symm
  · intro b hb
    rw [List.mem_singleton.mp hb]
    exact next_is_new F
  · intro p hp hI
    exact absurd (Heap.lt_size (N p (hs p hp)).1) ((List.mem_singleton.mp hI) ▸ Nat.lt_irrefl _)
  · rintro i v m₁ nx s₁ own ⟨hh', tk', rfl⟩ hin hP ⟨hJ, hJl⟩ hoff hown _ hfp hst F₁ N₁
    have hI0 : h₀.get? s.heap.objs.size = none := next_is_new F
    obtain ⟨⟨oI, hoI, _⟩, ⟨oL, hoL, _⟩⟩ := id hst
    have hIown : (s.heap.objs.size, oI) ∈ own := hfp _ (List.mem_cons.mpr (.inl rfl)) hI0 _ hoI
    have hLown : (l, oL) ∈ own := hfp _ (List.mem_cons.mpr (.inr (List.mem_singleton.mpr rfl))) hl0 _ hoL
    have hsep : OwnOff own (nx.map (·.1)) := by
      intro p hp b hb e
      obtain ⟨q, hq, rfl⟩ := List.mem_map.mp hb
      rcases List.mem_cons.mp (hown p hp) with h1 | h1
      · exact hoff q hq (List.mem_singleton.mpr (e ▸ h1))
      · exact hJl q hq (by rw [← e]; exact List.mem_singleton.mp h1)
    have N₂ : News h₀ env.locals hh' (nx ++ own) := fun p hp => N₁ p ((List.mem_append.mp hp).elim (fun h => List.mem_append.mpr (.inr h)) fun h => List.mem_append.mpr (.inl h))
    refine wpAny_mono (turn i v m₁ nx hh' tk' own (by simpa using hP) hsep hJ F₁ N₂) (fun f s₂ p => ?_) fun _ _ e => e
    have fin : InvEndG h₀ env.locals (J (i + 1)) own { s with heap := hh', toks := tk' } s₂ → LoopStepU h₀ env.locals [s.heap.objs.size] own (fun m nx => J (i + 1) m nx ∧ ∀ p ∈ nx, p.1 ≠ l) { s with heap := hh', toks := tk' } .next s₂ := by
      rintro ⟨h', tk, m', news', nx', e, F', N', hn, ho, ha, hm'⟩
      refine ⟨rfl, h', tk, m', nx', e, F', fun p hp => N' p ((List.mem_append.mp hp).elim (ho p) (hn p)), fun p hp hq => ?_, hm', fun p hp => ?_⟩
      · exact ha _ hIown p.1 (List.mem_map.mpr ⟨p, hp, rfl⟩) (List.mem_singleton.mp hq).symm
      · exact (ha _ hLown p.1 (List.mem_map.mpr ⟨p, hp, rfl⟩)).symm
    cases f with
    | ret v => exact .ret p
    | brk => exact .brk p
    | next => exact .next (fin p)
    | cont => exact .cont (fin p)
  · rintro h' tk m' news' F' N' _ ⟨hJ, _⟩
    exact done m' news' h' tk hJ F' N'
theorem rest_ind {L : Addr} {m : Str → Option Value} {elt : PySem.Expr} {scope : Scope} {cl : List (Str × Addr)} {S : List (Addr × Obj) → Prop} {P : Nat → Value → Prop} {Fin : List Value → List (Addr × Obj) → Prop} {n : Nat} (J : Nat → List Value → List (Addr × Obj) → Prop)
    (step : ∀ i ys nx v I oI C oC D m₂ h tk (E' : Value → Shared → Prop), i < n → J i ys nx → P i v → LCg.NsObj oC m₂ → m₂ x = some v → Fr h₀ L h m → News h₀ L h ((I, oI) :: (C, oC) :: (D, LCg.lst ys) :: nx) → LCg.Off3 I C D nx → ((@Ne Nat I C) ∧ (@Ne Nat I D) ∧ (@Ne Nat C D)) →
      wpAny (model prog w) A (eval elt (compEnvC scope cl C env)) (LCg.CompEnd h₀ L m { s with heap := h, toks := tk } I oI C oC D (LCg.lst ys) S (fun y nx' => J (i + 1) (ys ++ [y]) nx')) E' { s with heap := h, toks := tk })
    (fin : ∀ ys nx, J n ys nx → Fin ys nx) : ∀ k i ys nx, i + k = n → J i ys nx → LCg.CompRest prog w A h₀ L m env elt x scope cl s S P Fin k i ys nx
  | 0, i, ys, nx, e, hj => LCg.CompRest.zero (fin ys nx (by rw [← e]; exact hj))
  | k + 1, i, ys, nx, e, hj => by
    refine LCg.CompRest.succ ?_
    intro v I oI C oC D m₂ h tk E' hP hC hx F N off ne
    refine wpAny_mono (step i ys nx v I oI C oC D m₂ h tk E' (by omega) hj hP hC hx F N off ne) (fun y s' z => ?_) fun _ _ e => e
    obtain ⟨h', tk', nx', e1, F', N', off', hS, r⟩ := z
    exact ⟨h', tk', nx', e1, F', N', off', hS, rest_ind J step fin k (i + 1) (ys ++ [y]) nx' (by omega) r⟩
end
theorem mem4 {α : Type} {a b c d : α} {r : List α} : ∀ p ∈ a :: b :: c :: d :: r, p ∈ d :: a :: b :: c :: r := by
  intro p hp
  simp only [List.mem_cons] at hp ⊢
  rcases hp with h | h | h | h | h <;> simp [h]
theorem off3_new {I C D l : Addr} {nx : List (Addr × Obj)} {o : Obj} (h : LCg.Off3 I C D nx) (h1 : I < l) (h2 : C < l) (h3 : D < l) : LCg.Off3 I C D ((l, o) :: nx) :=
  ⟨⟨Nat.ne_of_gt h1, Nat.ne_of_gt h2, Nat.ne_of_gt h3⟩, h⟩
theorem allLt_mem {d : Addr} : ∀ {l : List (Addr × Obj)}, AllLt d l → ∀ p ∈ l, p.1 < d
  | [], _, _, h => nomatch h
  | _ :: _, x, p, h => by
    rcases List.mem_cons.mp h with rfl | h
    · exact x.1
    · exact allLt_mem x.2 p h
theorem off1_mem {D : Addr} : ∀ {l : List (Addr × Obj)}, LCg.Off1 D l → ∀ p ∈ l, p.1 ≠ D
  | [], _, _, h => nomatch h
  | _ :: _, x, p, h => by
    rcases List.mem_cons.mp h with rfl | h
    · exact x.1
    · exact off1_mem x.2 p h
theorem m1 {m : Str → Option Value} {a : Str} {va : Value} (h1 : m a = some va) : m = fun y => if y = a then some va else m y := by
  funext y
  by_cases e1 : y = a
  · rw [if_pos e1, e1, h1]
  rw [if_neg e1]
theorem datAll_set {news : List (Addr × Obj)} {v : Value} {d : Dat} : ∀ {vs : List Value} {ds : List Dat}, DatAll news vs ds → DatIn news v d → ∀ j, DatAll news (vs.set j v) (ds.set j d)
  | _, _, .nil, _, _ => .nil
  | _, _, .cons _ r, h, 0 => .cons h r
  | _, _, .cons x r, h, j + 1 => .cons x (datAll_set r h j)
theorem dueStep_len (ring : List Str) (k : Str) : (dueStep ring k).length = ring.length := List.length_set ..
theorem due_len : ∀ (ks ring : List Str), (ks.foldl dueStep ring).length = ring.length
  | [], _ => rfl
  | k :: r, ring => by rw [List.foldl_cons, due_len r, dueStep_len]
theorem dueOf_len (ks : List Str) : (dueOf ks).length = 7 := by rw [dueOf, due_len]; rfl
def fullN (ring : List Str) : Nat := ring.countP (fun x => decide (x ≠ Str.empty))
theorem fullN_set (k : Str) : ∀ (ring : List Str) (j : Nat), fullN (ring.set j k) ≤ fullN ring + 1
  | [], _ => Nat.zero_le _
  | x :: r, 0 => by
    unfold fullN
    rw [List.set_cons_zero, List.countP_cons, List.countP_cons]
    split <;> split <;> omega
  | x :: r, j + 1 => by
    have := fullN_set k r j
    unfold fullN at this ⊢
    rw [List.set_cons_succ, List.countP_cons, List.countP_cons]
    omega
theorem due_full : ∀ (ks ring : List Str), fullN (ks.foldl dueStep ring) ≤ fullN ring + ks.length
  | [], _ => Nat.le_refl _
  | k :: r, ring => by
    have h1 := due_full r (dueStep ring k)
    have h2 := fullN_set k ring (placeGo 7 ring (homeF k).toNat)
    rw [List.foldl_cons, List.length_cons]
    unfold dueStep at h1
    unfold dueStep
    omega
theorem hole_of_full : ∀ (ring : List Str), fullN ring < ring.length → ∃ j, j < ring.length ∧ ring.getD j Str.empty = Str.empty
  | [], h => absurd h (Nat.not_lt_zero _)
  | x :: r, h => by
    by_cases e : x = Str.empty
    · exact ⟨0, by simp, by simp [e]⟩
    · have : fullN r < r.length := by
        unfold fullN at h ⊢
        rw [List.countP_cons, if_pos (by simpa using e), List.length_cons] at h
        omega
      obtain ⟨j, h1, h2⟩ := hole_of_full r this
      exact ⟨j + 1, by simpa using h1, by simpa using h2⟩
theorem hole_ahead {ring : List Str} (h7 : ring.length = 7) (hf : fullN ring < 7) {p : Nat} (hp : p < 7) : ∃ n, n < 7 ∧ ring.getD ((p + n) % 7) Str.empty = Str.empty := by
  obtain ⟨j, h1, h2⟩ := hole_of_full ring (by omega)
  refine ⟨(j + 7 - p) % 7, by omega, ?_⟩
  rw [show (p + (j + 7 - p) % 7) % 7 = j by omega]
  exact h2
theorem placeGo_enough {ring : List Str} : ∀ (n k : Nat) {p : Nat}, p < 7 → ring.getD ((p + n) % 7) Str.empty = Str.empty → placeGo (n + k) ring p = placeGo n ring p
  | 0, k, p, hp, h => by
    rw [Nat.add_zero, Nat.mod_eq_of_lt hp] at h
    rw [Nat.zero_add]
    cases k with
    | zero => rfl
    | succ k => simp only [placeGo]; rw [if_pos h]
  | n + 1, k, p, hp, h => by
    rw [show n + 1 + k = n + k + 1 by omega, placeGo, placeGo]
    by_cases e : ring.getD p Str.empty = Str.empty
    · rw [if_pos e, if_pos e]
    · rw [if_neg e, if_neg e]
      exact placeGo_enough n k (by omega) (by rw [show ((p + 1) % 7 + n) % 7 = (p + (n + 1)) % 7 by omega]; exact h)
section
variable {prog : Program} {w : World} {A : Around} {E : Value → Shared → Prop} {s : Shared} {h₀ : Heap} {L a : Addr} {news n₁ : List (Addr × Obj)} {x0 x1 : Value} {n : Nat} {u : Tok}
theorem c1get {value slice : PySem.Expr} {Q : Value → Shared → Prop} (N : News h₀ L s.heap news) (hm : (a, listOf [x0, x1].toArray n) ∈ n₁) (hsub : ∀ p ∈ n₁, p ∈ news) (h : Q x1 s)
    (hs : subscripted slice false (.ref a) (.int 1 u) = operate [.ref a, .int 1 u] (getItem (.ref a) (.int 1 u)) := by with_unfolding_all rfl) (hg : ∀ r, letTemporaryGo value (.ref a) r = pure () := by intro _; with_unfolding_all rfl) :
    wpAny (model prog w) A (subscriptTail value slice (.ref a) (.int 1 u)) Q E s := kim_list N (hsub _ hm) rfl rfl (by decide) (by decide) rfl h hs hg
end
def dueJ (D : Addr) (fr : List (Addr × Obj)) (ks : List Str) (i : Nat) (m : Str → Option Value) (nx : List (Addr × Obj)) : Prop :=
  ∃ us, nx = (D, listOf (List.toArray us) 7) :: fr ∧ DatAll fr us ((dueOf (ks.take i)).map dueD) ∧ m (Str.ofString "ring") = some (.ref D)
def dueW (D : Addr) (rest : List (Addr × Obj)) (us : List Value) (ring : List Str) (v : Value) (tgt n : Nat) (m : Str → Option Value) (nx : List (Addr × Obj)) : Prop :=
  ∃ (p : Int) (pt : Tok), nx = (D, listOf us.toArray 7) :: rest ∧ m (Str.ofString "place") = some (.int p pt) ∧ m (Str.ofString "client") = some v ∧ m (Str.ofString "ring") = some (.ref D) ∧
    0 ≤ p ∧ p < 7 ∧ ring.getD ((p.toNat + n) % 7) Str.empty = Str.empty ∧ n < 7 ∧ placeGo n ring p.toNat = tgt
theorem due_K {w : World} {mean : ExcName → Option Value} {mg mb : Str → Option Value} {news : List (Addr × Obj)} {Tb : Addr} {vs : List Value} {ks : List Str} {c : Nat} (hm : (Tb, listOf vs.toArray c) ∈ news) (hD : DatAll news vs (ks.map clD)) (h7 : ks.length ≤ 7) (hne0 : ∀ k ∈ ks, k ≠ Str.empty) :
    Ct w mean mg mb 6 122 [.ref Tb] news (fun v nx => ∃ (D : Addr) (tl : List (Addr × Obj)) (vs' : List Value) (ks' : List Str) (c' : Nat), v = .ref D ∧ nx = tl ++ news ∧ (∀ p ∈ tl, ∀ q ∈ news, q.1 ≠ p.1) ∧ (D, listOf vs'.toArray c') ∈ tl ∧ DatAll nx vs' ((dueOf ks').map dueD) ∧ ks'.Perm ks ∧ ks'.Pairwise kLe) := by
  w_top off
  intro dp un gd cn cs a ccd cl outer A₀ base h₀ L m s Q E B F X N T hk hdp hu hret
  refine wpAny_call ?_
  k_dflt ktr_enter
  k_steps
  unfold Stop
  k_dflt (refine' rest_ind (fun i ys nx => ∃ tl, nx = tl ++ news ∧ ys.length = i ∧ DatAll tl ys (List.replicate i (Dat.list [])) ∧ ∀ p ∈ tl, ∀ q ∈ news, q.1 ≠ p.1) ?step ?fin _ _ _ _ rfl ⟨[], rfl, rfl, .nil, fun _ h => nomatch h⟩)
  case step =>
    rintro i ys nx v I oI C oC D m₂ h tk E' hi ⟨tl, rfl, hlen, hall, hne⟩ hP hC hx F' N' off ne
    (try k_unmd)
    k_steps
    rename _ ∧ _ ∧ _ ∧ AllLt _ _ => l1
    obtain ⟨i1, i2, i3, i4⟩ := l1
    refine LCg.CompEnd.intro (by k_asm) (by k_asm) ((_, _) :: (tl ++ news)) mem4 (off3_new off i1 i2 i3) trivial ⟨(_, _) :: tl, rfl, by simp [hlen], ?_, ?_⟩
    · rw [List.replicate_succ']
      exact DatAll.append (hall.mono fun _ h => .tail _ h) (DatAll.one (.list (vs := []) (.head _) .nil))
    · intro p hp q hq
      rcases List.mem_cons.mp hp with rfl | hp
      · exact Nat.ne_of_lt (allLt_mem i4 q (List.mem_append_right _ hq))
      · exact hne p hp q hq
  case fin =>
    rintro ys nx ⟨tl, rfl, hlen, hall, hne⟩
    unfold LCg.FinA
    intro D1 h1 tk1 F1 N1 o1
    have hm2 : (Tb, listOf vs.toArray c) ∈ (D1, LCg.lst ys) :: (tl ++ news) := .tail _ (List.mem_append_right _ hm)
    (try k_unmd)
    (try dsimp only)
    (try k_fold)
    (repeat' (first | ((with_reducible show wpAny _ _ (call (Value.builtin "sorted") _ _) _ _ _); k_dflt (refine' sorted_cl ?k1 ?k2 ?k3 ?k4 ?k7 ?k5 ?k6 ?_; (case k1 => k_asm); (case k2 => k_asm); (case k4 => with_reducible assumption); (case k3 => first | k_mem | assumption | exact List.mem_cons_of_mem _ (by assumption)); (case k7 => first | exact fun _ h => h | exact fun _ h => List.Mem.tail _ (List.mem_append_right _ h) | kqd_sub); (case k5 => omega); (case k6 => ktr_units)); intro D' c' h' vs' ks' F' N' l1 dD' pm' pw'; (try k_fold)) | (k_unfold; (try dsimp only)) | (k_end; wrow_close) | walk1 | (dsimp only; walk1) | (leave1; walk_say "STEP leave1"; try dsimp only) | fail "no step"))
    unfold Stop
    rename Fr _ _ _ _ => kF
    rename News _ _ _ _ => kN
    rename DatAll news _ _ => dDs
    rename List.Perm _ ks => pm
    rename List.Pairwise kLe _ => pw
    rename List Str => ks'
    rename List Value => vs'
    rename ∀ (q : Addr × Obj), q ∈ (D1, LCg.lst ys) :: (tl ++ news) → _ => lt1
    have hl7 : ys.length = 7 := hlen
    k_dflt (refine' iter_any (nx₀ := (D1, LCg.lst ys) :: (tl ++ news)) (dueJ D1 (tl ++ news) ks') ?h1 (.head _) kF kN (fun _ h => .tail _ h) (fun p hp => Nat.ne_of_lt (lt1 p hp)) ?hj ?turn ?done)
    case h1 => exact rfl
    case hj =>
      refine ⟨ys, by unfold LCg.lst; rw [hl7], ?_, rfl⟩
      rw [List.take_zero]
      exact hall.mono fun _ h => List.mem_append_left _ h
    case turn =>
      rintro i v m₁ nx h tk own hv hoff ⟨us, rfl, hus, hr⟩ F₁ N₁
      dsimp only [envOf] at F₁ N₁
      have hiv : i < vs'.length := (List.getElem?_eq_some_iff.mp hv).1
      have hkl : vs'.length = ks'.length := by rw [dDs.length, List.length_map]
      have hkl2 : ks'.length = ks.length := pm.length_eq
      obtain ⟨v', hv', hd⟩ := all_map_get dDs (i := i) (by omega)
      rw [hv] at hv'
      cases hv'
      obtain ⟨a1, r1, t1, n1, rfl, ma, mc⟩ := cl_inv hd
      have hne3 : ∀ p ∈ (tl ++ news) ++ own, p.1 ≠ D1 := by
        intro p hp
        rcases List.mem_append.mp hp with hp | hp
        · exact off1_mem o1 p hp
        · exact hoff p hp D1 (by simp)
      have hu7 : us.length = 7 := by rw [hus.length, List.length_map, dueOf_len]
      have hr7 : (dueOf (ks'.take i)).length = 7 := dueOf_len _
      have hfull : fullN (dueOf (ks'.take i)) < 7 := by
        have q := due_full (ks'.take i) (List.replicate 7 Str.empty)
        have z : fullN (List.replicate 7 Str.empty) = 0 := by decide
        rw [List.length_take] at q
        show fullN ((ks'.take i).foldl dueStep (List.replicate 7 Str.empty)) < 7
        omega
      have hh := home_range (ks'.getD i Str.empty)
      obtain ⟨n2, hn2, he2⟩ := hole_ahead hr7 hfull (p := (homeF (ks'.getD i Str.empty)).toNat) (by omega)
      rw [m1 hr] at F₁
      rw [List.cons_append] at N₁
      (try k_unmd)
      (try k_fold)
      (repeat' (first | ((with_reducible show wpAny _ _ (subscriptTail _ _ (Value.ref _) (Value.int 1 _)) _ _ _); k_dflt (refine' c1get ?k1 ?k2 ?k3 ?_ ?k7 ?k8; (case k1 => k_asm); (case k2 => with_reducible assumption); (case k3 => (first | (intro p9 h9; simp only [List.mem_cons, List.mem_append] at h9 ⊢; first | (simp [h9]; done) | (rcases h9 with h9 | h9 <;> simp [h9]; done) | (rcases h9 with h9 | h9 | h9 <;> simp [h9]; done)) | kqd_sub)); ((case k7 => with_unfolding_all rfl); (case k8 => (intro _; with_unfolding_all rfl))); k_whole)) | (k_unfold; (try dsimp only)) | (k_end; wrow_close) | walk1 | (dsimp only; walk1) | (leave1; walk_say "STEP leave1"; try dsimp only) | fail "no step"))
      unfold Stop
      rename Fr _ _ _ _ => kF2
      rename News _ _ _ _ => kN2
      k_dflt (refine' While_inv2 (dueW D1 ((tl ++ news) ++ own) us (dueOf (ks'.take i)) (.ref a1) (placeGo 7 (dueOf (ks'.take i)) (homeF (ks'.getD i Str.empty)).toNat)) (n₀ := n2) kF2 kN2 ?hJ ?turn ?hE)
      case hJ =>
        refine ⟨_, _, rfl, rfl, rfl, rfl, hh.1, hh.2, he2, hn2, ?_⟩
        rw [show 7 = n2 + (7 - n2) by omega]
        exact (placeGo_enough n2 (7 - n2) (by omega) he2).symm
      case hE => passes_own
      case turn =>
        clear kF2 kN2
        rintro n₁ m₂ nx₂ h₂ tk₂ F₂ N₂ ⟨p₁, pt₁, rfl, mp, mc2, mr, p0, p7, he₁, hn₁, ht₁⟩
        rw [m3 mp mc2 mr] at F₂
        (try k_unmd)
        (try k_fold)
        (repeat' (first | ((with_reducible show wpAny _ _ (compareOp CmpOp.NotEq (Value.ref _) (Value.ref _)) _ _ _); k_dflt (refine' cmp_nnil ?k1 ?k2 ?k3 ?k4 ?k5 ?k6 ?k7 ?k8 ?k9 ?_; (case k1 => k_asm); (case k2 => with_reducible assumption); (case k3 => with_reducible assumption); (case k5 => (first | (intro p9 h9; simp only [List.mem_cons, List.mem_append] at h9 ⊢; first | (simp [h9]; done) | (rcases h9 with h9 | h9 <;> simp [h9]; done) | (rcases h9 with h9 | h9 | h9 <;> simp [h9]; done)) | kqd_sub)); (case k6 => k_mem); (case k7 => exact rfl); (case k8 => exact rfl); (case k4 => omega); (case k9 => ktr_units); k_whole)) | ((with_reducible show wpAny _ _ (subscriptTail _ _ (Value.ref _) (Value.int _ _)) _ _ _); k_dflt (refine' dget ?k1 ?k2 ?k3 ?k4 ?k5 ?k6 ?_ ?k7 ?k8; (case k1 => k_asm); (case k3 => with_reducible assumption); (case k2 => first | k_mem | assumption | exact List.mem_cons_of_mem _ (by assumption) | exact List.mem_cons_of_mem _ (List.mem_cons_of_mem _ (by assumption))); (case k4 => omega); (case k5 => omega); (case k6 => omega); (case k7 => (intro _; with_unfolding_all rfl)); (case k8 => (intro _ _; with_unfolding_all rfl)); k_whole); intro _ _) | ((with_reducible show wpAny _ _ (setItem (Value.ref _) (Value.int _ _) _) _ _ _); k_dflt (refine' mset ?k1 ?k2 ?k3 ?k5 ?k6 ?k7 ?_; (case k1 => k_asm); (case k2 => k_asm); (case k3 => k_upd); (case k5 => omega); (case k6 => first | omega | (simp only [List.length_set]; omega)); (case k7 => omega); k_whole); intro h' F' N'; (try k_sweep)) | (k_unfold; (try dsimp only)) | (k_end; wrow_close) | walk1 | (dsimp only; walk1) | (leave1; walk_say "STEP leave1"; try dsimp only) | fail "no step"))
        · rename (dueOf (List.take i ks')).getD p₁.toNat Str.empty = Str.empty => hx
          have hp : placeGo 7 (dueOf (ks'.take i)) (homeF (ks'.getD i Str.empty)).toNat = p₁.toNat := by
            rw [← ht₁]
            cases n₁ with
            | zero => rfl
            | succ k => rw [placeGo, if_pos hx]
          have hk0 : ks'.getD i Str.empty ≠ Str.empty := by
            refine hne0 _ (pm.mem_iff.mp ?_)
            simp [show i < ks'.length by omega]
          have hstep : dueOf (ks'.take (i + 1)) = (dueOf (ks'.take i)).set p₁.toNat (ks'.getD i Str.empty) := by
            have e : ks'.take (i + 1) = ks'.take i ++ [ks'.getD i Str.empty] := by
              rw [List.take_add_one]
              simp [show i < ks'.length by omega]
            rw [e, dueOf, List.foldl_append]
            show dueStep (dueOf (ks'.take i)) (ks'.getD i Str.empty) = _
            unfold dueStep
            rw [hp]
          rename Fr _ _ _ _ => kF3
          rename News _ _ _ _ => kN3
          refine InvEndG.intro (nx := (D1, listOf (us.set p₁.toNat (.ref a1)).toArray 7) :: (tl ++ news)) kF3 kN3 ⟨us.set p₁.toNat (.ref a1), rfl, ?_, rfl⟩ ?_ ?_ ?_
          · rw [hstep, List.map_set]
            refine datAll_set hus ?_ _
            rw [dueD, if_neg hk0]
            exact hd.mono fun _ h => List.mem_append_right _ h
          · simp only [List.map_cons] at hoff ⊢
            exact hoff
          · intro q hq
            rcases List.mem_cons.mp hq with rfl | hq
            · exact .tail _ (.head _)
            · exact .tail _ (.tail _ (List.mem_append_left _ hq))
          · exact fun q hq => .tail _ (.tail _ (List.mem_append_right _ hq))
        · rename ¬ ((dueOf (List.take i ks')).getD p₁.toNat Str.empty = Str.empty) => hx
          have h0 : n₁ ≠ 0 := hole_pos (p := p₁.toNat) (by omega) he₁ hx
          have e1 := toNat_next p0 p7
          refine ⟨_, _, _, (D1, listOf us.toArray 7) :: ((tl ++ news) ++ own), n₁ - 1, rfl, (by k_asm), news_drop (by k_asm) (fun _ h => .tail _ h), (by omega), _, _, rfl, rfl, rfl, rfl, next_range.1, next_range.2, ?_, (by omega), ?_⟩
          · rw [e1, hole_next h0]; exact he₁
          · rw [e1, ← ht₁]
            obtain ⟨k, rfl⟩ := Nat.exists_eq_succ_of_ne_zero h0
            conv => rhs; rw [placeGo, if_neg hx]
            rfl
    case done =>
      rintro m₁ nx h tk ⟨us, rfl, hus, hr⟩ F₁ N₁
      dsimp only [envOf] at F₁ N₁
      rw [m1 hr] at F₁
      (try k_unmd)
      (try dsimp only)
      (try k_fold)
      k_steps
      refine hret _ _ _ _ ⟨D1, (D1, listOf us.toArray 7) :: tl, us, ks', 7, rfl, rfl, ?_, .head _, ?_, pm, pw⟩ (by k_asm) (by k_asm)
      · intro p hp q hq
        rcases List.mem_cons.mp hp with rfl | hp
        · exact off1_mem o1 q (List.mem_append_right _ hq)
        · exact hne p hp q hq
      · have e : ks'.take vs'.length = ks' := List.take_of_length_le (by rw [dDs.length, List.length_map]; exact Nat.le_refl _)
        rw [e] at hus
        exact hus.mono fun _ h => .tail _ h
section
variable {prog : Program} {w : World} {A : Around} {E : Value → Shared → Prop} {s : Shared} {h₀ : Heap} {L : Addr} {m : Str → Option Value} {news : List (Addr × Obj)} {x y p0 p1 p2 p3 p4 : Str} {t u : Tok}
theorem sitem {value slice : PySem.Expr} {i : Int} {Q : Value → Shared → Prop} (e : Txt.item x i = y) (h0 : 0 ≤ i) (h2 : i < x.length) (hfit : i < 2 ^ 63) (h : ∀ t' k, Q (.str y t') { s with toks := k })
    (hs : subscripted slice false (.str x t) (.int i u) = operate [.str x t, .int i u] (getItem (.str x t) (.int i u)) := by with_unfolding_all rfl)
    (ht : ∀ r, letTemporaryGo value (.str x t) r = pure () := by intro _; with_unfolding_all rfl) :
    wpAny (model prog w) A (subscriptTail value slice (.str x t) (.int i u)) Q E s :=
  item_str (by simp only [fitsSsize, Bool.not_eq_true', Bool.or_eq_false_iff, Bool.and_eq_true, decide_eq_true_eq, decide_eq_false_iff_not]; omega) (by omega) h2 (fun _ => by rw [e]; exact h _ _) hs ht
theorem split5 {Q : Value → Shared → Prop} (hF : Fr h₀ L s.heap m) (hN : News h₀ L s.heap news) (hy : (y.length == 0) = false) (hsz : x.length ≤ 1000) (e : Txt.split x y = [p0, p1, p2, p3, p4])
    (h : ∀ D t0 t1 t2 t3 t4 h' k, Fr h₀ L h' m → News h₀ L h' ((D, listOf [Value.str p0 t0, .str p1 t1, .str p2 t2, .str p3 t3, .str p4 t4].toArray 0) :: news) → (∀ p ∈ news, p.1 < D) → Q (.ref D) { s with heap := h', toks := k }) :
    wpAny (model prog w) A (call (.builtin "str.split") [.str x t, .str y u]) Q E s := by
  refine KSpl.split1 hF hN hy (fun D l h' k el _ F N lt => ?_) (by rw [sizeLine_eq]; omega)
  rw [e] at el
  obtain ⟨t0, l0, rfl, e0⟩ := KSpl.cons_of el
  obtain ⟨t1, l1, rfl, e1⟩ := KSpl.cons_of e0
  obtain ⟨t2, l2, rfl, e2⟩ := KSpl.cons_of e1
  obtain ⟨t3, l3, rfl, e3⟩ := KSpl.cons_of e2
  obtain ⟨t4, l4, rfl, e4⟩ := KSpl.cons_of e3
  obtain rfl := KSpl.nil_of e4
  exact h D t0 t1 t2 t3 t4 h' k F N lt
theorem split4 {Q : Value → Shared → Prop} (hF : Fr h₀ L s.heap m) (hN : News h₀ L s.heap news) (hy : (y.length == 0) = false) (hsz : x.length ≤ 1000) (e : Txt.split x y = [p0, p1, p2, p3])
    (h : ∀ D t0 t1 t2 t3 h' k, Fr h₀ L h' m → News h₀ L h' ((D, listOf [Value.str p0 t0, .str p1 t1, .str p2 t2, .str p3 t3].toArray 0) :: news) → (∀ p ∈ news, p.1 < D) → Q (.ref D) { s with heap := h', toks := k }) :
    wpAny (model prog w) A (call (.builtin "str.split") [.str x t, .str y u]) Q E s := by
  refine KSpl.split1 hF hN hy (fun D l h' k el _ F N lt => ?_) (by rw [sizeLine_eq]; omega)
  rw [e] at el
  obtain ⟨t0, l0, rfl, e0⟩ := KSpl.cons_of el
  obtain ⟨t1, l1, rfl, e1⟩ := KSpl.cons_of e0
  obtain ⟨t2, l2, rfl, e2⟩ := KSpl.cons_of e1
  obtain ⟨t3, l3, rfl, e3⟩ := KSpl.cons_of e2
  obtain rfl := KSpl.nil_of e3
  exact h D t0 t1 t2 t3 h' k F N lt
theorem find_as {Q : Value → Shared → Prop} {i : Int} (e : Txt.find x y = i) (h : ∀ t' k, Q (.int i t') { s with toks := k }) : wpAny (model prog w) A (call (.builtin "str.find") [.str x t, .str y u]) Q E s := SC.find (by rw [e]; exact h _ _)
theorem find3_as {Q : Value → Shared → Prop} {i j : Int} {v : Tok} (e : Txt.find3 x y j = i) (h : ∀ t' k, Q (.int i t') { s with toks := k }) : wpAny (model prog w) A (call (.builtin "str.find") [.str x t, .str y u, .int j v]) Q E s := SC.find3 (by rw [e]; exact h _ _)
theorem str_ne_as {Q : Value → Shared → Prop} {b : Bool} (e : (x != y) = b) (h : Q (.bool b) s) : wpAny (model prog w) A (compareOp .NotEq (.str x t) (.str y u)) Q E s := by
  refine P.ne_str ?_
  have q : (x.cps.toList != y.cps.toList) = (x != y) := by
    rw [Bool.eq_iff_iff, bne_iff_ne, bne_iff_ne]
    refine not_congr ⟨fun z => ?_, fun z => by rw [z]⟩
    cases x; cases y
    simp only [PySem.Str.mk.injEq] at z ⊢
    exact Array.toList_inj.mp z
  rw [q, e]
  exact h
end
theorem parse_ok {w : World} {mean : ExcName → Option Value} {mg mb : Str → Option Value} {news : List (Addr × Obj)} (x : Str) (t : Tok) (P : Addr) (hv : Value) (tt : Tok)
    (left right : Int) (mk p0 p1 p2 p3 p4 : Str) (port : Int) (hp0 : 0 ≤ port) (hp1 : port < 30)
    (hx : x.length ≤ 1000) (h1 : (Txt.slice x none (some 3) != Str.ofString "229") = false) (h2 : Txt.find x (Str.ofString "(") = left) (hl0 : 0 ≤ left) (hl1 : left + 1 < x.length) (h3 : Txt.find3 x (Str.ofString ")") (left + 1) = right) (hr0 : 0 < right) (hr1 : right ≤ x.length)
    (h4 : Txt.item x (left + 1) = mk) (h5 : Txt.item x (right - 1) = mk) (hmm : (mk != mk) = false) (hm0 : (mk.length == 0) = false) (h6 : Txt.split (Txt.slice x (some (left + 1)) (some right)) mk = [p0, p1, p2, p3, p4]) (h6l : (Txt.slice x (some (left + 1)) (some right)).length ≤ 1000) (h7 : PySem.intText? p3 = some port) (h8 : p3.length ≤ 640) :
    Ct w mean mg mb 6 65 [.str x t, .ref P] ((P, { cls := .type "tuple", data := .seq [hv, Value.int 21 tt].toArray }) :: news) (fun v nx => ∃ a b o t1, v = .ref a ∧ nx = (a, { cls := .type "tuple", data := .seq [hv, Value.int port t1].toArray }) :: (b, o) :: (P, { cls := .type "tuple", data := .seq [hv, Value.int 21 tt].toArray }) :: news) := by
  w_top off
  intro dp un gd cn cs a ccd cl outer A₀ base h₀ L m s Q E B F X N T hk hdp hu hret
  refine wpAny_call ?_
  k_dflt ktr_enter
  (repeat' (first | ((with_reducible show wpAny _ _ (call (Value.builtin "str.split") _ _) _ _ _); k_dflt (first | (refine' split5 ?k1 ?k2 ?k3 ?k4 ?k5 ?_; (case k1 => k_asm); (case k2 => k_asm); (case k5 => with_reducible assumption); (case k3 => with_reducible assumption); (case k4 => assumption); intro _ _ _ _ _ _ _ _ _ _ l1; (try k_lt l1)) | (refine' split4 ?k1 ?k2 ?k3 ?k4 ?k5 ?_; (case k1 => k_asm); (case k2 => k_asm); (case k5 => with_reducible assumption); (case k3 => with_reducible assumption); (case k4 => assumption); intro _ _ _ _ _ _ _ _ _ l1; (try k_lt l1)))) | ((with_reducible show wpAny _ _ (subscriptTail (PySem.Expr.Name _ _) (PySem.Expr.BinOp _ _ _ _) _ _) _ _ _); (with_reducible show wpAny _ _ (subscriptTail _ _ (Value.str _ _) (Value.int _ _)) _ _ _); k_dflt (refine' sitem ?k1 ?k2 ?k3 ?k4 ?_ ?k7 ?k8; (case k1 => with_reducible assumption); (case k2 => omega); (case k3 => omega); (case k4 => omega); ((case k7 => with_unfolding_all rfl); (case k8 => (intro _; with_unfolding_all rfl))); k_whole); intro _ _) | ((with_reducible show wpAny _ _ (compareOp CmpOp.NotEq (Value.str _ _) (Value.str _ _)) _ _ _); k_dflt (refine' str_ne_as ?k1 ?_; (case k1 => with_reducible assumption); k_whole)) | ((with_reducible show wpAny _ _ (call (Value.builtin "str.find") _ _) _ _ _); k_dflt (refine' find3_as ?k1 ?_; (case k1 => with_reducible assumption); k_whole); intro _ _) | ((with_reducible show wpAny _ _ (call (Value.builtin "str.find") _ _) _ _ _); k_dflt (refine' find_as ?k1 ?_; (case k1 => with_reducible assumption); k_whole); intro _ _) | (k_unfold; (try dsimp only)) | (k_end; wrow_close) | walk1 | (dsimp only; walk1) | (leave1; walk_say "STEP leave1"; try dsimp only) | fail "no step"))
  exact hret _ _ _ _ ⟨_, _, _, _, rfl, rfl⟩ (by k_asm) (by k_asm)
theorem bld_str {w : World} {mean : ExcName → Option Value} {mg mb : Str → Option Value} {news : List (Addr × Obj)} (y z : Str) (T : Addr) (t tt : Tok) (hy : y.length ≤ 1000) (hz : z.length ≤ 1000) :
    Ct w mean mg mb 6 79 [.ref T] ((T, { cls := .type "tuple", data := .seq [Value.str y t, Value.str z tt].toArray }) :: news) (fun v nx => nx = (T, { cls := .type "tuple", data := .seq [Value.str y t, Value.str z tt].toArray }) :: news ∧ ∃ t', v = .str (y ++ Str.ofString "." ++ z) t') := by
  w_top off
  intro dp un gd cn cs a ccd cl outer A₀ base h₀ L m s Q E B F X N T hk hdp hu hret
  refine wpAny_call ?_
  k_dflt ktr_enter
  k_steps
  exact hret _ _ _ _ ⟨rfl, _, rfl⟩ (by k_asm) (by k_asm)
theorem bld_none {w : World} {mean : ExcName → Option Value} {mg mb : Str → Option Value} {news : List (Addr × Obj)} (z : Str) (T : Addr) (tt : Tok) (hz : z.length ≤ 1000) :
    Ct w mean mg mb 6 79 [.ref T] ((T, { cls := .type "tuple", data := .seq [Value.none, Value.str z tt].toArray }) :: news) (fun v nx => nx = (T, { cls := .type "tuple", data := .seq [Value.none, Value.str z tt].toArray }) :: news ∧ ∃ t', v = .str (Str.ofString "C" ++ Str.ofString "." ++ z) t') := by
  w_top off
  intro dp un gd cn cs a ccd cl outer A₀ base h₀ L m s Q E B F X N T hk hdp hu hret
  refine wpAny_call ?_
  k_dflt ktr_enter
  k_steps
  exact hret _ _ _ _ ⟨rfl, _, rfl⟩ (by k_asm) (by k_asm)
/-- what the told host may be -/
def HostIs (hv : Value) (y : Str) : Prop := (hv = .none ∧ y = Str.ofString "C") ∨ ∃ t, hv = .str y t
theorem bld_K {w : World} {mean : ExcName → Option Value} {mg mb : Str → Option Value} {news : List (Addr × Obj)} (y z : Str) (T : Addr) (tt : Tok) {hv : Value} (hh : HostIs hv y) (hy : y.length ≤ 1000) (hz : z.length ≤ 1000) :
    Ct w mean mg mb 6 79 [.ref T] ((T, { cls := .type "tuple", data := .seq [hv, Value.str z tt].toArray }) :: news) (fun v nx => nx = (T, { cls := .type "tuple", data := .seq [hv, Value.str z tt].toArray }) :: news ∧ ∃ t', v = .str (y ++ Str.ofString "." ++ z) t') := by
  rcases hh with ⟨rfl, rfl⟩ | ⟨t, rfl⟩
  · exact bld_none z T tt hz
  · exact bld_str y z T t tt hy hz
/-- a contract of a def that tries, called from the law's own frame -/
def Ct0 (w : World) (mean : ExcName → Option Value) (mg mb : Str → Option Value) (need : Nat) (f : Addr) (args : List Value) (news : List (Addr × Obj)) (R : Value → List (Addr × Obj) → Prop) : Prop :=
  ∀ (dp un : Nat) (gd : Option (List Code)) (cn : Str) (cs : Scope) (a : Addr) (ccd : Value) (A₀ : Around) (base h₀ : Heap) (L : Addr) (m : Str → Option Value) (s : Shared) (Q E : Value → Shared → Prop),
    Below A₀ base [] h₀ → Fr h₀ L s.heap m → (hd.heap_39 w.params).In h₀ → News h₀ L s.heap news → Top hd.view_39 (looseW hd.view_39 []) mean mg mb h₀ → (hd.heap_39 w.params).In base → Top hd.view_39 (looseW hd.view_39 []) mean mg mb base → cs.kind = .function →
    dp + need < recursionLimit → un + 8 * need + 100 < cLine →
    (∀ v nx h' tk', R v nx → Fr h₀ L h' m → News h₀ L h' nx → Q v { s with heap := h', toks := tk' }) →
    wpAny (model PySem.Challenge.rw_wr0009_01.row.prog w) (ktrTop dp un gd cn cs L a ccd [] []) (call (.ref f) args) Q E s
theorem Ct0.use {w : World} {mean : ExcName → Option Value} {mg mb : Str → Option Value} {need : Nat} {f : Addr} {args : List Value} {news : List (Addr × Obj)} {R : Value → List (Addr × Obj) → Prop}
  {dp un : Nat} {gd : Option (List Code)} {cn : Str} {cs : Scope} {a : Addr} {ccd : Value} {A₀ : Around} {base h₀ : Heap} {L : Addr} {m : Str → Option Value} {s : Shared} {Q E : Value → Shared → Prop} (C : Ct0 w mean mg mb need f args news R) (B : Below A₀ base [] h₀) (F : Fr h₀ L s.heap m) (X : (hd.heap_39 w.params).In h₀) (N : News h₀ L s.heap news) (T : Top hd.view_39 (looseW hd.view_39 []) mean mg mb h₀) (XB : (hd.heap_39 w.params).In base) (TB : Top hd.view_39 (looseW hd.view_39 []) mean mg mb base) (hk : cs.kind = .function)
    (hd : dp + need < recursionLimit) (hu : un + 8 * need + 100 < cLine) (ret : ∀ v nx h' tk', R v nx → Fr h₀ L h' m → News h₀ L h' nx → Q v { s with heap := h', toks := tk' }) :
    wpAny (model PySem.Challenge.rw_wr0009_01.row.prog w) (ktrTop dp un gd cn cs L a ccd [] []) (call (.ref f) args) Q E s := C _ _ _ _ _ _ _ _ _ _ _ _ _ _ _ B F X N T XB TB hk hd hu ret
theorem news_skip {h₀ h : Heap} {L : Addr} {news g : List (Addr × Obj)} {p : Addr × Obj} (N : News h₀ L h (p :: g)) (hs : ∀ q ∈ news, q ∈ g) : News h₀ L h (p :: news) := fun q hq => N q ((List.mem_cons.mp hq).elim (fun e => e ▸ .head _) (fun m => .tail _ (hs q m)))
theorem cutv {prog : Program} {w : World} {A : Around} {c : Sem Value} {Q E : Value → Shared → Prop} {s : Shared} (P : Value → Prop) (h1 : wpAny (model prog w) A c (fun v s' => P v ∧ ∃ k, s' = { s with toks := k }) E s) (h2 : ∀ v k, P v → Q v { s with toks := k }) : wpAny (model prog w) A c Q E s :=
  wpAny_mono h1 (fun v s' ⟨hp, k, e⟩ => by rw [e]; exact h2 v k hp) (fun _ _ h => h)
/-- the host that is made of the bare name: C for none -/
def hostY (y : Str) : Str := if (y != Str.ofString "") = true then y else Str.ofString "C"
theorem host_some {y : Str} {t : Tok} (h : (y != Str.ofString "") = true) : HostIs (.str y t) (hostY y) := by
  unfold hostY; rw [if_pos h]; exact .inr ⟨t, rfl⟩
theorem host_none {y : Str} (h : (y != Str.ofString "") = false) : HostIs .none (hostY y) := by
  unfold hostY; rw [if_neg (by rw [h]; decide)]; exact .inl ⟨rfl, rfl⟩
theorem host_len {y : Str} (h : y.length ≤ 1000) : (hostY y).length ≤ 1000 := by
  unfold hostY; split
  · exact h
  · decide
theorem port_len {p : Int} (h0 : 0 ≤ p) (h1 : p < 30) : (Str.ofString (toString p)).length ≤ 1000 := by
  have h : ∀ n : Nat, n < 30 → (Str.ofString (toString (n : Int))).length ≤ 1000 := by decide +kernel
  have := h p.toNat (by omega)
  rw [Int.toNat_of_nonneg h0] at this
  exact this
local macro_rules | `(tactic| walk_at "eval IfExp") => `(tactic| (k_here; refine stop_at ?_))
theorem told_ok {w : World} {mean : ExcName → Option Value} {mg mb : Str → Option Value} {news : List (Addr × Obj)} (x : Str) (t : Tok) (left right : Int) (mk p0 p1 p2 p3 p4 : Str) (port : Int) (hp0 : 0 ≤ port) (hp1 : port < 30)
    (hx : x.length ≤ 1000) (h1 : (Txt.slice x none (some 3) != Str.ofString "229") = false) (h2 : Txt.find x (Str.ofString "(") = left) (hl0 : 0 ≤ left) (hl1 : left + 1 < x.length) (h3 : Txt.find3 x (Str.ofString ")") (left + 1) = right) (hr0 : 0 < right) (hr1 : right ≤ x.length)
    (h4 : Txt.item x (left + 1) = mk) (h5 : Txt.item x (right - 1) = mk) (hmm : (mk != mk) = false) (hm0 : (mk.length == 0) = false) (h6 : Txt.split (Txt.slice x (some (left + 1)) (some right)) mk = [p0, p1, p2, p3, p4]) (h6l : (Txt.slice x (some (left + 1)) (some right)).length ≤ 1000) (h7 : PySem.intText? p3 = some port) (h8 : p3.length ≤ 640)
    (hbl : (stripF x).length ≤ 1000) :
    Ct0 w mean mg mb 12 96 [.str x t] news (fun v nx => ∃ a t1 t2, v = .ref a ∧ nx = (a, { cls := .type "tuple", data := .seq [Value.int 0 t1, .str (hostY (stripF x) ++ Str.ofString "." ++ Str.ofString (toString port)) t2].toArray }) :: news) := by
  w_top off
  intro dp un gd cn cs a ccd A₀ base h₀ L m s Q E B F X N T XB TB hk hdp hu hret
  refine wpAny_call ?_
  k_dflt (refine' code_defS0 ?k1 ?k2 ?k3 ?k4 ?k5 ?kA ?k6 ?k7 ?k8 ?k9 ?kB ?_ ?cK ?c2 ?c3 ?c4 ?c5; (case kA => exact rfl); (case k2 => k_asm); (case k1 => k_asm); (case k3 => k_asm); (case k4 => k_asm); (case k5 => k_asm); (case k6 => k_is); (case k7 => k_is); (case k8 => ktr_room); (case k9 => exact BindsTo.of_eq rfl); (case kB => exact locs rfl); (case cK => first | exact rfl | assumption); (case c2 => exact rfl); (case c3 => exact rfl); (case c4 => exact rfl); (case c5 => decide); k_whole; intro g' L' h' FG' F' N' B' X' T' D'; (try dsimp only); (try k_fold))
  (repeat' (first | ((with_reducible show wpAny _ _ (call (Value.ref 21) _) _ _ _); k_dflt (refine' Ct.use (strip_K _ _ ?hx) ?k1 ?k2 ?k3 ?k4 ?k5 ?kK ?kd ?ku ?_; (case hx => first | assumption | omega); ((case k1 => k_asm); (case k2 => k_asm); (case k3 => k_asm); (case k4 => k_asm); (case k5 => k_asm); (case kK => first | exact rfl | assumption); (case kd => ktr_room); (case ku => ktr_units))); intro v' nx' h' tk' hR' F' N'; obtain ⟨e', t', e2'⟩ := hR'; subst e'; subst e2'; (try dsimp only); (try k_fold)) | (k_unfold; (try dsimp only)) | (k_end; wrow_close) | walk1 | (dsimp only; walk1) | (leave1; walk_say "STEP leave1"; try dsimp only) | fail "no step"))
  have hyl := host_len hbl
  have hpl := port_len hp0 hp1
  unfold Stop
  refine cutv (fun v => HostIs v (hostY (stripF x))) ?hcut ?_
  case hcut =>
    refine IfExp_ ?_
    cases hb : (stripF x != Str.ofString "") with
    | true => (repeat' (first | ((with_reducible show wpAny _ _ (compareOp CmpOp.NotEq (Value.str _ _) (Value.str _ _)) _ _ _); k_dflt (refine' str_ne_as ?k1 ?_; (case k1 => with_reducible assumption); k_whole)) | (k_unfold; (try dsimp only)) | (k_end; wrow_close) | walk1 | (dsimp only; walk1) | (leave1; walk_say "STEP leave1"; try dsimp only) | fail "no step")); exact host_some hb
    | false => (repeat' (first | ((with_reducible show wpAny _ _ (compareOp CmpOp.NotEq (Value.str _ _) (Value.str _ _)) _ _ _); k_dflt (refine' str_ne_as ?k1 ?_; (case k1 => with_reducible assumption); k_whole)) | (k_unfold; (try dsimp only)) | (k_end; wrow_close) | walk1 | (dsimp only; walk1) | (leave1; walk_say "STEP leave1"; try dsimp only) | fail "no step")); exact host_none hb
  intro hv k hvi
  (repeat' (first | ((with_reducible show wpAny _ _ (call (Value.ref 79) _) _ _ _); k_dflt (refine' Ct.use (bld_K _ _ _ _ ?hh ?hx ?hz) ?k1 ?k2 ?k3 ?k4 ?k5 ?kK ?kd ?ku ?_; (case hh => assumption); (case hx => assumption); (case hz => assumption); ((case k1 => k_asm); (case k2 => k_asm); (case k3 => k_asm); (case k4 => k_asm); (case k5 => k_asm); (case kK => first | exact rfl | assumption); (case kd => ktr_room); (case ku => ktr_units))); intro v' nx' h' tk' hR' F' N'; obtain ⟨e', t', e2'⟩ := hR'; subst e'; subst e2'; (try dsimp only); (try k_fold)) | ((with_reducible show wpAny _ _ (call (Value.ref 65) _) _ _ _); k_dflt (refine' Ct.use (parse_ok _ _ _ _ _ _ _ _ _ _ _ _ _ _ ?h17 ?h18 ?h01 ?h02 ?h03 ?h04 ?h05 ?h06 ?h07 ?h08 ?h09 ?h10 ?h11 ?h12 ?h13 ?h14 ?h15 ?h16) ?k1 ?k2 ?k3 ?k4 ?k5 ?kK ?kd ?ku ?_; (case h01 => assumption); (case h02 => assumption); (case h03 => assumption); (case h04 => assumption); (case h05 => assumption); (case h06 => assumption); (case h07 => assumption); (case h08 => assumption); (case h09 => assumption); (case h10 => assumption); (case h11 => assumption); (case h12 => assumption); (case h13 => assumption); (case h14 => assumption); (case h15 => assumption); (case h16 => assumption); (case h17 => assumption); (case h18 => assumption); ((case k1 => k_asm); (case k2 => k_asm); (case k3 => k_asm); (case k4 => k_asm); (case k5 => k_asm); (case kK => first | exact rfl | assumption); (case kd => ktr_room); (case ku => ktr_units))); intro v' nx' h' tk' hR' F' N'; obtain ⟨a', b', o', t', e', e2'⟩ := hR'; subst e'; subst e2'; (try dsimp only); (try k_fold)) | (k_unfold; (try dsimp only)) | (k_end; wrow_close) | walk1 | (dsimp only; walk1) | (leave1; walk_say "STEP leave1"; try dsimp only) | fail "no step"))
  rename News _ _ _ _ => kN1
  exact hret _ _ _ _ ⟨_, _, _, rfl, rfl⟩ (by k_asm) (news_skip kN1 (fun _ h => .tail _ (.tail _ (.tail _ (.tail _ h)))))
theorem told_228 {w : World} {mean : ExcName → Option Value} {mg mb : Str → Option Value} {news : List (Addr × Obj)} (x : Str) (t : Tok)
    (hx : x.length ≤ 1000) (h1 : (Txt.slice x none (some 3) != Str.ofString "229") = true) (hbl : (stripF x).length ≤ 1000) :
    Ct0 w mean mg mb 12 96 [.str x t] news (fun v nx => ∃ a t1 t2, v = .ref a ∧ nx = (a, { cls := .type "tuple", data := .seq [Value.int 1 t1, .str (Str.ofString "") t2].toArray }) :: news) := by
  w_top off
  intro dp un gd cn cs a ccd A₀ base h₀ L m s Q E B F X N T XB TB hk hdp hu hret
  refine wpAny_call ?_
  k_dflt (refine' code_defS0 ?k1 ?k2 ?k3 ?k4 ?k5 ?kA ?k6 ?k7 ?k8 ?k9 ?kB ?_ ?cK ?c2 ?c3 ?c4 ?c5; (case kA => exact rfl); (case k2 => k_asm); (case k1 => k_asm); (case k3 => k_asm); (case k4 => k_asm); (case k5 => k_asm); (case k6 => k_is); (case k7 => k_is); (case k8 => ktr_room); (case k9 => exact BindsTo.of_eq rfl); (case kB => exact locs rfl); (case cK => first | exact rfl | assumption); (case c2 => exact rfl); (case c3 => exact rfl); (case c4 => exact rfl); (case c5 => decide); k_whole; intro g' L' h' FG' F' N' B' X' T' D'; (try dsimp only); (try k_fold))
  (repeat' (first | ((with_reducible show wpAny _ _ _ _ _ (Shared.mk _ _ _ (_ + 1 + 1 + 1) _)); refine' gen_toks ?_; intro _) | ((with_reducible show wpAny _ _ (call (Value.ref 21) _) _ _ _); k_dflt (refine' Ct.use (strip_K _ _ ?hx) ?k1 ?k2 ?k3 ?k4 ?k5 ?kK ?kd ?ku ?_; (case hx => first | assumption | omega); ((case k1 => k_asm); (case k2 => k_asm); (case k3 => k_asm); (case k4 => k_asm); (case k5 => k_asm); (case kK => first | exact rfl | assumption); (case kd => ktr_room); (case ku => ktr_units))); intro v' nx' h' tk' hR' F' N'; obtain ⟨e', t', e2'⟩ := hR'; subst e'; subst e2'; (try dsimp only); (try k_fold)) | (k_unfold; (try dsimp only)) | (k_end; wrow_close) | walk1 | (dsimp only; walk1) | (leave1; walk_say "STEP leave1"; try dsimp only) | fail "no step"))
  have hyl := host_len hbl
  unfold Stop
  refine cutv (fun v => HostIs v (hostY (stripF x))) ?hcut ?_
  case hcut =>
    refine IfExp_ ?_
    cases hb : (stripF x != Str.ofString "") with
    | true => (repeat' (first | ((with_reducible show wpAny _ _ _ _ _ (Shared.mk _ _ _ (_ + 1 + 1 + 1) _)); refine' gen_toks ?_; intro _) | ((with_reducible show wpAny _ _ (compareOp CmpOp.NotEq (Value.str _ _) (Value.str _ _)) _ _ _); k_dflt (refine' str_ne_as ?k1 ?_; (case k1 => with_reducible assumption); k_whole)) | (k_unfold; (try dsimp only)) | (k_end; wrow_close) | walk1 | (dsimp only; walk1) | (leave1; walk_say "STEP leave1"; try dsimp only) | fail "no step")); exact host_some hb
    | false => (repeat' (first | ((with_reducible show wpAny _ _ _ _ _ (Shared.mk _ _ _ (_ + 1 + 1 + 1) _)); refine' gen_toks ?_; intro _) | ((with_reducible show wpAny _ _ (compareOp CmpOp.NotEq (Value.str _ _) (Value.str _ _)) _ _ _); k_dflt (refine' str_ne_as ?k1 ?_; (case k1 => with_reducible assumption); k_whole)) | (k_unfold; (try dsimp only)) | (k_end; wrow_close) | walk1 | (dsimp only; walk1) | (leave1; walk_say "STEP leave1"; try dsimp only) | fail "no step")); exact host_none hb
  intro hv k hvi
  (repeat' (first | ((with_reducible show wpAny _ _ _ _ _ (Shared.mk _ _ _ (_ + 1 + 1 + 1) _)); refine' gen_toks ?_; intro _) | ((with_reducible show wpAny _ _ (compareOp CmpOp.NotEq (Value.str _ _) (Value.str _ _)) _ _ _); k_dflt (refine' str_ne_as ?k1 ?_; (case k1 => with_reducible assumption); k_whole)) | ((with_reducible show wpAny _ _ (call (Value.ref 65) _) _ _ _); refine wpAny_call ?_; (k_dflt (refine' code_def ?k1 ?k2 ?k3 ?k4 ?k5 ?kA ?kF ?kK ?k6 ?k7 ?k8 ?k9 ?kB ?_ ?c2 ?c3 ?c4 ?c5; (case kA => exact rfl); (case kF => exact rfl); (case kK => first | exact rfl | assumption); (case k1 => k_asm); (case k2 => k_asm); (case k3 => k_asm); (case k4 => k_asm); (case k5 => k_asm); (case k6 => k_is); (case k7 => k_is); (case k8 => ktr_room); (case k9 => exact BindsTo.of_eq rfl); (case c5 => decide); (case kB => exact locs rfl); (case c2 => exact rfl); (case c3 => exact rfl); (case c4 => exact rfl); k_whole; intro g' L' h' FG' F' N' B' X' T'; (try dsimp only); (try k_fold)))) | (k_unfold; (try dsimp only)) | (k_end; wrow_close) | walk1 | (dsimp only; walk1) | (leave1; walk_say "STEP leave1"; try dsimp only) | fail "no step"))
  rename News _ _ _ _ => kN1
  exact hret _ _ _ _ ⟨_, _, _, rfl, rfl⟩ (by k_asm) (news_skip kN1 (fun _ h => .tail _ h))
theorem told_mark {w : World} {mean : ExcName → Option Value} {mg mb : Str → Option Value} {news : List (Addr × Obj)} (x : Str) (t : Tok) (left right : Int) (mk mk2 : Str)
    (hx : x.length ≤ 1000) (h1 : (Txt.slice x none (some 3) != Str.ofString "229") = false) (h2 : Txt.find x (Str.ofString "(") = left) (hl0 : 0 ≤ left) (hl1 : left + 1 < x.length) (h3 : Txt.find3 x (Str.ofString ")") (left + 1) = right) (hr0 : 0 < right) (hr1 : right ≤ x.length)
    (h4 : Txt.item x (left + 1) = mk) (h5 : Txt.item x (right - 1) = mk2) (hmm : (mk != mk2) = true)
    (hbl : (stripF x).length ≤ 1000) :
    Ct0 w mean mg mb 12 96 [.str x t] news (fun v nx => ∃ a t1 t2, v = .ref a ∧ nx = (a, { cls := .type "tuple", data := .seq [Value.int 2 t1, .str (Str.ofString "") t2].toArray }) :: news) := by
  w_top off
  intro dp un gd cn cs a ccd A₀ base h₀ L m s Q E B F X N T XB TB hk hdp hu hret
  refine wpAny_call ?_
  k_dflt (refine' code_defS0 ?k1 ?k2 ?k3 ?k4 ?k5 ?kA ?k6 ?k7 ?k8 ?k9 ?kB ?_ ?cK ?c2 ?c3 ?c4 ?c5; (case kA => exact rfl); (case k2 => k_asm); (case k1 => k_asm); (case k3 => k_asm); (case k4 => k_asm); (case k5 => k_asm); (case k6 => k_is); (case k7 => k_is); (case k8 => ktr_room); (case k9 => exact BindsTo.of_eq rfl); (case kB => exact locs rfl); (case cK => first | exact rfl | assumption); (case c2 => exact rfl); (case c3 => exact rfl); (case c4 => exact rfl); (case c5 => decide); k_whole; intro g' L' h' FG' F' N' B' X' T' D'; (try dsimp only); (try k_fold))
  (repeat' (first | ((with_reducible show wpAny _ _ _ _ _ (Shared.mk _ _ _ (_ + 1 + 1 + 1) _)); refine' gen_toks ?_; intro _) | ((with_reducible show wpAny _ _ (call (Value.ref 21) _) _ _ _); k_dflt (refine' Ct.use (strip_K _ _ ?hx) ?k1 ?k2 ?k3 ?k4 ?k5 ?kK ?kd ?ku ?_; (case hx => first | assumption | omega); ((case k1 => k_asm); (case k2 => k_asm); (case k3 => k_asm); (case k4 => k_asm); (case k5 => k_asm); (case kK => first | exact rfl | assumption); (case kd => ktr_room); (case ku => ktr_units))); intro v' nx' h' tk' hR' F' N'; obtain ⟨e', t', e2'⟩ := hR'; subst e'; subst e2'; (try dsimp only); (try k_fold)) | (k_unfold; (try dsimp only)) | (k_end; wrow_close) | walk1 | (dsimp only; walk1) | (leave1; walk_say "STEP leave1"; try dsimp only) | fail "no step"))
  have hyl := host_len hbl
  unfold Stop
  refine cutv (fun v => HostIs v (hostY (stripF x))) ?hcut ?_
  case hcut =>
    refine IfExp_ ?_
    cases hb : (stripF x != Str.ofString "") with
    | true => (repeat' (first | ((with_reducible show wpAny _ _ _ _ _ (Shared.mk _ _ _ (_ + 1 + 1 + 1) _)); refine' gen_toks ?_; intro _) | ((with_reducible show wpAny _ _ (compareOp CmpOp.NotEq (Value.str _ _) (Value.str _ _)) _ _ _); k_dflt (refine' str_ne_as ?k1 ?_; (case k1 => with_reducible assumption); k_whole)) | (k_unfold; (try dsimp only)) | (k_end; wrow_close) | walk1 | (dsimp only; walk1) | (leave1; walk_say "STEP leave1"; try dsimp only) | fail "no step")); exact host_some hb
    | false => (repeat' (first | ((with_reducible show wpAny _ _ _ _ _ (Shared.mk _ _ _ (_ + 1 + 1 + 1) _)); refine' gen_toks ?_; intro _) | ((with_reducible show wpAny _ _ (compareOp CmpOp.NotEq (Value.str _ _) (Value.str _ _)) _ _ _); k_dflt (refine' str_ne_as ?k1 ?_; (case k1 => with_reducible assumption); k_whole)) | (k_unfold; (try dsimp only)) | (k_end; wrow_close) | walk1 | (dsimp only; walk1) | (leave1; walk_say "STEP leave1"; try dsimp only) | fail "no step")); exact host_none hb
  intro hv k hvi
  (repeat' (first | ((with_reducible show wpAny _ _ _ _ _ (Shared.mk _ _ _ (_ + 1 + 1 + 1) _)); refine' gen_toks ?_; intro _) | ((with_reducible show wpAny _ _ (subscriptTail (PySem.Expr.Name _ _) (PySem.Expr.BinOp _ _ _ _) _ _) _ _ _); (with_reducible show wpAny _ _ (subscriptTail _ _ (Value.str _ _) (Value.int _ _)) _ _ _); k_dflt (refine' sitem ?k1 ?k2 ?k3 ?k4 ?_ ?k7 ?k8; (case k1 => with_reducible assumption); (case k2 => omega); (case k3 => omega); (case k4 => omega); ((case k7 => with_unfolding_all rfl); (case k8 => (intro _; with_unfolding_all rfl))); k_whole); intro _ _) | ((with_reducible show wpAny _ _ (compareOp CmpOp.NotEq (Value.str _ _) (Value.str _ _)) _ _ _); k_dflt (refine' str_ne_as ?k1 ?_; (case k1 => with_reducible assumption); k_whole)) | ((with_reducible show wpAny _ _ (call (Value.builtin "str.find") _ _) _ _ _); k_dflt (refine' find3_as ?k1 ?_; (case k1 => with_reducible assumption); k_whole); intro _ _) | ((with_reducible show wpAny _ _ (call (Value.builtin "str.find") _ _) _ _ _); k_dflt (refine' find_as ?k1 ?_; (case k1 => with_reducible assumption); k_whole); intro _ _) | ((with_reducible show wpAny _ _ (call (Value.ref 65) _) _ _ _); refine wpAny_call ?_; (k_dflt (refine' code_def ?k1 ?k2 ?k3 ?k4 ?k5 ?kA ?kF ?kK ?k6 ?k7 ?k8 ?k9 ?kB ?_ ?c2 ?c3 ?c4 ?c5; (case kA => exact rfl); (case kF => exact rfl); (case kK => first | exact rfl | assumption); (case k1 => k_asm); (case k2 => k_asm); (case k3 => k_asm); (case k4 => k_asm); (case k5 => k_asm); (case k6 => k_is); (case k7 => k_is); (case k8 => ktr_room); (case k9 => exact BindsTo.of_eq rfl); (case c5 => decide); (case kB => exact locs rfl); (case c2 => exact rfl); (case c3 => exact rfl); (case c4 => exact rfl); k_whole; intro g' L' h' FG' F' N' B' X' T'; (try dsimp only); (try k_fold)))) | (k_unfold; (try dsimp only)) | (k_end; wrow_close) | walk1 | (dsimp only; walk1) | (leave1; walk_say "STEP leave1"; try dsimp only) | fail "no step"))
  rename News _ _ _ _ => kN1
  exact hret _ _ _ _ ⟨_, _, _, rfl, rfl⟩ (by k_asm) (news_skip kN1 (fun _ h => .tail _ h))
theorem told_five {w : World} {mean : ExcName → Option Value} {mg mb : Str → Option Value} {news : List (Addr × Obj)} (x : Str) (t : Tok) (left right : Int) (mk p0 p1 p2 p3 : Str)
    (hx : x.length ≤ 1000) (h1 : (Txt.slice x none (some 3) != Str.ofString "229") = false) (h2 : Txt.find x (Str.ofString "(") = left) (hl0 : 0 ≤ left) (hl1 : left + 1 < x.length) (h3 : Txt.find3 x (Str.ofString ")") (left + 1) = right) (hr0 : 0 < right) (hr1 : right ≤ x.length)
    (h4 : Txt.item x (left + 1) = mk) (h5 : Txt.item x (right - 1) = mk) (hmm : (mk != mk) = false) (hm0 : (mk.length == 0) = false) (h6 : Txt.split (Txt.slice x (some (left + 1)) (some right)) mk = [p0, p1, p2, p3]) (h6l : (Txt.slice x (some (left + 1)) (some right)).length ≤ 1000)
    (hbl : (stripF x).length ≤ 1000) :
    Ct0 w mean mg mb 12 96 [.str x t] news (fun v nx => ∃ a t1 t2, v = .ref a ∧ nx = (a, { cls := .type "tuple", data := .seq [Value.int 2 t1, .str (Str.ofString "") t2].toArray }) :: news) := by
  w_top off
  intro dp un gd cn cs a ccd A₀ base h₀ L m s Q E B F X N T XB TB hk hdp hu hret
  refine wpAny_call ?_
  k_dflt (refine' code_defS0 ?k1 ?k2 ?k3 ?k4 ?k5 ?kA ?k6 ?k7 ?k8 ?k9 ?kB ?_ ?cK ?c2 ?c3 ?c4 ?c5; (case kA => exact rfl); (case k2 => k_asm); (case k1 => k_asm); (case k3 => k_asm); (case k4 => k_asm); (case k5 => k_asm); (case k6 => k_is); (case k7 => k_is); (case k8 => ktr_room); (case k9 => exact BindsTo.of_eq rfl); (case kB => exact locs rfl); (case cK => first | exact rfl | assumption); (case c2 => exact rfl); (case c3 => exact rfl); (case c4 => exact rfl); (case c5 => decide); k_whole; intro g' L' h' FG' F' N' B' X' T' D'; (try dsimp only); (try k_fold))
  (repeat' (first | ((with_reducible show wpAny _ _ _ _ _ (Shared.mk _ _ _ (_ + 1 + 1 + 1) _)); refine' gen_toks ?_; intro _) | ((with_reducible show wpAny _ _ (call (Value.ref 21) _) _ _ _); k_dflt (refine' Ct.use (strip_K _ _ ?hx) ?k1 ?k2 ?k3 ?k4 ?k5 ?kK ?kd ?ku ?_; (case hx => first | assumption | omega); ((case k1 => k_asm); (case k2 => k_asm); (case k3 => k_asm); (case k4 => k_asm); (case k5 => k_asm); (case kK => first | exact rfl | assumption); (case kd => ktr_room); (case ku => ktr_units))); intro v' nx' h' tk' hR' F' N'; obtain ⟨e', t', e2'⟩ := hR'; subst e'; subst e2'; (try dsimp only); (try k_fold)) | (k_unfold; (try dsimp only)) | (k_end; wrow_close) | walk1 | (dsimp only; walk1) | (leave1; walk_say "STEP leave1"; try dsimp only) | fail "no step"))
  have hyl := host_len hbl
  unfold Stop
  refine cutv (fun v => HostIs v (hostY (stripF x))) ?hcut ?_
  case hcut =>
    refine IfExp_ ?_
    cases hb : (stripF x != Str.ofString "") with
    | true => (repeat' (first | ((with_reducible show wpAny _ _ _ _ _ (Shared.mk _ _ _ (_ + 1 + 1 + 1) _)); refine' gen_toks ?_; intro _) | ((with_reducible show wpAny _ _ (compareOp CmpOp.NotEq (Value.str _ _) (Value.str _ _)) _ _ _); k_dflt (refine' str_ne_as ?k1 ?_; (case k1 => with_reducible assumption); k_whole)) | (k_unfold; (try dsimp only)) | (k_end; wrow_close) | walk1 | (dsimp only; walk1) | (leave1; walk_say "STEP leave1"; try dsimp only) | fail "no step")); exact host_some hb
    | false => (repeat' (first | ((with_reducible show wpAny _ _ _ _ _ (Shared.mk _ _ _ (_ + 1 + 1 + 1) _)); refine' gen_toks ?_; intro _) | ((with_reducible show wpAny _ _ (compareOp CmpOp.NotEq (Value.str _ _) (Value.str _ _)) _ _ _); k_dflt (refine' str_ne_as ?k1 ?_; (case k1 => with_reducible assumption); k_whole)) | (k_unfold; (try dsimp only)) | (k_end; wrow_close) | walk1 | (dsimp only; walk1) | (leave1; walk_say "STEP leave1"; try dsimp only) | fail "no step")); exact host_none hb
  intro hv k hvi
  (repeat' (first | ((with_reducible show wpAny _ _ _ _ _ (Shared.mk _ _ _ (_ + 1 + 1 + 1) _)); refine' gen_toks ?_; intro _) | ((with_reducible show wpAny _ _ (call (Value.builtin "str.split") _ _) _ _ _); k_dflt (first | (refine' split5 ?k1 ?k2 ?k3 ?k4 ?k5 ?_; (case k1 => k_asm); (case k2 => k_asm); (case k5 => with_reducible assumption); (case k3 => with_reducible assumption); (case k4 => assumption); intro _ _ _ _ _ _ _ _ _ _ l1; (try k_lt l1)) | (refine' split4 ?k1 ?k2 ?k3 ?k4 ?k5 ?_; (case k1 => k_asm); (case k2 => k_asm); (case k5 => with_reducible assumption); (case k3 => with_reducible assumption); (case k4 => assumption); intro _ _ _ _ _ _ _ _ _ l1; (try k_lt l1)))) | ((with_reducible show wpAny _ _ (subscriptTail (PySem.Expr.Name _ _) (PySem.Expr.BinOp _ _ _ _) _ _) _ _ _); (with_reducible show wpAny _ _ (subscriptTail _ _ (Value.str _ _) (Value.int _ _)) _ _ _); k_dflt (refine' sitem ?k1 ?k2 ?k3 ?k4 ?_ ?k7 ?k8; (case k1 => with_reducible assumption); (case k2 => omega); (case k3 => omega); (case k4 => omega); ((case k7 => with_unfolding_all rfl); (case k8 => (intro _; with_unfolding_all rfl))); k_whole); intro _ _) | ((with_reducible show wpAny _ _ (compareOp CmpOp.NotEq (Value.str _ _) (Value.str _ _)) _ _ _); k_dflt (refine' str_ne_as ?k1 ?_; (case k1 => with_reducible assumption); k_whole)) | ((with_reducible show wpAny _ _ (call (Value.builtin "str.find") _ _) _ _ _); k_dflt (refine' find3_as ?k1 ?_; (case k1 => with_reducible assumption); k_whole); intro _ _) | ((with_reducible show wpAny _ _ (call (Value.builtin "str.find") _ _) _ _ _); k_dflt (refine' find_as ?k1 ?_; (case k1 => with_reducible assumption); k_whole); intro _ _) | ((with_reducible show wpAny _ _ (call (Value.ref 65) _) _ _ _); refine wpAny_call ?_; (k_dflt (refine' code_def ?k1 ?k2 ?k3 ?k4 ?k5 ?kA ?kF ?kK ?k6 ?k7 ?k8 ?k9 ?kB ?_ ?c2 ?c3 ?c4 ?c5; (case kA => exact rfl); (case kF => exact rfl); (case kK => first | exact rfl | assumption); (case k1 => k_asm); (case k2 => k_asm); (case k3 => k_asm); (case k4 => k_asm); (case k5 => k_asm); (case k6 => k_is); (case k7 => k_is); (case k8 => ktr_room); (case k9 => exact BindsTo.of_eq rfl); (case c5 => decide); (case kB => exact locs rfl); (case c2 => exact rfl); (case c3 => exact rfl); (case c4 => exact rfl); k_whole; intro g' L' h' FG' F' N' B' X' T'; (try dsimp only); (try k_fold)))) | (k_unfold; (try dsimp only)) | (k_end; wrow_close) | walk1 | (dsimp only; walk1) | (leave1; walk_say "STEP leave1"; try dsimp only) | fail "no step"))
  rename News _ _ _ _ => kN1
  exact hret _ _ _ _ ⟨_, _, _, rfl, rfl⟩ (by k_asm) (news_skip kN1 (fun _ h => .tail _ (.tail _ h)))
-- comprehensions upon the signs of a text
section
variable {prog : Program} {w : World} {A : Around} {E : Value → Shared → Prop} {s : Shared} {h₀ : Heap} {L : Addr} {m : Str → Option Value} {env : Env}
def SrcS (prog : Program) (w : World) (A : Around) (h₀ : Heap) (L : Addr) (m : Str → Option Value) (env : Env) (elt : PySem.Expr) (x : Str) (scope : Scope) (cl : List (Str × Addr)) (Fin : Shared → List Value → List (Addr × Obj) → Prop) (xv : Value) (s₁ : Shared) : Prop :=
  ∃ (y : Str) (t : Tok) (news : List (Addr × Obj)), xv = .str y t ∧ A.handled = none ∧ Fr h₀ L s₁.heap m ∧ News h₀ L s₁.heap news ∧ y.cps.size ≤ sizeLine ∧
    ∀ g, LCg.CompRest prog w A h₀ L m env elt x scope cl { s₁ with heap := g } (fun _ => True) (SignAt y) (Fin { s₁ with heap := g }) y.cps.size 0 [] news
theorem sgn_st {x : Str} {t : Tok} {cls : String} {I : Addr} : ∀ i (h h' : Heap) (o : Obj) (nw : List (Addr × Obj)), h.IsStrIter I cls x t i → h.get? I = some o → h'.get? I = some o → (∀ b o, h₀.get? b = some o → h'.get? b = some o) → News h₀ L h' nw → True → h'.IsStrIter I cls x t i :=
  fun _ _ _ o _ st e e' _ _ _ => by
    obtain ⟨o', q, r⟩ := st
    rw [e] at q
    cases q
    exact ⟨o, e', r⟩
theorem lc_drop {h h'' : Heap} {D C : Addr} {ys : List Value} {news' : List (Addr × Obj)} (N' : News h₀ L h ((D, LCg.lst ys) :: news')) (hs : Heap.SameBut C h h'') (hCD : C ≠ D) (offC : ∀ p ∈ news', p.1 ≠ C) : News h₀ L h'' ((D, LCg.lst ys) :: news') := fun p hp => by
  refine ⟨hs.extBut _ _ ?_ (N' p hp).1, (N' p hp).2⟩
  rcases List.mem_cons.mp hp with rfl | hp
  · exact Ne.symm hCD
  · exact offC p hp
theorem ListComp_S {elt iter : PySem.Expr} {x : Str} {px : Pos} {scope : Scope} {cl : List (Str × Addr)} {pos : Pos} {Q : Value → Shared → Prop} (F₀ : Fr h₀ L s.heap m)
    (hclos : closureFor scope env = pure cl) (hcell : ∀ y ∈ scope.names, y.2 ≠ .cell) (hkind : scope.kind = .function)
    (hnames : ∀ y ∈ scope.names, y.2 = .local → scope.names.lookup y.1 = some .local) (hx : scope.names.lookup x = some .local)
    (h : wpAny (model prog w) A (PySem.eval iter env) (SrcS prog w A h₀ L m env elt x scope cl (fun s₂ => LCg.FinE h₀ L m s₂ Q)) E s)
    (hs : ∀ x, foldedSetIterable iter env x = pure x := by intro _; rfl) :
    wpAny (model prog w) A (PySem.eval (.ListComp elt [⟨.Name x px, iter, [], 0⟩] scope pos) env) Q E s := by
  rw [eval_ListComp]
  refine wpAny_comprehension_free (use := none) rfl hs hclos hkind hnames (wpAny_mono h (fun xv s₁ h₁ => ?_) fun _ _ e => e)
  obtain ⟨y, t, news, rfl, hh, F, N, hsz, R⟩ := h₁
  cases ha : y.cps.all (· < 128)
  · refine wpAny_pyIter_wide ha ?_
    refine LCg.block_U (Walks.strWide hh _ y t) hsz (fun i h st => ⟨_, st.choose_spec.1⟩) sgn_st hcell hkind hx ⟨_, Heap.get?_push_size _ rfl, rfl, rfl⟩ (fun b hb => ?_)
      (F.keeps fun _ _ e => Heap.get?_push_of_some _ e) (N.grown fun _ _ e => Heap.get?_push_of_some _ e) (Nat.ne_of_lt F.ns.lt) (next_is_new F) (fun p hp => Nat.ne_of_lt (Heap.lt_size (N p hp).1)) trivial (R _) ?_
    · rw [List.mem_singleton.mp hb]
      show s₁.heap.objs.size < (s₁.heap.push _).objs.size
      rw [Heap.size_push]; exact Nat.lt_succ_self _
    · intro D C h tk m' ys news' F' N' o1 hn hC₀ hD₀ hCL hDL hCD offC fin
      exact ⟨m', hn, fun h'' hs'' => fin D h'' tk (F'.change hs'' hCL hC₀) (lc_drop N' hs'' hCD offC) o1⟩
  · refine wpAny_pyIter_ascii ha ?_
    refine LCg.block_U (Walks.strAscii hh _ y t) hsz (fun i h st => ⟨_, st.choose_spec.1⟩) sgn_st hcell hkind hx ⟨_, Heap.get?_push_size _ rfl, rfl, rfl⟩ (fun b hb => ?_)
      (F.keeps fun _ _ e => Heap.get?_push_of_some _ e) (N.grown fun _ _ e => Heap.get?_push_of_some _ e) (Nat.ne_of_lt F.ns.lt) (next_is_new F) (fun p hp => Nat.ne_of_lt (Heap.lt_size (N p hp).1)) trivial (R _) ?_
    · rw [List.mem_singleton.mp hb]
      show s₁.heap.objs.size < (s₁.heap.push _).objs.size
      rw [Heap.size_push]; exact Nat.lt_succ_self _
    · intro D C h tk m' ys news' F' N' o1 hn hC₀ hD₀ hCL hDL hCD offC fin
      exact ⟨m', hn, fun h'' hs'' => fin D h'' tk (F'.change hs'' hCL hC₀) (lc_drop N' hs'' hCD offC) o1⟩
theorem Assign_ListComp_S {elt iter : PySem.Expr} {x y : Str} {px py : Pos} {scope : Scope} {cl : List (Str × Addr)} {pos spos : Pos} {Q : Flow → Shared → Prop} (F₀ : Fr h₀ L s.heap m) (hLe : env.locals = L)
    (hsw : swapsWith (.ListComp elt [⟨.Name x px, iter, [], 0⟩] scope pos) (some (.Name y py)) spos.line env = pure true)
    (hclos : closureFor scope env = pure cl) (hcell : ∀ z ∈ scope.names, z.2 ≠ .cell) (hkind : scope.kind = .function)
    (hnames : ∀ z ∈ scope.names, z.2 = .local → scope.names.lookup z.1 = some .local) (hx : scope.names.lookup x = some .local)
    (hy : env.kindOf y = some .local) (hp : (env.scope.kind == .class || (env.scope.kind == .module && env.locals != env.globals)) = false)
    (h : wpAny (model prog w) A (PySem.eval iter env) (SrcS prog w A h₀ L m env elt x scope cl (fun s₂ => LCg.FinA h₀ L m s₂ y Q)) E s)
    (hs : ∀ x, foldedSetIterable iter env x = pure x := by intro _; rfl) :
    wpAny (model prog w) A (PySem.exec (.Assign [.Name y py] (.ListComp elt [⟨.Name x px, iter, [], 0⟩] scope pos) spos) env) Q E s := by
  subst hLe
  rw [exec_Assign_Name_used _ _ _ _ hsw]
  refine wpAny_bind (wpAny_standAt (wpAny_bind ?_))
  show wpAny _ A (do let _ ← comprehension (.ListComp elt [⟨.Name x px, iter, [], 0⟩] scope pos) scope env _ (newList []) false (PySem.eval iter env) (some (assign (.Name y py) env))) _ _ s
  refine wpAny_bind (wpAny_mono (wpAny_comprehension_free (use := some (assign (.Name y py) env)) (Q := fun _ s' => Q .next s') rfl hs hclos hkind hnames
    (wpAny_mono h (fun xv s₁ h₁ => ?_) fun _ _ e => e)) (fun _ s' hq => wpAny_pure (wpAny_pure hq)) fun _ _ e => e)
  obtain ⟨z, t, news, rfl, hh, F, N, hsz, R⟩ := h₁
  have fin2 : ∀ {s₁ : Shared} (D C : Addr) (h' : Heap) (tk : Nat) (m' : Str → Option Value) (ys : List Value) (news' : List (Addr × Obj)), Fr h₀ env.locals h' m → News h₀ env.locals h' ((D, LCg.lst ys) :: news') → LCg.Off1 D news' → h'.Ns C m' → h₀.get? C = none → C ≠ env.locals → C ≠ D → (∀ p ∈ news', p.1 ≠ C) → LCg.FinA h₀ env.locals m s₁ y Q ys news' →
      wpAny (model prog w) A (assign (.Name y py) env (.ref D)) (fun _ s' => ∃ m'', s'.heap.Ns C m'' ∧ ∀ h'', Heap.SameBut C s'.heap h'' → Q .next { s' with heap := h'' }) E { s₁ with heap := h', toks := tk } := by
    intro s₁ D C h' tk m' ys news' F' N' o1 hn hC₀ hCL hCD offC fin
    refine wpAny_assign_Name (wpAny_storeName_local hy F'.ns (fun h₂ hn₂ hs₂ => ?_) hp)
    have hL₀ : h₀.get? env.locals = none := Heap.get?_none_of_le F'.above
    have F₂ : Fr h₀ env.locals h₂ (fun z => if z = y then some (.ref D) else m z) := ⟨hn₂, fun b o e => hs₂.extBut b o (fun q => by rw [q, hL₀] at e; cases e) (F'.keep b o e), F'.above⟩
    refine ⟨m', hn.sameBut hs₂ hCL, fun h'' hs'' => fin D h'' _ (F₂.change hs'' hCL hC₀) (fun p hp => ?_) o1⟩
    have z : h₂.get? p.1 = some p.2 := hs₂.extBut _ _ (N' p hp).2.1 (N' p hp).1
    refine ⟨hs''.extBut _ _ ?_ z, (N' p hp).2⟩
    rcases List.mem_cons.mp hp with rfl | hp
    · exact Ne.symm hCD
    · exact offC p hp
  cases ha : z.cps.all (· < 128)
  · refine wpAny_pyIter_wide ha ?_
    refine LCg.block_U (Walks.strWide hh _ z t) hsz (fun i h st => ⟨_, st.choose_spec.1⟩) sgn_st hcell hkind hx ⟨_, Heap.get?_push_size _ rfl, rfl, rfl⟩ (fun b hb => ?_)
      (F.keeps fun _ _ e => Heap.get?_push_of_some _ e) (N.grown fun _ _ e => Heap.get?_push_of_some _ e) (Nat.ne_of_lt F.ns.lt) (next_is_new F) (fun p hp => Nat.ne_of_lt (Heap.lt_size (N p hp).1)) trivial (R _) ?_
    · rw [List.mem_singleton.mp hb]
      show s₁.heap.objs.size < (s₁.heap.push _).objs.size
      rw [Heap.size_push]; exact Nat.lt_succ_self _
    · intro D C h' tk m' ys news' F' N' o1 hn hC₀ hD₀ hCL hDL hCD offC fin
      exact fin2 D C h' tk m' ys news' F' N' o1 hn hC₀ hCL hCD offC fin
  · refine wpAny_pyIter_ascii ha ?_
    refine LCg.block_U (Walks.strAscii hh _ z t) hsz (fun i h st => ⟨_, st.choose_spec.1⟩) sgn_st hcell hkind hx ⟨_, Heap.get?_push_size _ rfl, rfl, rfl⟩ (fun b hb => ?_)
      (F.keeps fun _ _ e => Heap.get?_push_of_some _ e) (N.grown fun _ _ e => Heap.get?_push_of_some _ e) (Nat.ne_of_lt F.ns.lt) (next_is_new F) (fun p hp => Nat.ne_of_lt (Heap.lt_size (N p hp).1)) trivial (R _) ?_
    · rw [List.mem_singleton.mp hb]
      show s₁.heap.objs.size < (s₁.heap.push _).objs.size
      rw [Heap.size_push]; exact Nat.lt_succ_self _
    · intro D C h' tk m' ys news' F' N' o1 hn hC₀ hD₀ hCL hDL hCD offC fin
      exact fin2 D C h' tk m' ys news' F' N' o1 hn hC₀ hCL hCD offC fin
end
/-- a sign of a text and its code -/
theorem codes_step {x : Str} {i : Nat} {ys : List Value} (h : DatAll [] ys ((codesD x).take i)) {c : Nat} (hc : x.cps[i]? = some c) (u : Tok) : DatAll [] (ys ++ [.int (c : Int) u]) ((codesD x).take (i + 1)) := by
  have e : (codesD x).take (i + 1) = (codesD x).take i ++ [Dat.int (c : Int)] := by
    rw [List.take_add_one]
    have : (codesD x)[i]? = some (Dat.int (c : Int)) := by
      unfold codesD
      rw [List.getElem?_map]
      have : x.cps.toList[i]? = some c := by simpa using hc
      rw [this]; rfl
    rw [this]; rfl
  rw [e]
  exact h.append (.one (.int _ _))
theorem codes_all {x : Str} {ys : List Value} (h : DatAll [] ys ((codesD x).take x.cps.size)) : DatAll [] ys (codesD x) := by
  have e : (codesD x).take x.cps.size = codesD x := List.take_of_length_le (by unfold codesD; simp)
  rw [e] at h
  exact h
section
variable {prog : Program} {w : World} {A : Around} {s : Shared} {h₀ : Heap} {L : Addr} {m : Str → Option Value} {env : Env}
theorem ord_rest {elt : PySem.Expr} {x : Str} {scope : Scope} {cl : List (Str × Addr)} {S : List (Addr × Obj) → Prop} {Fin : List Value → List (Addr × Obj) → Prop} {y : Str} {nx₀ : List (Addr × Obj)}
    (turn : ∀ c u I oI C oC D m₂ ys h tk (E' : Value → Shared → Prop), LCg.NsObj oC m₂ → m₂ x = some (.str ⟨#[c]⟩ u) → Fr h₀ L h m → News h₀ L h ((I, oI) :: (C, oC) :: (D, LCg.lst ys) :: nx₀) → LCg.Off3 I C D nx₀ → ((@Ne Nat I C) ∧ (@Ne Nat I D) ∧ (@Ne Nat C D)) →
      wpAny (model prog w) A (PySem.eval elt (compEnvC scope cl C env)) (LCg.CompEnd h₀ L m { s with heap := h, toks := tk } I oI C oC D (LCg.lst ys) S (fun v nx' => nx' = nx₀ ∧ ∃ t, v = .int (c : Int) t)) E' { s with heap := h, toks := tk })
    (fin : ∀ ys, DatAll [] ys (codesD y) → Fin ys nx₀) : LCg.CompRest prog w A h₀ L m env elt x scope cl s S (SignAt y) Fin y.cps.size 0 [] nx₀ := by
  refine rest_ind (fun i ys nx => nx = nx₀ ∧ DatAll [] ys ((codesD y).take i)) ?_ ?_ _ _ _ _ (Nat.zero_add _) ⟨rfl, .nil⟩
  · rintro i ys nx v I oI C oC D m₂ h tk E' hi ⟨rfl, hall⟩ ⟨c, u, hc, rfl⟩ hC hx F N off ne
    refine wpAny_mono (turn c u I oI C oC D m₂ ys h tk E' hC hx F N off ne) (fun y s' z => ?_) fun _ _ e => e
    obtain ⟨h', tk', nx', e1, F', N', off', hS, rfl, t', rfl⟩ := z
    exact ⟨h', tk', _, e1, F', N', off', hS, rfl, codes_step hall hc t'⟩
  · rintro ys nx ⟨rfl, hall⟩
    exact fin ys (codes_all hall)
end
section
variable {prog : Program} {w : World} {A : Around} {E : Value → Shared → Prop} {s : Shared} {x y z : Str} {t u : Tok} {n : Int}
theorem str_eq_as {Q : Value → Shared → Prop} {b : Bool} (e : (x == y) = b) (h : Q (.bool b) s) : wpAny (model prog w) A (compareOp .Eq (.str x t) (.str y u)) Q E s := by
  refine P.eq_str ?_
  have q : (x.cps.toList == y.cps.toList) = (x == y) := by
    rw [Bool.eq_iff_iff, beq_iff_eq, beq_iff_eq]
    refine ⟨fun z => ?_, fun z => by rw [z]⟩
    cases x; cases y
    simp only [PySem.Str.mk.injEq] at z ⊢
    exact Array.toList_inj.mp z
  rw [q, e]
  exact h
theorem add_as {Q : Value → Shared → Prop} (h1 : x.length ≤ 100000) (h2 : y.length ≤ 100000) (h : ∀ t' k, Q (.str (x ++ y) t') { s with toks := k }) : wpAny (model prog w) A (binaryOp .Add (.str x t) (.str y u)) Q E s :=
  add_str h (by rw [sizeLine_eq]; omega)
theorem mul_as {Q : Value → Shared → Prop} (e : Txt.mul x n = y) (h1 : x.length ≤ 16) (h0 : 0 ≤ n) (h2 : n ≤ 16) (h : ∀ t' k, Q (.str y t') { s with toks := k }) : wpAny (model prog w) A (binaryOp .Mult (.str x t) (.int n u)) Q E s := by
  subst e
  exact SB.mul (mulOk_of 16 1048576 h1 (by omega) (by omega) (by decide) (by decide)) h
end
section
variable {prog : Program} {w : World} {A : Around} {E : Value → Shared → Prop} {s : Shared} {h₀ : Heap} {L D : Addr} {m : Str → Option Value} {news : List (Addr × Obj)} {vs : List Value} {ss : List Str} {n : Nat} {k : Int} {t u : Tok} {y : Str}
theorem tget {value slice : PySem.Expr} {Q : Value → Shared → Prop} (N : News h₀ L s.heap news) (hm : (D, listOf vs.toArray n) ∈ news) (hS : StrsAre vs ss) (h0 : 0 ≤ k) (h1 : k < ss.length) (hfit : k < 2 ^ 63) (e : ss.getD k.toNat Str.empty = y) (h : ∀ t, Q (.str y t) s)
    (hs : subscripted slice false (.ref D) (.int k u) = operate [.ref D, .int k u] (getItem (.ref D) (.int k u)) := by with_unfolding_all rfl) (hg : ∀ r, letTemporaryGo value (.ref D) r = pure () := by intro _; with_unfolding_all rfl) :
    wpAny (model prog w) A (subscriptTail value slice (.ref D) (.int k u)) Q E s := mget N hm hS h0 h1 hfit (by rw [e]; exact h) hs hg
end
theorem fm_range (d : Int) {n : Int} (h : 0 < n) : 0 ≤ d.fmod n ∧ d.fmod n < n := by
  rw [Int.fmod_eq_emod_of_nonneg _ (Int.le_of_lt h)]
  exact ⟨Int.emod_nonneg _ (by omega), Int.emod_lt_of_pos _ h⟩
theorem fd_range {d : Int} (h0 : 0 ≤ d) (h1 : d < 28800) : 0 ≤ d.fdiv 3600 ∧ d.fdiv 3600 < 8 := by
  rw [Int.fdiv_eq_ediv_of_nonneg _ (by decide)]
  omega
local macro_rules | `(tactic| walk_at "exec Assign cons ListComp") => `(tactic| (k_here; refine stop_at ?_))
local macro_rules | `(tactic| walk_at "exec If") => `(tactic| (k_here; refine stop_at ?_))
abbrev nms : List Str := [Str.ofString "", Str.ofString "C", Str.ofString "b", Str.ofString "b-", Str.ofString "b/", Str.ofString "é"]
abbrev tls : List Str := [Str.ofString ": ", Str.ofString "\n", Str.ofString ": x.y:\n", Str.ofString "\n.: ", Str.ofString ""]
abbrev pas : List Str := [Str.ofString "a.", Str.ofString ".", Str.ofString "a.b.", Str.ofString ""]
theorem fr_same {g h : Heap} {L : Addr} {M : Str → Option Value} {a : Str} {v : Value} (F : Fr g L h M) (e : M a = some v) : Fr g L h (fun y => if y = a then some v else M y) := by rw [← m1 e]; exact F
theorem news_skip3 {h₀ h : Heap} {L : Addr} {news g : List (Addr × Obj)} {p p1 p2 : Addr × Obj} (N : News h₀ L h (p :: p1 :: p2 :: g)) (hs : ∀ q ∈ news, q ∈ g) : News h₀ L h (p :: p1 :: p2 :: news) := fun q hq => by
  rcases List.mem_cons.mp hq with rfl | hq
  · exact N _ (.head _)
  · rcases List.mem_cons.mp hq with rfl | hq
    · exact N _ (.tail _ (.head _))
    · rcases List.mem_cons.mp hq with rfl | hq
      · exact N _ (.tail _ (.tail _ (.head _)))
      · exact N _ (.tail _ (.tail _ (.tail _ (hs _ hq))))
def JoinF (g : Heap) (L : Addr) (m : Str → Option Value) (nx : List (Addr × Obj)) (a b : Str) (s : Shared) (f : Flow) (s' : Shared) : Prop :=
  f = .next ∧ ∃ t' h' tk, s' = { s with heap := h', toks := tk } ∧ Fr g L h' (fun y => if y = a then some (.str b t') else m y) ∧ News g L h' nx
theorem cutF {prog : Program} {w : World} {A : Around} {c : Sem Flow} {Q : Flow → Shared → Prop} {E : Value → Shared → Prop} {s : Shared} {g : Heap} {L : Addr} {m : Str → Option Value} {nx : List (Addr × Obj)} {a b : Str} (F0 : Fr g L s.heap m) (N0 : News g L s.heap nx)
    (h1 : wpAny (model prog w) A c (JoinF g L m nx a b s) E s)
    (h2 : ∀ t' h' tk, Fr g L h' (fun y => if y = a then some (.str b t') else m y) → News g L h' nx → Q .next { s with heap := h', toks := tk }) : wpAny (model prog w) A c Q E s :=
  wpAny_mono h1 (fun f s' ⟨e, t', h', tk, e2, F, N⟩ => by rw [e, e2]; exact h2 t' h' tk F N) (fun _ _ h => h)
theorem host_lenN {y : Str} (h : y.length ≤ 10000) : (hostY y).length ≤ 10000 := by
  unfold hostY; split
  · exact h
  · decide
theorem client_K {w : World} {mean : ExcName → Option Value} {mg mb : Str → Option Value} {news : List (Addr × Obj)} (d : Int) (t : Tok) (port fm cnt rf : Int) (nm tl pa cd mk mks ex ta : Str) (hd0 : 0 ≤ d) (hd1 : d < 28800)
    (hn : nms.getD ((d.fdiv 30).fmod 6).toNat Str.empty = nm) (ht : tls.getD ((d.fdiv 180).fmod 5).toNat Str.empty = tl) (hp : pas.getD ((d.fdiv 900).fmod 4).toNat Str.empty = pa) (hcd : cd = if d.fdiv 3600 = 5 then Str.ofString "228" else Str.ofString "229") (hcnt : cnt = if d.fdiv 3600 = 7 then 2 else 3) (hex : ex = if d.fdiv 3600 = 6 then Str.ofString "!" else Str.ofString "") (hrf : rf = if d.fdiv 3600 < 5 then 0 else if d.fdiv 3600 = 5 then 1 else 2) (hm : Txt.item (Str.ofString "|!;|!|||") (d.fdiv 3600) = mk) (hms : Txt.mul mk cnt = mks) (hln : nm.length ≤ 100) (hlt : tl.length ≤ 100) (hlp : pa.length ≤ 100) (hlc : cd.length ≤ 100) (hlm : mk.length ≤ 16) (hls : mks.length ≤ 100) (hlx : ex.length ≤ 100) (hc0 : 0 ≤ cnt) (hc1 : cnt ≤ 16) (hta : ta = if (tl == Str.ofString "") = true then Str.ofString "(" ++ mks ++ Str.ofString "0" ++ Str.ofString (toString (d.fmod 30)) ++ mk ++ ex ++ Str.ofString ")" else Str.ofString "") (hla : ta.length ≤ 3000) (b2 : Str) (hb2 : b2 = if (pa == Str.ofString "") = true then cd ++ Str.ofString " " ++ (nm ++ ta) else nm ++ ta) (hlb : b2.length ≤ 5000) :
    Ct w mean mg mb 6 89 [.int d t] news (fun v nx => ∃ (a C Rw : Addr) (ys : List Value) (t1 t2 t3 : Tok), v = .ref a ∧
      nx = (a, { cls := .type "tuple", data := .seq [Value.str (cd ++ Str.ofString " " ++ pa ++ nm ++ tl ++ (Str.ofString "(" ++ mks ++ Str.ofString "0" ++ Str.ofString (toString (d.fmod 30)) ++ mk ++ ex ++ Str.ofString ")")) t1, .int rf t2, .ref C].toArray }) :: (C, listOf [Value.ref Rw, .int ((d.fmod 30).fmod 7) t3].toArray 0) :: (Rw, LCg.lst ys) :: news ∧
      DatAll [] ys (codesD (hostY b2 ++ Str.ofString "." ++ Str.ofString (toString (d.fmod 30)))) ∧ ∀ p ∈ news, p.1 ≠ a ∧ p.1 ≠ C ∧ p.1 ≠ Rw) := by
  w_top off
  have c0 : (Str.ofString "|!;|!|||").length = 8 := by decide
  have c1 : (Str.ofString "(").length = 1 := by decide
  have c2 : (Str.ofString "0").length = 1 := by decide
  have c3 : (Str.ofString ")").length = 1 := by decide
  have c4 : (Str.ofString " ").length = 1 := by decide
  have c5 : (Str.ofString ".").length = 1 := by decide
  have c6 : (Str.ofString "").length = 0 := by decide
  have c7 : (Str.ofString "C").length = 1 := by decide
  have b0 := fm_range d (n := 30) (by decide)
  have b1 := fm_range (d.fdiv 30) (n := 6) (by decide)
  have b2 := fm_range (d.fdiv 180) (n := 5) (by decide)
  have b3 := fm_range (d.fdiv 900) (n := 4) (by decide)
  have b4 := fd_range hd0 hd1
  obtain ⟨b00, b01⟩ := b0
  have c8 := port_len b00 b01
  obtain ⟨b10, b11⟩ := b1
  obtain ⟨b20, b21⟩ := b2
  obtain ⟨b30, b31⟩ := b3
  obtain ⟨b40, b41⟩ := b4
  intro dp un gd cn cs a ccd cl outer A₀ base h₀ L m s Q E B F X N T hk hdp hu hret
  refine wpAny_call ?_
  k_dflt ktr_enter
  (repeat' (first | ((with_reducible show wpAny _ _ _ _ _ (Shared.mk _ _ _ (_ + 1 + 1 + 1) _)); refine' gen_toks ?_; intro _) | ((with_reducible show wpAny _ _ (subscriptTail _ _ (Value.ref _) (Value.int _ _)) _ _ _); k_dflt (refine' tget ?k1 ?k2 ?k3 ?k4 ?k5 ?k6 ?ke ?_ ?k7 ?k8; (case k1 => k_asm); (case k2 => k_mem); (case k3 => (repeat' first | exact StrsAre.nil | apply StrsAre.cons)); (case ke => with_reducible assumption); (case k4 => omega); (case k5 => (simp only [List.length_cons, List.length_nil]; omega)); (case k6 => omega); ((case k7 => with_unfolding_all rfl); (case k8 => (intro _; with_unfolding_all rfl))); k_whole); intro _) | (k_unfold; (try dsimp only)) | (k_end; wrow_close) | walk1 | (dsimp only; walk1) | (leave1; walk_say "STEP leave1"; try dsimp only) | fail "no step"))
  unfold Stop
  refine cutv (fun v => ∃ t, v = .str cd t) ?hcut ?_
  case hcut =>
    refine IfExp_ ?_
    (repeat' (first | ((with_reducible show wpAny _ _ _ _ _ (Shared.mk _ _ _ (_ + 1 + 1 + 1) _)); refine' gen_toks ?_; intro _) | (k_unfold; (try dsimp only)) | (k_end; wrow_close) | walk1 | (dsimp only; walk1) | (leave1; walk_say "STEP leave1"; try dsimp only) | fail "no step"))
    · rw [hcd, if_pos (by assumption)]
    · rw [hcd, if_neg (by assumption)]
  rintro _ k1 ⟨t1, rfl⟩
  (try dsimp only)
  (try k_fold)
  (repeat' (first | ((with_reducible show wpAny _ _ _ _ _ (Shared.mk _ _ _ (_ + 1 + 1 + 1) _)); refine' gen_toks ?_; intro _) | ((with_reducible show wpAny _ _ (subscriptTail _ _ (Value.str _ _) (Value.int _ _)) _ _ _); k_dflt (refine' sitem ?k1 ?k2 ?k3 ?k4 ?_ ?k7 ?k8; (case k1 => with_reducible assumption); (case k2 => omega); (case k3 => omega); (case k4 => omega); ((case k7 => with_unfolding_all rfl); (case k8 => (intro _; with_unfolding_all rfl))); k_whole); intro _ _) | (k_unfold; (try dsimp only)) | (k_end; wrow_close) | walk1 | (dsimp only; walk1) | (leave1; walk_say "STEP leave1"; try dsimp only) | fail "no step"))
  unfold Stop
  refine cutv (fun v => ∃ t, v = .int cnt t) ?hcut ?_
  case hcut =>
    refine IfExp_ ?_
    (repeat' (first | ((with_reducible show wpAny _ _ _ _ _ (Shared.mk _ _ _ (_ + 1 + 1 + 1) _)); refine' gen_toks ?_; intro _) | (k_unfold; (try dsimp only)) | (k_end; wrow_close) | walk1 | (dsimp only; walk1) | (leave1; walk_say "STEP leave1"; try dsimp only) | fail "no step"))
    · rw [hcnt, if_pos (by assumption)]
    · rw [hcnt, if_neg (by assumption)]
  rintro _ k2 ⟨t2, rfl⟩
  (try dsimp only)
  (try k_fold)
  (repeat' (first | ((with_reducible show wpAny _ _ _ _ _ (Shared.mk _ _ _ (_ + 1 + 1 + 1) _)); refine' gen_toks ?_; intro _) | ((with_reducible show wpAny _ _ (binaryOp Operator.Add (Value.str _ _) (Value.str _ _)) _ _ _); k_dflt (refine' add_as ?k1 ?k2 ?_; (case k1 => first | omega | (simp only [PySem.Str.length_append]; omega)); (case k2 => first | omega | (simp only [PySem.Str.length_append]; omega)); k_whole); intro _ _) | ((with_reducible show wpAny _ _ (binaryOp Operator.Mult (Value.str _ _) (Value.int _ _)) _ _ _); k_dflt (refine' mul_as ?k1 ?k2 ?k3 ?k4 ?_; (case k1 => with_reducible assumption); (case k2 => omega); (case k3 => omega); (case k4 => omega); k_whole); intro _ _) | (k_unfold; (try dsimp only)) | (k_end; wrow_close) | walk1 | (dsimp only; walk1) | (leave1; walk_say "STEP leave1"; try dsimp only) | fail "no step"))
  unfold Stop
  refine cutv (fun v => ∃ t, v = .str ex t) ?hcut ?_
  case hcut =>
    refine IfExp_ ?_
    (repeat' (first | ((with_reducible show wpAny _ _ _ _ _ (Shared.mk _ _ _ (_ + 1 + 1 + 1) _)); refine' gen_toks ?_; intro _) | (k_unfold; (try dsimp only)) | (k_end; wrow_close) | walk1 | (dsimp only; walk1) | (leave1; walk_say "STEP leave1"; try dsimp only) | fail "no step"))
    · rw [hex, if_pos (by assumption)]
    · rw [hex, if_neg (by assumption)]
  rintro _ k3 ⟨t3, rfl⟩
  (try dsimp only)
  (try k_fold)
  (repeat' (first | ((with_reducible show wpAny _ _ _ _ _ (Shared.mk _ _ _ (_ + 1 + 1 + 1) _)); refine' gen_toks ?_; intro _) | ((with_reducible show wpAny _ _ (binaryOp Operator.Add (Value.str _ _) (Value.str _ _)) _ _ _); k_dflt (refine' add_as ?k1 ?k2 ?_; (case k1 => first | omega | (simp only [PySem.Str.length_append]; omega)); (case k2 => first | omega | (simp only [PySem.Str.length_append]; omega)); k_whole); intro _ _) | (k_unfold; (try dsimp only)) | (k_end; wrow_close) | walk1 | (dsimp only; walk1) | (leave1; walk_say "STEP leave1"; try dsimp only) | fail "no step"))
  unfold Stop
  refine cutv (fun v => ∃ t, v = .str ta t) ?hcut ?_
  case hcut =>
    refine IfExp_ ?_
    cases hb : (tl == Str.ofString "") with
    | true => (repeat' (first | ((with_reducible show wpAny _ _ _ _ _ (Shared.mk _ _ _ (_ + 1 + 1 + 1) _)); refine' gen_toks ?_; intro _) | ((with_reducible show wpAny _ _ (compareOp CmpOp.Eq (Value.str _ _) (Value.str _ _)) _ _ _); k_dflt (refine' str_eq_as ?k1 ?_; (case k1 => with_reducible assumption); k_whole)) | (k_unfold; (try dsimp only)) | (k_end; wrow_close) | walk1 | (dsimp only; walk1) | (leave1; walk_say "STEP leave1"; try dsimp only) | fail "no step")); rw [hta, if_pos hb]
    | false => (repeat' (first | ((with_reducible show wpAny _ _ _ _ _ (Shared.mk _ _ _ (_ + 1 + 1 + 1) _)); refine' gen_toks ?_; intro _) | ((with_reducible show wpAny _ _ (compareOp CmpOp.Eq (Value.str _ _) (Value.str _ _)) _ _ _); k_dflt (refine' str_eq_as ?k1 ?_; (case k1 => with_reducible assumption); k_whole)) | (k_unfold; (try dsimp only)) | (k_end; wrow_close) | walk1 | (dsimp only; walk1) | (leave1; walk_say "STEP leave1"; try dsimp only) | fail "no step")); rw [hta, if_neg (by rw [hb]; decide)]
  rintro _ k4 ⟨t4, rfl⟩
  (try dsimp only)
  (try k_fold)
  (repeat' (first | ((with_reducible show wpAny _ _ _ _ _ (Shared.mk _ _ _ (_ + 1 + 1 + 1) _)); refine' gen_toks ?_; intro _) | ((with_reducible show wpAny _ _ (binaryOp Operator.Add (Value.str _ _) (Value.str _ _)) _ _ _); k_dflt (refine' add_as ?k1 ?k2 ?_; (case k1 => first | omega | (simp only [PySem.Str.length_append]; omega)); (case k2 => first | omega | (simp only [PySem.Str.length_append]; omega)); k_whole); intro _ _) | (k_unfold; (try dsimp only)) | (k_end; wrow_close) | walk1 | (dsimp only; walk1) | (leave1; walk_say "STEP leave1"; try dsimp only) | fail "no step"))
  unfold Stop
  refine cutF (a := Str.ofString "bare") (b := b2) (by k_asm) (by k_asm) ?hcut ?_
  case hcut =>
    refine wpAny_If ?_
    cases hpb : (pa == Str.ofString "") with
    | true =>
      (repeat' (first | ((with_reducible show wpAny _ _ _ _ _ (Shared.mk _ _ _ (_ + 1 + 1 + 1) _)); refine' gen_toks ?_; intro _) | ((with_reducible show wpAny _ _ (compareOp CmpOp.Eq (Value.str _ _) (Value.str _ _)) _ _ _); k_dflt (refine' str_eq_as ?k1 ?_; (case k1 => with_reducible assumption); k_whole)) | ((with_reducible show wpAny _ _ (binaryOp Operator.Add (Value.str _ _) (Value.str _ _)) _ _ _); k_dflt (refine' add_as ?k1 ?k2 ?_; (case k1 => first | omega | (simp only [PySem.Str.length_append]; omega)); (case k2 => first | omega | (simp only [PySem.Str.length_append]; omega)); k_whole); intro _ _) | (k_unfold; (try dsimp only)) | (k_end; wrow_close) | walk1 | (dsimp only; walk1) | (leave1; walk_say "STEP leave1"; try dsimp only) | fail "no step"))
      rename News _ _ _ _ => kN1
      rename Fr _ _ _ _ => kF1
      rw [hb2, if_pos hpb]
      exact ⟨rfl, _, _, _, rfl, kF1, kN1⟩
    | false =>
      (repeat' (first | ((with_reducible show wpAny _ _ _ _ _ (Shared.mk _ _ _ (_ + 1 + 1 + 1) _)); refine' gen_toks ?_; intro _) | ((with_reducible show wpAny _ _ (compareOp CmpOp.Eq (Value.str _ _) (Value.str _ _)) _ _ _); k_dflt (refine' str_eq_as ?k1 ?_; (case k1 => with_reducible assumption); k_whole)) | (k_unfold; (try dsimp only)) | (k_end; wrow_close) | walk1 | (dsimp only; walk1) | (leave1; walk_say "STEP leave1"; try dsimp only) | fail "no step"))
      rename News _ _ _ _ => kN1
      rename Fr _ _ _ _ => kF1
      rw [hb2, if_neg (by rw [hpb]; decide)]
      exact ⟨rfl, _, _, _, rfl, fr_same kF1 rfl, kN1⟩
  intro tb hb' kb FB NB
  (try k_unmd)
  (try dsimp only)
  (try k_fold)
  (repeat' (first | ((with_reducible show wpAny _ _ _ _ _ (Shared.mk _ _ _ (_ + 1 + 1 + 1) _)); refine' gen_toks ?_; intro _) | (k_unfold; (try dsimp only)) | (k_end; wrow_close) | walk1 | (dsimp only; walk1) | (leave1; walk_say "STEP leave1"; try dsimp only) | fail "no step"))
  unfold Stop
  refine Assign_ListComp_S (F₀ := by k_asm) (by rfl) (by with_unfolding_all rfl) (by with_unfolding_all rfl) (by decide) (by rfl) (by decide) (by rfl) (by rfl) (by rfl) ?_
  (repeat' (first | ((with_reducible show wpAny _ _ _ _ _ (Shared.mk _ _ _ (_ + 1 + 1 + 1) _)); refine' gen_toks ?_; intro _) | (k_unfold; (try dsimp only)) | (k_end; wrow_close) | walk1 | (dsimp only; walk1) | (leave1; walk_say "STEP leave1"; try dsimp only) | fail "no step"))
  unfold Stop
  refine cutv (fun v => ∃ t, v = .str (hostY b2) t) ?hcut ?_
  case hcut =>
    refine IfExp_ ?_
    cases hb : (b2 != Str.ofString "") with
    | true => (repeat' (first | ((with_reducible show wpAny _ _ _ _ _ (Shared.mk _ _ _ (_ + 1 + 1 + 1) _)); refine' gen_toks ?_; intro _) | ((with_reducible show wpAny _ _ (compareOp CmpOp.NotEq (Value.str _ _) (Value.str _ _)) _ _ _); k_dflt (refine' str_ne_as ?k1 ?_; (case k1 => with_reducible assumption); k_whole)) | (k_unfold; (try dsimp only)) | (k_end; wrow_close) | walk1 | (dsimp only; walk1) | (leave1; walk_say "STEP leave1"; try dsimp only) | fail "no step")); unfold hostY; rw [if_pos hb]
    | false => (repeat' (first | ((with_reducible show wpAny _ _ _ _ _ (Shared.mk _ _ _ (_ + 1 + 1 + 1) _)); refine' gen_toks ?_; intro _) | ((with_reducible show wpAny _ _ (compareOp CmpOp.NotEq (Value.str _ _) (Value.str _ _)) _ _ _); k_dflt (refine' str_ne_as ?k1 ?_; (case k1 => with_reducible assumption); k_whole)) | (k_unfold; (try dsimp only)) | (k_end; wrow_close) | walk1 | (dsimp only; walk1) | (leave1; walk_say "STEP leave1"; try dsimp only) | fail "no step")); unfold hostY; rw [if_neg (by rw [hb]; decide)]
  rintro _ k5 ⟨t5, rfl⟩
  (try dsimp only)
  (try k_fold)
  have hby : (hostY b2).length ≤ 10000 := host_lenN (by omega)
  (repeat' (first | ((with_reducible show wpAny _ _ _ _ _ (Shared.mk _ _ _ (_ + 1 + 1 + 1) _)); refine' gen_toks ?_; intro _) | ((with_reducible show wpAny _ _ (binaryOp Operator.Add (Value.str _ _) (Value.str _ _)) _ _ _); k_dflt (refine' add_as ?k1 ?k2 ?_; (case k1 => first | omega | (simp only [PySem.Str.length_append]; omega)); (case k2 => first | omega | (simp only [PySem.Str.length_append]; omega)); k_whole); intro _ _) | (k_unfold; (try dsimp only)) | (k_end; wrow_close) | walk1 | (dsimp only; walk1) | (leave1; walk_say "STEP leave1"; try dsimp only) | fail "no step"))
  refine ⟨_, _, _, rfl, rfl, (by k_asm), (by k_asm), (by show Str.length _ ≤ _; rw [sizeLine_eq]; simp only [PySem.Str.length_append]; omega), fun g => ord_rest ?step ?fin⟩
  case step =>
    intro c u I oI C oC D m₂ ys h tk E' hC hx F' N' off ne
    (try k_unmd)
    (repeat' (first | ((with_reducible show wpAny _ _ _ _ _ (Shared.mk _ _ _ (_ + 1 + 1 + 1) _)); refine' gen_toks ?_; intro _) | (k_unfold; (try dsimp only)) | (k_end; wrow_close) | walk1 | (dsimp only; walk1) | (leave1; walk_say "STEP leave1"; try dsimp only) | fail "no step"))
    exact LCg.CompEnd.intro (by k_asm) (by k_asm) _ (fun _ h => h) off trivial ⟨rfl, _, rfl⟩
  case fin =>
    intro ys hall
    unfold LCg.FinA
    intro D1 h1 tk1 F1 N1 o1
    (try k_unmd)
    (try dsimp only)
    (try k_fold)
    (repeat' (first | ((with_reducible show wpAny _ _ _ _ _ (Shared.mk _ _ _ (_ + 1 + 1 + 1) _)); refine' gen_toks ?_; intro _) | (k_unfold; (try dsimp only)) | (k_end; wrow_close) | walk1 | (dsimp only; walk1) | (leave1; walk_say "STEP leave1"; try dsimp only) | fail "no step"))
    unfold Stop
    refine cutv (fun v => ∃ t, v = .int rf t) ?hcut ?_
    case hcut =>
      refine IfExp_ ?_
      (repeat' (first | ((with_reducible show wpAny _ _ _ _ _ (Shared.mk _ _ _ (_ + 1 + 1 + 1) _)); refine' gen_toks ?_; intro _) | (k_unfold; (try dsimp only)) | (k_end; wrow_close) | walk1 | (dsimp only; walk1) | (leave1; walk_say "STEP leave1"; try dsimp only) | fail "no step"))
      · rw [hrf, if_pos (by assumption)]
      · unfold Stop
        refine IfExp_ ?_
        (repeat' (first | ((with_reducible show wpAny _ _ _ _ _ (Shared.mk _ _ _ (_ + 1 + 1 + 1) _)); refine' gen_toks ?_; intro _) | (k_unfold; (try dsimp only)) | (k_end; wrow_close) | walk1 | (dsimp only; walk1) | (leave1; walk_say "STEP leave1"; try dsimp only) | fail "no step"))
        · rw [hrf, if_neg (by assumption), if_pos (by assumption)]
        · rw [hrf, if_neg (by assumption), if_neg (by assumption)]
    rintro _ k6 ⟨t6, rfl⟩
    (try dsimp only)
    (try k_fold)
    (repeat' (first | ((with_reducible show wpAny _ _ _ _ _ (Shared.mk _ _ _ (_ + 1 + 1 + 1) _)); refine' gen_toks ?_; intro _) | ((with_reducible show wpAny _ _ (binaryOp Operator.Add (Value.str _ _) (Value.str _ _)) _ _ _); k_dflt (refine' add_as ?k1 ?k2 ?_; (case k1 => first | omega | (simp only [PySem.Str.length_append]; omega)); (case k2 => first | omega | (simp only [PySem.Str.length_append]; omega)); k_whole); intro _ _) | (k_unfold; (try dsimp only)) | (k_end; wrow_close) | walk1 | (dsimp only; walk1) | (leave1; walk_say "STEP leave1"; try dsimp only) | fail "no step"))
    rename _ < _ ∧ _ < _ ∧ _ < _ ∧ _ < _ ∧ _ < _ ∧ AllLt _ _ => l5
    rename _ < _ ∧ _ < _ ∧ _ < _ ∧ _ < _ ∧ AllLt _ _ => l4
    rename News _ _ _ _ => kN1
    refine hret _ _ _ _ ⟨_, _, _, ys, _, _, _, rfl, rfl, hall, ?_⟩ (by k_asm) (news_skip3 kN1 (fun _ h => .tail _ (.tail _ (.tail _ h))))
    intro p hp
    exact ⟨Nat.ne_of_lt (allLt_mem l5.2.2.2.2.2 p hp), Nat.ne_of_lt (allLt_mem l4.2.2.2.2 p hp), off1_mem o1 p (.tail _ (.tail _ (.tail _ hp)))⟩
section
variable {prog : Program} {w : World} {A : Around} {E : Value → Shared → Prop} {s : Shared} {env : Env} {h₀ : Heap} {x : Str} {body : List Stmt} {Q : Flow → Shared → Prop}
theorem iter_range {r : Addr} {k : Nat} {t u v : Tok} {m₀ : Str → Option Value} {news nx₀ : List (Addr × Obj)} (J : Nat → (Str → Option Value) → List (Addr × Obj) → Prop)
    (hh : A.handled = none) (hr : IsRange s.heap r 0 (k : Int) 1 t u v) (hsm : Builtin.Range.small 0 (k : Int) 1 = true) (hn : Builtin.Range.rangeSize 0 (k : Int) 1 = ((k : Nat) : Int)) (F : Fr h₀ env.locals s.heap m₀) (N : News h₀ env.locals s.heap news) (hs : ∀ p ∈ nx₀, p ∈ news) (hj : J 0 m₀ nx₀)
    (turn : ∀ i m₁ nx h tk own t', i < k → OwnOff own (nx.map (·.1)) → J i m₁ nx → Fr h₀ env.locals h (fun y => if y = x then some (.int ((0 : Int) + (i : Int)) t') else m₁ y) → News h₀ env.locals h (nx ++ own) →
      wpAny (model prog w) A (execs body env) (InvPostG h₀ env.locals (J (i + 1)) own { s with heap := h, toks := tk } Q) E { s with heap := h, toks := tk })
    (done : ∀ m₁ nx h tk, J k m₁ nx → Fr h₀ env.locals h m₁ → News h₀ env.locals h nx → Q .next { s with heap := h, toks := tk }) :
    wpAny (model prog w) A (pyIter (.ref r)) (fun it s₂ => LoopAtV prog w A h₀ env x body Q E it s₂) E s := by
  refine wpAny_pyIter_range hr hsm ?_
  refine ⟨_, _, _, k, _, _, m₀, nx₀, J, rfl, LCg.range_walks hh 0 k, ?_, ?_, ?_, by show IsRangeIter _ _ _ _ _; rw [hn]; simpa using Heap.get?_push_size _ rfl, F.push _, (fun p hp => ⟨Heap.get?_push_of_some _ (N p (hs p hp)).1, (N p (hs p hp)).2⟩), hj, ?_, ?_⟩
  · intro hq
    exact absurd F.ns.lt (List.mem_singleton.mp hq ▸ Nat.lt_irrefl _)
  · intro b hb
    rw [List.mem_singleton.mp hb]
    exact next_is_new F
  · intro p hp hI
    exact absurd (Heap.lt_size (N p (hs p hp)).1) ((List.mem_singleton.mp hI) ▸ Nat.lt_irrefl _)
  · rintro i v m₁ nx s₁ own ⟨hh', tk', rfl⟩ hin ⟨t', rfl⟩ hJ hoff hown _ hfp hst F₁ N₁
    have hI0 : h₀.get? s.heap.objs.size = none := next_is_new F
    have hIown : (s.heap.objs.size, _) ∈ own := hfp _ (List.mem_singleton.mpr rfl) hI0 _ hst
    have hsep : OwnOff own (nx.map (·.1)) := by
      intro p hp b hb e
      obtain ⟨q, hq, rfl⟩ := List.mem_map.mp hb
      exact hoff q hq (by rw [← e]; exact hown p hp)
    have N₂ : News h₀ env.locals hh' (nx ++ own) := fun p hp => N₁ p ((List.mem_append.mp hp).elim (fun h => List.mem_append.mpr (.inr h)) fun h => List.mem_append.mpr (.inl h))
    refine wpAny_mono (turn i m₁ nx hh' tk' own t' hin hsep hJ F₁ N₂) (fun f s₂ p => ?_) fun _ _ e => e
    have fin : InvEndG h₀ env.locals (J (i + 1)) own { s with heap := hh', toks := tk' } s₂ → LoopStepU h₀ env.locals [s.heap.objs.size] own (J (i + 1)) { s with heap := hh', toks := tk' } .next s₂ := by
      rintro ⟨h', tk, m', news', nx', e, F', N', hn, ho, ha, hm'⟩
      refine ⟨rfl, h', tk, m', nx', e, F', fun p hp => N' p ((List.mem_append.mp hp).elim (ho p) (hn p)), fun p hp hq => ?_, hm'⟩
      exact ha _ hIown p.1 (List.mem_map.mpr ⟨p, hp, rfl⟩) (List.mem_singleton.mp hq).symm
    cases f with
    | ret v => exact .ret p
    | brk => exact .brk p
    | next => exact .next (fin p)
    | cont => exact .cont (fin p)
  · rintro h' tk m' news' F' N' _ hJ
    exact done m' news' h' tk hJ F' N'
end
/-- a contract with a list of the ground -/
def CtL (w : World) (mean : ExcName → Option Value) (mg mb : Str → Option Value) (need : Nat) (f : Addr) (ax : Addr) (its : Array Value) (args : List Value) (news : List (Addr × Obj)) (R : Value → List (Addr × Obj) → Prop) : Prop :=
  ∀ (dp un : Nat) (gd : Option (List Code)) (cn : Str) (cs : Scope) (a : Addr) (ccd : Value) (cl : List (Str × Addr)) (outer : List Env) (A₀ : Around) (base h₀ : Heap) (L : Addr) (m : Str → Option Value) (s : Shared) (Q E : Value → Shared → Prop),
    Below A₀ base outer h₀ → Fr h₀ L s.heap m → (hd.heap_39 w.params).In h₀ → News h₀ L s.heap news → Top hd.view_39 (looseW hd.view_39 []) mean mg mb h₀ → h₀.IsList ax its → cs.kind = .function →
    dp + need < recursionLimit → un + 8 * need + 100 < cLine →
    (∀ v nx h' tk', R v nx → Fr h₀ L h' m → News h₀ L h' nx → Q v { s with heap := h', toks := tk' }) →
    wpAny (model PySem.Challenge.rw_wr0009_01.row.prog w) (ktrTop dp un gd cn cs L a ccd cl outer) (call (.ref f) args) Q E s
def deedJ (D ax : Addr) (news : List (Addr × Obj)) (n : Nat) (m : Str → Option Value) (nx : List (Addr × Obj)) : Prop :=
  ∃ us ks, nx = (D, listOf (List.toArray us) 0) :: news ∧ IntsAre us ks ∧ ks.length = 9 ∧ m (Str.ofString "deeds") = some (.ref D) ∧ m (Str.ofString "script") = some (.ref ax)
theorem len_set9 {ks : List Int} (h : ks.length = 9) (j : Nat) (x : Int) : (ks.set j x).length = 9 := by rw [List.length_set]; exact h
theorem ne3_of {D : Addr} {o : Obj} {news own : List (Addr × Obj)} (lt1 : ∀ p ∈ news, p.1 < D) (hoff : OwnOff own (((D, o) :: news).map (·.1))) : ∀ p ∈ news ++ own, p.1 ≠ D := by
  intro p hp
  rcases List.mem_append.mp hp with hp | hp
  · exact Nat.ne_of_lt (lt1 p hp)
  · exact hoff p hp D (by simp)
theorem ints_set {x : Int} {u : Tok} : ∀ {vs : List Value} {ns : List Int}, IntsAre vs ns → ∀ (j : Nat) (x : Int) (u : Tok), IntsAre (vs.set j (.int x u)) (ns.set j x)
  | _, _, .nil, _, _, _ => .nil
  | _, _, .cons _ _ h, 0, x, u => .cons x u h
  | _, _, .cons i t h, j + 1, x, u => .cons i t (ints_set (x := x) (u := u) h j x u)
section
variable {prog : Program} {w : World} {A : Around} {s : Shared} {h₀ : Heap} {L : Addr} {m : Str → Option Value} {env : Env}
theorem ints_rest {elt : PySem.Expr} {x : Str} {scope : Scope} {cl : List (Str × Addr)} {S : List (Addr × Obj) → Prop} {Fin : List Value → List (Addr × Obj) → Prop} {its : Array Value} {ks : List Int} {nx₀ : List (Addr × Obj)} (P : Int → Prop) (hks : IntsAre its.toList ks)
    (turn : ∀ k u I oI C oC D m₂ ys h tk (E' : Value → Shared → Prop), LCg.NsObj oC m₂ → m₂ x = some (.int k u) → Fr h₀ L h m → News h₀ L h ((I, oI) :: (C, oC) :: (D, LCg.lst ys) :: nx₀) → LCg.Off3 I C D nx₀ → ((@Ne Nat I C) ∧ (@Ne Nat I D) ∧ (@Ne Nat C D)) →
      wpAny (model prog w) A (PySem.eval elt (compEnvC scope cl C env)) (LCg.CompEnd h₀ L m { s with heap := h, toks := tk } I oI C oC D (LCg.lst ys) S (fun v nx' => nx' = nx₀ ∧ ∃ z t, v = .int z t ∧ P z)) E' { s with heap := h, toks := tk })
    (fin : ∀ ys zs, IntsAre ys zs → zs.length = ks.length → (∀ z ∈ zs, P z) → Fin ys nx₀) : LCg.CompRest prog w A h₀ L m env elt x scope cl s S (fun i v => its[i]? = some v) Fin its.size 0 [] nx₀ := by
  have hlen : its.size = ks.length := intsAre_size hks
  refine rest_ind (fun i ys nx => nx = nx₀ ∧ ∃ zs, IntsAre ys zs ∧ zs.length = i ∧ ∀ z ∈ zs, P z) ?_ ?_ _ _ _ _ (Nat.zero_add _) ⟨rfl, [], .nil, rfl, fun _ h => nomatch h⟩
  · rintro i ys nx v I oI C oC D m₂ h tk E' hi ⟨rfl, zs, hz, hl, hP⟩ hv hC hx F N off ne
    obtain ⟨k, u, rfl, hk⟩ := IntsAre.at hks i v (by simpa using hv)
    refine wpAny_mono (turn k u I oI C oC D m₂ ys h tk E' hC hx F N off ne) (fun y s' z => ?_) fun _ _ e => e
    obtain ⟨h', tk', nx', e1, F', N', off', hS, rfl, z', t', rfl, hp⟩ := z
    refine ⟨h', tk', _, e1, F', N', off', hS, rfl, zs ++ [z'], intsAre_append hz (.cons _ _ .nil), by simp [hl], fun z hz => ?_⟩
    rcases List.mem_append.mp hz with hz | hz
    · exact hP z hz
    · rw [List.mem_singleton.mp hz]; exact hp
  · rintro ys nx ⟨rfl, zs, hz, hl, hP⟩
    exact fin ys zs hz (by omega) hP
end
local macro_rules | `(tactic| walk_at "eval ListComp") => `(tactic| (k_here; refine stop_at ?_))
theorem deed_fin {g h' : Heap} {L D ax : Addr} {us : List Value} {ks : List Int} {j i : Nat} {x : Int} {t : Tok} {m' : Str → Option Value} {news own : List (Addr × Obj)} {s : Shared} {tk : Nat} (kF : Fr g L h' m') (kN : News g L h' ((D, listOf (us.set j (.int x t)).toArray 0) :: (news ++ own))) (hus : IntsAre us ks) (h9 : ks.length = 9)
    (md : m' (Str.ofString "deeds") = some (.ref D)) (ms : m' (Str.ofString "script") = some (.ref ax)) (hoff : OwnOff own (((D, listOf us.toArray 0) :: news).map (·.1))) : InvEndG g L (deedJ D ax news i) own s { s with heap := h', toks := tk } := by
  refine InvEndG.intro (nx := (D, listOf (us.set j (.int x t)).toArray 0) :: news) kF kN ⟨_, _, rfl, ints_set (x := x) (u := t) hus j x t, len_set9 h9 _ _, md, ms⟩ ?_ ?_ ?_
  · simp only [List.map_cons] at hoff ⊢
    exact hoff
  · intro q hq
    rcases List.mem_cons.mp hq with rfl | hq
    · exact .head _
    · exact .tail _ (List.mem_append_left _ hq)
  · exact fun q hq => .tail _ (List.mem_append_right _ hq)
theorem deeds_K {w : World} {mean : ExcName → Option Value} {mg mb : Str → Option Value} {news : List (Addr × Obj)} {ax : Addr} {vs : List Value} {ns : List Int} (hI : IntsAre vs ns) (h63 : ns.length ≤ 63) :
    CtL w mean mg mb 6 84 ax vs.toArray [.ref ax] news (fun v nx => ∃ (D : Addr) (ys : List Value) (zs : List Int), v = .ref D ∧ nx = (D, LCg.lst ys) :: news ∧ IntsAre ys zs ∧ zs.length = 9 ∧ (∀ z ∈ zs, 0 ≤ z ∧ z < 115200) ∧ ∀ p ∈ news, p.1 ≠ D) := by
  w_top off
  intro dp un gd cn cs a ccd cl outer A₀ base h₀ L m s Q E B F X N T hl hk hdp hu hret
  refine wpAny_call ?_
  k_dflt ktr_enter
  rename Fr h₀ L _ m => FG2
  have hl2 := FG2.lst hl
  k_steps
  unfold Stop
  rename Fr _ _ _ _ => kF
  rename News _ _ _ _ => kN
  rename IsRange _ _ _ _ _ _ _ _ => kR
  rename ∀ (p : Addr × Obj), p ∈ news → p.fst < _ => lt1
  have h60 : (ns.take 60).length ≤ 60 := by rw [List.length_take]; omega
  have h60' : (ns.take 60).length ≤ ns.length := by rw [List.length_take]; omega
  k_dflt (refine' iter_range (news := _ :: (?D, _) :: _) (deedJ ?D ax news) ?h1 kR ?hsm ?hn kF kN ?hs ?hj ?turn ?done)
  case hs => exact fun p hp => .tail _ hp
  case hj => exact ⟨_, _, rfl, by (repeat' first | exact IntsAre.nil | apply IntsAre.cons), rfl, rfl, rfl⟩
  case h1 => exact rfl
  case hsm => exact small_one (by omega) (by omega) (by omega) (by omega)
  case hn => exact rangeSize_nat _ _
  case turn =>
    rintro i m₁ nx h tk own t' hi hoff ⟨us, ks, rfl, hus, h9, md, ms⟩ F₁ N₁
    dsimp only [envOf] at F₁ N₁
    rw [m2 md ms] at F₁
    rw [List.cons_append] at N₁
    have hu9 := hus.length
    have b9 := fm_range ((0 : Int) + (i : Int)) (n := 9) (by decide)
    obtain ⟨b90, b91⟩ := b9
    have hne3 := ne3_of lt1 hoff
    (try k_unmd)
    (try k_fold)
    (repeat' (first | ((with_reducible show wpAny _ _ (setItem (Value.ref _) (Value.int _ _) _) _ _ _); k_dflt (refine' mset ?k1 ?k2 ?k3 ?k5 ?k6 ?k7 ?_; (case k1 => k_asm); (case k2 => k_asm); (case k3 => k_upd); (case k5 => omega); (case k6 => first | omega | (simp only [List.length_set]; omega)); (case k7 => omega); k_whole); intro h' F' N'; (try k_sweep)) | (k_unfold; (try dsimp only)) | (k_end; wrow_close) | walk1 | (dsimp only; walk1) | (leave1; walk_say "STEP leave1"; try dsimp only) | fail "no step"))
    rename Fr _ _ _ _ => kF3
    rename News _ _ _ _ => kN3
    exact deed_fin kF3 kN3 hus h9 rfl rfl hoff
  case done =>
    rintro m₁ nx h tk ⟨us, ks, rfl, hus, h9, md, ms⟩ F₁ N₁
    dsimp only [envOf] at F₁ N₁
    rw [m2 md ms] at F₁
    (try k_unmd)
    (try dsimp only)
    (try k_fold)
    k_steps
    unfold Stop
    refine LCg.ListComp_U (F₀ := by k_asm) (by rfl) (by decide) (by rfl) (by decide) (by rfl) ?_
    k_steps
    refine LCg.CompSrc.ledger (by rfl) (by k_asm) (by k_asm) (by k_mem) (by rw [sizeLine_eq, List.size_toArray]; have := hus.length; omega) ?_
    intro g
    refine ints_rest (fun z => 0 ≤ z ∧ z < 115200) (ks := ks) hus ?step ?fin
    case step =>
      intro k u I oI C oC D m₂ ys h tk E' hC hx F' N' off ne
      (try k_unmd)
      k_steps
      exact LCg.CompEnd.intro (by k_asm) (by k_asm) _ (fun _ h => h) off (.inr ⟨_, .head _, rfl, _, rfl⟩) ⟨rfl, _, _, rfl, fm_range _ (by decide)⟩
    case fin =>
      intro ys zs hz hl hP
      unfold LCg.FinE
      intro D1 h1 tk1 F1 N1 o1
      (try k_unmd)
      (try dsimp only)
      (try k_fold)
      k_steps
      rename News _ _ _ _ => kN1
      exact hret _ _ _ _ ⟨_, ys, zs, rfl, rfl, hz, by omega, hP, fun p hp => off1_mem o1 p (.tail _ hp)⟩ (by k_asm) (news_skip kN1 (fun _ h => .tail _ h))
-- list.remove upon a list of clients
section
open PySem.SeqAt PySem.MeetsSeq PySem.MeetsSeq2 PySem.MeetsSeq3
open PySem.AutoSeq1 (wpAny_loadPart')
theorem remove_loopAt (l : Addr) (items : Array Value) (n : Nat) (x : Value) (e : Nat → Bool) (j : Nat) (hj : j < items.size) (hit : e j = true) (k : Nat) (hs1 : items.size ≤ sizeLine) :
    ∀ i : Nat, j - i = k → i ≤ j → (∀ m, i ≤ m → m < j → e m = false) → Meets (Builtin.«list.remove.loop» ⟨[.ref l, x, rawInt i], []⟩)
      (fun A R s => s.heap.get? l = some { cls := .type "list", dict := none, data := .seq items n, slots := #[] } ∧ (∀ m (h : m < items.size), EqAt A.in1 s items[m] x (e m)) ∧ R (.ok (.ret .none)) { s with heap := s.heap.update l (Obj.mapSeq fun xs => xs.eraseIdxIfInBounds j) }) := by
  induction k with
  | zero =>
    intro i hk hij hno prog w A R s h
    obtain ⟨hp, g, d, tk, os⟩ := s; obtain ⟨hl, he, h⟩ := h
    have hij' : i = j := by omega
    subst hij'
    wp_walk using wpAny_loadPart' hl
    have hi : items[((i : Nat) : Int).toNat]? = some items[i] := by simp [hj]
    rw [hi]
    refine wpAny_bind (he i hj prog w _ _ ?_)
    rw [hit]
    have hz' : (items.eraseIdxIfInBounds i).size ≤ sizeLine + 1 := by
      rw [Array.eraseIdxIfInBounds]
      split
      · rw [Array.size_eraseIdx]; omega
      · omega
    wp_walk using (wpAny_updateSeq hl rfl (hz := hs1) (_hz' := hz')), wpAny_loadPart' hl
    simpa using h
  | succ k ih =>
    intro i hk hij hno prog w A R s h
    obtain ⟨hp, g, d, tk, os⟩ := s; obtain ⟨hl, he, h⟩ := h
    have hlt : i < items.size := by omega
    wp_walk using wpAny_loadPart' hl
    have hi : items[((i : Nat) : Int).toNat]? = some items[i] := by simp [hlt]
    have hc : ((i : Int) + 1) = ((i + 1 : Nat) : Int) := by push_cast; rfl
    rw [hi]
    refine wpAny_bind (he i hlt prog w _ _ ?_)
    rw [hno i (Nat.le_refl _) (by omega)]
    wp_walk
    rw [hc]
    exact ⟨plainId_quiet plain_remove_loop _, codeAny_builtin entry_remove_loop (by
      rw [Around.under_plainId plain_remove_loop _]
      exact ih (i + 1) (by omega) (by omega) (fun m h1 h2 => hno m (by omega) h2) prog w A R _ ⟨hl, he, h⟩)⟩
theorem list_removeAt (l : Addr) (items : Array Value) (n : Nat) (x : Value) (e : Nat → Bool) (j : Nat) (hj : j < items.size) (hit : e j = true) (hno : ∀ m, m < j → e m = false) (hs1 : items.size ≤ sizeLine) :
    Meets (Builtin.«list.remove» ⟨[.ref l, x], []⟩)
      (fun A R s => s.heap.get? l = some { cls := .type "list", dict := none, data := .seq items n, slots := #[] } ∧ (∀ m (h : m < items.size), EqAt A.in1 s items[m] x (e m)) ∧ R (.ok (.ret .none)) { s with heap := s.heap.update l (Obj.mapSeq fun xs => xs.eraseIdxIfInBounds j) }) := by
  intro prog w A R s h
  obtain ⟨hp, g, d, tk, os⟩ := s; obtain ⟨hl, he, h⟩ := h
  wp_walk using wpAny_loadPart' hl
  exact ⟨plainId_quiet plain_remove_loop _, codeAny_builtin entry_remove_loop (by
    rw [Around.under_plainId plain_remove_loop _]
    exact remove_loopAt l items n x e j hj hit _ hs1 0 rfl (Nat.zero_le _) (fun m _ h2 => hno m h2) prog w A R _ ⟨hl, he, h⟩)⟩
end
theorem cl_inj {a b : Str} (h : clD a = clD b) : a = b := by
  simp only [clD, Dat.list.injEq, List.cons.injEq] at h
  exact codes_inj h.1
section
variable {prog : Program} {w : World} {A : Around} {E : Value → Shared → Prop} {s : Shared} {h₀ : Heap} {L T a : Addr} {m : Str → Option Value} {news news' n₁ : List (Addr × Obj)} {vs : List Value} {ks : List Str} {n : Nat} {k0 : Str} {j : Nat}
theorem rem_cl {Q : Value → Shared → Prop} (F : Fr h₀ L s.heap m) (N : News h₀ L s.heap news) (U : Upd T (listOf vs.toArray n) (listOf (vs.eraseIdx j).toArray (n + 1)) news news') (hs : ∀ p ∈ n₁, p ∈ news) (hD : DatAll n₁ vs (ks.map clD)) (ha : DatIn n₁ (.ref a) (clD k0)) (hj : j < ks.length) (hit : ks.getD j Str.empty = k0) (hno : ∀ i, i < j → ks.getD i Str.empty ≠ k0)
    (h7 : ks.length ≤ 7) (hu : A.units + 64 < cLine) (h : ∀ h', Fr h₀ L h' m → News h₀ L h' news' → Q .none { s with heap := h' }) : wpAny (model prog w) A (call (.builtin "list.remove") [.ref T, .ref a]) Q E s := by
  obtain ⟨pre, post, rfl, rfl, a', b'⟩ := U.split
  have z := N (T, listOf vs.toArray n) (List.mem_append.mpr (.inr (.head _)))
  have hl : vs.length = ks.length := by rw [hD.length, List.length_map]
  have hsz : vs.toArray.size ≤ sizeLine := by rw [sizeLine_eq, List.size_toArray]; omega
  refine call_meets PySem.F.slot_list_remove ⟨_, z.1, rfl⟩ PySem.F.entry_list_remove (PySem.F.args_list_remove_2 _ _)
    (list_removeAt T vs.toArray n (.ref a) (fun i => decide (ks.getD i Str.empty = k0)) j (by rw [List.size_toArray]; omega) (by simpa using hit) (fun i hi => by simpa using hno i hi) hsz)
    ⟨z.1, ?_, h _ (F.change (Heap.SameBut.update ..) z.2.1 z.2.2) (ki_turn _ N a' b' ?_ ?_)⟩
  · intro i hi
    rw [List.size_toArray] at hi
    obtain ⟨v, hv, hd⟩ := all_map_get hD (i := i) (by omega)
    have e1 : vs.toArray[i] = v := by
      have : vs[i]? = some vs[i] := List.getElem?_eq_getElem hi
      rw [this] at hv
      simpa using Option.some.inj hv
    rw [e1]
    refine dat_eqAt N (hd.mono hs) (ha.mono hs) (cl_ok _) (cl_ok _) (by show A.units + 1 + 8 < cLine; omega) ?_
    rw [decide_eq_true_eq]
    exact ⟨fun e => by rw [e], cl_inj⟩
  · show vs.toArray.eraseIdxIfInBounds j = (vs.eraseIdx j).toArray
    apply Array.toList_inj.mp
    simp [Array.toList_eraseIdxIfInBounds]
  · have hq : (vs.eraseIdx j).toArray.size ≠ vs.toArray.size := by
      rw [List.size_toArray, List.size_toArray, List.length_eraseIdx, if_pos (by omega)]; omega
    rw [if_neg (by simpa using hq)]
end
theorem datAll_erase {news : List (Addr × Obj)} : ∀ {vs : List Value} {ds : List Dat}, DatAll news vs ds → ∀ j, DatAll news (vs.eraseIdx j) (ds.eraseIdx j)
  | _, _, .nil, _ => .nil
  | _, _, .cons _ r, 0 => r
  | _, _, .cons x r, j + 1 => .cons x (datAll_erase r j)
-- texts as lists of codes
open PySem.StrLaws
section
variable {x : Str} {c lo hi k : Nat}
theorem at_one (hhi : hi ≤ x.length) : At x ⟨#[c]⟩ hi k ↔ k < hi ∧ x.cps.toList[k]? = some c := by
  have h := subAt_one x c k
  have l1 : (⟨#[c]⟩ : Str).length = 1 := rfl
  unfold At
  rw [l1] at h ⊢
  constructor
  · rintro ⟨a, b⟩; exact ⟨by omega, h.mp ⟨by omega, b⟩⟩
  · rintro ⟨a, b⟩; exact ⟨by omega, (h.mpr b).2⟩
theorem occ_at (hhi : hi ≤ x.length) (h1 : lo ≤ k) (h2 : k < hi) (h3 : x.cps.toList[k]? = some c) (h4 : ∀ j, lo ≤ j → j < k → x.cps.toList[j]? ≠ some c) : ∃ r, occurrences x ⟨#[c]⟩ lo hi 1 = k :: r := by
  rw [occ_eq]
  have hk : k ∈ List.range' lo (hi + 1 - lo) := by rw [List.mem_range'_1]; omega
  have hp := List.pairwise_lt_range' (s := lo) (n := hi + 1 - lo)
  rcases occ_first x ⟨#[c]⟩ hi 1 (Nat.le_refl _) (List.range' lo (hi + 1 - lo)) lo (fun i hi' => (List.mem_range'_1.mp hi').1) with ⟨h0, hn⟩ | ⟨pre, a, post, e, h0, ha, hn⟩
  · exact absurd ((at_one hhi).mpr ⟨h2, h3⟩) (hn k hk)
  · have ek : k = a := by
      rw [e] at hk hp
      have ha2 : a ∈ List.range' lo (hi + 1 - lo) := by rw [e]; simp
      rcases List.mem_append.mp hk with hk | hk
      · exact absurd ((at_one hhi).mpr ⟨h2, h3⟩) (hn k hk)
      · rcases List.mem_cons.mp hk with hk | hk
        · exact hk
        · have := (List.pairwise_cons.mp (List.pairwise_append.mp hp).2.1).1 k hk
          exact absurd ((at_one hhi).mp ha).2 (h4 a (List.mem_range'_1.mp ha2).1 this)
    subst ek
    generalize (forIn (List.range' lo (hi + 1 - lo)) ((#[] : Array Nat), lo) (occBody x ⟨#[c]⟩ hi 1)).run.fst = arr at h0
    have q1 : arr.toList[0]? = some k := by simpa using h0
    cases hL : arr.toList with
    | nil => rw [hL] at q1; cases q1
    | cons b t => rw [hL] at q1; simp at q1; rw [q1]; exact ⟨t, rfl⟩
theorem occ_no (hhi : hi ≤ x.length) (h4 : ∀ j, lo ≤ j → j < hi → x.cps.toList[j]? ≠ some c) : occurrences x ⟨#[c]⟩ lo hi 1 = [] := by
  rw [occ_eq]
  rcases occ_first x ⟨#[c]⟩ hi 1 (Nat.le_refl _) (List.range' lo (hi + 1 - lo)) lo (fun i hi' => (List.mem_range'_1.mp hi').1) with ⟨h0, hn⟩ | ⟨pre, a, post, e, h0, ha, hn⟩
  · rw [h0]
  · have ha2 : a ∈ List.range' lo (hi + 1 - lo) := by rw [e]; simp
    have z := (at_one hhi).mp ha
    exact absurd z.2 (h4 a (List.mem_range'_1.mp ha2).1 z.1)
theorem last_at (hhi : hi ≤ x.length) (h2 : k < hi) (h3 : x.cps.toList[k]? = some c) (h4 : ∀ j, k < j → j < hi → x.cps.toList[j]? ≠ some c) : lastOccurrence x ⟨#[c]⟩ 0 hi = some k := by
  rw [last_eq]
  have key := last_run x ⟨#[c]⟩ hi (List.range' 0 (hi + 1 - 0)) [] none (fun _ h => nomatch h) (fun _ h => nomatch h) (by simpa using List.pairwise_lt_range' (s := 0) (n := hi + 1 - 0))
  rw [List.nil_append] at key
  have hk : k ∈ List.range' 0 (hi + 1 - 0) := by rw [List.mem_range'_1]; omega
  cases hr : (forIn (List.range' 0 (hi + 1 - 0)) none (lastBody x ⟨#[c]⟩ hi)).run with
  | none =>
    rw [hr] at key
    exact absurd ((at_one hhi).mpr ⟨h2, h3⟩) (key k hk)
  | some a =>
    rw [hr] at key
    obtain ⟨ka, kb⟩ := key
    have z := (at_one hhi).mp ka
    rcases Nat.lt_trichotomy a k with h | h | h
    · exact absurd ((at_one hhi).mpr ⟨h2, h3⟩) (kb k hk h)
    · rw [h]
    · exact absurd z.2 (h4 a h z.1)
theorem last_no (hhi : hi ≤ x.length) (h4 : ∀ j, j < hi → x.cps.toList[j]? ≠ some c) : lastOccurrence x ⟨#[c]⟩ 0 hi = none := by
  rw [last_eq]
  have key := last_run x ⟨#[c]⟩ hi (List.range' 0 (hi + 1 - 0)) [] none (fun _ h => nomatch h) (fun _ h => nomatch h) (by simpa using List.pairwise_lt_range' (s := 0) (n := hi + 1 - 0))
  cases hr : (forIn (List.range' 0 (hi + 1 - 0)) none (lastBody x ⟨#[c]⟩ hi)).run with
  | none => rfl
  | some a =>
    rw [hr] at key
    have z := (at_one hhi).mp key.1
    exact absurd z.2 (h4 a z.1)
end
def cutAt (c : Nat) (l : List Nat) : List Nat := l.takeWhile (· != c)
def aftL (c : Nat) (l : List Nat) : List Nat := (l.reverse.takeWhile (· != c)).reverse
def stripL (l : List Nat) : List Nat := aftL 46 (cutAt 58 (cutAt 10 l))
theorem cutAt_take (c : Nat) : ∀ l : List Nat, cutAt c l = l.take (cutAt c l).length
  | [] => rfl
  | a :: l => by
    unfold cutAt
    rw [List.takeWhile_cons]
    split
    · rw [List.length_cons, List.take_succ_cons]
      congr 1
      exact cutAt_take c l
    · rfl
theorem cutAt_le (c : Nat) (l : List Nat) : (cutAt c l).length ≤ l.length := (List.takeWhile_sublist _).length_le
theorem cutAt_no (c : Nat) : ∀ (l : List Nat) (j : Nat), j < (cutAt c l).length → l[j]? ≠ some c
  | [], j, h => absurd h (Nat.not_lt_zero _)
  | a :: l, j, h => by
    unfold cutAt at h
    rw [List.takeWhile_cons] at h
    split at h
    · rename_i ha
      cases j with
      | zero => simpa using ha
      | succ j => simpa using cutAt_no c l j (by simpa [cutAt] using h)
    · exact absurd h (Nat.not_lt_zero _)
theorem cutAt_at (c : Nat) : ∀ (l : List Nat), (cutAt c l).length < l.length → l[(cutAt c l).length]? = some c
  | [], h => absurd h (Nat.not_lt_zero _)
  | a :: l, h => by
    unfold cutAt at h ⊢
    rw [List.takeWhile_cons] at h ⊢
    split
    · rename_i ha
      rw [if_pos ha] at h
      rw [List.length_cons, List.getElem?_cons_succ]
      exact cutAt_at c l (by simpa [cutAt] using h)
    · rename_i ha
      simpa using ha
theorem len_cps (x : Str) : x.cps.toList.length = x.length := Array.length_toList
theorem from_nat (n i : Nat) : fromIndex n (i : Int) = i := by
  unfold fromIndex
  split <;> omega
theorem nl_eq : Str.ofString "\n" = ⟨#[10]⟩ := by decide
theorem co_eq : Str.ofString ":" = ⟨#[58]⟩ := by decide
theorem do_eq : Str.ofString "." = ⟨#[46]⟩ := by decide
theorem stE1_eq (x : Str) : stE1 x = ((cutAt 10 x.cps.toList).length : Int) := by
  have hle := cutAt_le 10 x.cps.toList
  rw [len_cps] at hle
  unfold stE1 Txt.find
  rw [nl_eq]
  rcases Nat.lt_or_ge (cutAt 10 x.cps.toList).length x.length with h | h
  · obtain ⟨r, e⟩ := occ_at (x := x) (c := 10) (lo := 0) (hi := x.length) (Nat.le_refl _) (Nat.zero_le _) h (cutAt_at 10 _ (by rw [len_cps]; exact h)) (fun j _ hj => cutAt_no 10 _ j hj)
    rw [e]
    exact if_pos (Int.natCast_nonneg _)
  · rw [occ_no (Nat.le_refl _) (fun j _ hj => cutAt_no 10 _ j (by omega))]
    rw [if_neg (by decide)]
    omega
theorem take_get {l : List Nat} {n j : Nat} (h : j < n) : (l.take n)[j]? = l[j]? := by rw [List.getElem?_take_of_lt h]
theorem stE2_eq (x : Str) : stE2 x = ((cutAt 58 (cutAt 10 x.cps.toList)).length : Int) := by
  have h1 := cutAt_le 10 x.cps.toList
  have h2 := cutAt_le 58 (cutAt 10 x.cps.toList)
  rw [len_cps] at h1
  have et := cutAt_take 10 x.cps.toList
  unfold stE2 fnd4
  rw [stE1_eq, co_eq, from_nat x.length (cutAt 10 x.cps.toList).length, show (0 : Int) = ((0 : Nat) : Int) from rfl, from_nat x.length 0, Nat.min_eq_left h1]
  generalize hN : (cutAt 10 x.cps.toList).length = N at *
  have no : ∀ j, j < (cutAt 58 (cutAt 10 x.cps.toList)).length → x.cps.toList[j]? ≠ some 58 := fun j hj => by
    have := cutAt_no 58 (cutAt 10 x.cps.toList) j hj
    rw [et, take_get (by omega)] at this
    exact this
  rcases Nat.lt_or_ge (cutAt 58 (cutAt 10 x.cps.toList)).length N with h | h
  · have hat := cutAt_at 58 (cutAt 10 x.cps.toList) (by omega)
    rw [et, take_get (by rw [← et]; omega), ← et] at hat
    obtain ⟨r, e⟩ := occ_at (x := x) (c := 58) (lo := 0) (hi := N) h1 (Nat.zero_le _) h hat (fun j _ hj => no j hj)
    rw [e]
    exact if_pos (Int.natCast_nonneg _)
  · rw [occ_no h1 (fun j _ hj => no j (by omega))]
    rw [if_neg (by decide)]
    omega
theorem cutAt_drop (c : Nat) (l : List Nat) : (cutAt c l).length < l.length → l = cutAt c l ++ c :: l.drop ((cutAt c l).length + 1) := by
  intro h
  have e : l.drop (cutAt c l).length = c :: l.drop ((cutAt c l).length + 1) := by
    rw [List.drop_eq_getElem_cons h]
    congr 1
    have := cutAt_at c l h
    rw [List.getElem?_eq_getElem h] at this
    exact Option.some.inj this
  rw [← e]
  conv => lhs; rw [← List.take_append_drop (cutAt c l).length l, ← cutAt_take]
theorem stripF_list (x : Str) : (stripF x).cps.toList = stripL x.cps.toList := by
  have h1 := cutAt_le 10 x.cps.toList
  have h2 := cutAt_le 58 (cutAt 10 x.cps.toList)
  rw [len_cps] at h1
  have et := cutAt_take 10 x.cps.toList
  have et2 := cutAt_take 58 (cutAt 10 x.cps.toList)
  unfold stripL
  have hE := stE2_eq x
  generalize hM : cutAt 58 (cutAt 10 x.cps.toList) = M at *
  have eM : M = x.cps.toList.take M.length := by
    rw [et, List.take_take, Nat.min_eq_left (by omega)] at et2
    exact et2
  have getM : ∀ j, j < M.length → M[j]? = x.cps.toList[j]? := fun j hj => by
    have q := congrArg (fun l : List Nat => l[j]?) eM
    exact q.trans (take_get hj)
  have hS : stS x = ((M.length - (cutAt 46 M.reverse).length : Nat) : Int) := by
    have hle := cutAt_le 46 M.reverse
    rw [List.length_reverse] at hle
    unfold stS rfnd4
    rw [hE, do_eq, from_nat x.length M.length, show (0 : Int) = ((0 : Nat) : Int) from rfl, from_nat x.length 0, Nat.min_eq_left (by omega)]
    have no : ∀ j, M.length - 1 - j < (cutAt 46 M.reverse).length → j < M.length → x.cps.toList[j]? ≠ some 46 := fun j hj hj2 => by
      have := cutAt_no 46 M.reverse (M.length - 1 - j) hj
      rw [List.getElem?_reverse (by omega), show M.length - 1 - (M.length - 1 - j) = j by omega, getM j hj2] at this
      exact this
    rcases Nat.lt_or_ge (cutAt 46 M.reverse).length M.length with h | h
    · have hat := cutAt_at 46 M.reverse (by rw [List.length_reverse]; exact h)
      rw [List.getElem?_reverse (by omega), getM _ (by omega)] at hat
      rw [last_at (k := M.length - 1 - (cutAt 46 M.reverse).length) (by omega) (by omega) hat (fun j a b => no j (by omega) b)]
      dsimp only
      rw [if_pos (by omega)]
      omega
    · rw [last_no (by omega) (fun j hj => no j (by omega) hj)]
      rw [if_neg (by decide)]
      omega
  have hle := cutAt_le 46 M.reverse
  rw [List.length_reverse] at hle
  have hsl := slice_closes (x := x) (i := stS x) (j := stE2 x) ⟨by rw [hS]; omega, by rw [hS, hE]; omega, by rw [hE, len_cps]; omega⟩
  have hsl2 := (beq_iff_eq.mp hsl)
  unfold stripF
  rw [hsl2, hS, hE]
  have eT := cutAt_take 46 M.reverse
  have q : aftL 46 M = M.drop (M.length - (cutAt 46 M.reverse).length) := by
    show (cutAt 46 M.reverse).reverse = _
    generalize (cutAt 46 M.reverse).length = K at *
    rw [eT, List.reverse_take, List.length_reverse, List.reverse_reverse]
  rw [q]
  generalize M.length - (cutAt 46 M.reverse).length = d at *
  have e1 : M.drop d = (x.cps.toList.drop d).take (M.length - d) := (congrArg (List.drop d) eM).trans (List.drop_take ..)
  rw [e1]
  show (List.drop (Int.toNat _) x.cps.toList).take _ = _
  rw [Int.toNat_natCast]
  congr 1
  omega
-- the replies as lists
open PySem.StrLaws
theorem str_ext {a b : Str} (h : a.cps.toList = b.cps.toList) : a = b := by
  cases a; cases b
  simp only [PySem.Str.mk.injEq] at h ⊢
  exact Array.toList_inj.mp h
theorem app_list (a b : Str) : (a ++ b).cps.toList = a.cps.toList ++ b.cps.toList := by
  rw [PySem.Str.cps_append, Array.toList_append]
theorem cutAt_app_in {c : Nat} : ∀ {a b : List Nat}, c ∈ a → cutAt c (a ++ b) = cutAt c a
  | [], _, h => nomatch h
  | x :: a, b, h => by
    unfold cutAt
    rw [List.cons_append, List.takeWhile_cons, List.takeWhile_cons]
    split
    · rename_i hx
      congr 1
      refine cutAt_app_in (c := c) ((List.mem_cons.mp h).resolve_left ?_)
      intro e; subst e; simp at hx
    · rfl
theorem cutAt_all {c : Nat} : ∀ {a : List Nat}, c ∉ a → cutAt c a = a
  | [], _ => rfl
  | x :: a, h => by
    unfold cutAt
    rw [List.takeWhile_cons, if_pos (by simp only [bne_iff_ne, ne_eq]; intro e; subst e; exact h (.head _))]
    congr 1
    exact cutAt_all (fun m => h (.tail _ m))
theorem cutAt_app_out {c : Nat} : ∀ {a b : List Nat}, c ∉ a → cutAt c (a ++ b) = a ++ cutAt c b
  | [], _, _ => rfl
  | x :: a, b, h => by
    unfold cutAt
    rw [List.cons_append, List.takeWhile_cons, if_pos (by simp only [bne_iff_ne, ne_eq]; intro e; subst e; exact h (.head _))]
    rw [List.cons_append]
    congr 1
    exact cutAt_app_out (fun m => h (.tail _ m))
theorem strip_in {a b : List Nat} (h : 10 ∈ a ∨ 58 ∈ a) (hb : 10 ∉ b) : stripL (a ++ b) = stripL a := by
  unfold stripL
  by_cases h1 : 10 ∈ a
  · rw [cutAt_app_in h1]
  · have h2 : 58 ∈ a := h.resolve_left h1
    rw [cutAt_app_out h1, cutAt_all hb, cutAt_all h1, cutAt_app_in h2]
theorem strip_out {a b : List Nat} (h1 : 10 ∉ a) (h2 : 58 ∉ a) (b1 : 10 ∉ b) (b2 : 58 ∉ b) (b3 : 46 ∉ b) : stripL (a ++ b) = stripL a ++ b := by
  unfold stripL
  rw [cutAt_app_out h1, cutAt_all b1, cutAt_app_out h2, cutAt_all b2, cutAt_all h1, cutAt_all h2]
  unfold aftL
  rw [List.reverse_append]
  show (cutAt 46 (b.reverse ++ a.reverse)).reverse = _
  rw [cutAt_app_out (by simpa using b3), List.reverse_append, List.reverse_reverse]
  rfl
theorem strip_key {y s : List Nat} (h1 : 10 ∉ y) (h2 : 58 ∉ y) (b1 : 10 ∉ s) (b2 : 58 ∉ s) (b3 : 46 ∉ s) : stripL (y ++ 46 :: s) = s := by
  unfold stripL
  have c1 : 10 ∉ y ++ 46 :: s := by simp [h1, b1]
  have c2 : 58 ∉ y ++ 46 :: s := by simp [h2, b2]
  rw [cutAt_all c1, cutAt_all c2]
  unfold aftL
  rw [List.reverse_append, List.reverse_cons, List.append_assoc]
  show (cutAt 46 (s.reverse ++ ([46] ++ y.reverse))).reverse = s
  rw [cutAt_app_out (by simpa using b3)]
  have : cutAt 46 ([46] ++ y.reverse) = [] := rfl
  rw [this, List.append_nil, List.reverse_reverse]
theorem op_eq : Str.ofString "(" = ⟨#[40]⟩ := by decide
theorem cl_eq : Str.ofString ")" = ⟨#[41]⟩ := by decide
section
variable {pre mid : Str}
def repOf (pre mid : Str) : Str := pre ++ (Str.ofString "(" ++ mid ++ Str.ofString ")")
theorem rep_list : (repOf pre mid).cps.toList = pre.cps.toList ++ (40 :: mid.cps.toList ++ [41]) := by
  unfold repOf
  rw [app_list, app_list, app_list, op_eq, cl_eq]
  rfl
theorem rep_len : (repOf pre mid).length = pre.length + mid.length + 2 := by
  rw [← len_cps, rep_list, ← len_cps pre, ← len_cps mid]
  simp only [List.length_append, List.length_cons, List.length_nil]
  omega
theorem rep_get1 {j : Nat} (h : j < pre.length) : (repOf pre mid).cps.toList[j]? = pre.cps.toList[j]? := by
  rw [rep_list, List.getElem?_append_left (by rw [len_cps]; exact h)]
theorem rep_get2 : (repOf pre mid).cps.toList[pre.length]? = some 40 := by
  rw [rep_list, List.getElem?_append_right (by rw [len_cps]; exact Nat.le_refl _), len_cps, Nat.sub_self]
  rfl
theorem rep_get3 {j : Nat} (h : j < mid.length) : (repOf pre mid).cps.toList[pre.length + 1 + j]? = mid.cps.toList[j]? := by
  rw [rep_list, List.getElem?_append_right (by rw [len_cps]; omega), len_cps, show pre.length + 1 + j - pre.length = j + 1 by omega, List.cons_append, List.getElem?_cons_succ, List.getElem?_append_left (by rw [len_cps]; exact h)]
theorem rep_get4 : (repOf pre mid).cps.toList[pre.length + 1 + mid.length]? = some 41 := by
  rw [rep_list, List.getElem?_append_right (by rw [len_cps]; omega), len_cps, show pre.length + 1 + mid.length - pre.length = mid.length + 1 by omega, List.cons_append, List.getElem?_cons_succ, List.getElem?_append_right (by rw [len_cps]; exact Nat.le_refl _), len_cps, Nat.sub_self]
  rfl
theorem rep_find (h : 40 ∉ pre.cps.toList) : Txt.find (repOf pre mid) (Str.ofString "(") = (pre.length : Int) := by
  unfold Txt.find
  rw [op_eq]
  obtain ⟨r, e⟩ := occ_at (x := repOf pre mid) (c := 40) (lo := 0) (hi := (repOf pre mid).length) (Nat.le_refl _) (Nat.zero_le _) (by rw [rep_len]; omega) rep_get2 (fun j _ hj e => by
    rw [rep_get1 hj] at e
    exact h (List.mem_of_getElem? e))
  rw [e]
theorem rep_find3 (h : 41 ∉ mid.cps.toList) : Txt.find3 (repOf pre mid) (Str.ofString ")") ((pre.length : Int) + 1) = ((pre.length + 1 + mid.length : Nat) : Int) := by
  unfold Txt.find3
  rw [cl_eq, show (pre.length : Int) + 1 = ((pre.length + 1 : Nat) : Int) by omega, from_nat]
  obtain ⟨r, e⟩ := occ_at (x := repOf pre mid) (c := 41) (lo := pre.length + 1) (hi := (repOf pre mid).length) (Nat.le_refl _) (by omega) (by rw [rep_len]; omega) rep_get4 (fun j hj0 hj e => by
    rw [show j = pre.length + 1 + (j - pre.length - 1) by omega, rep_get3 (by omega)] at e
    exact h (List.mem_of_getElem? e))
  rw [e]
theorem rep_item {i : Int} {j : Nat} {c : Nat} (hi : i = ((pre.length + 1 + j : Nat) : Int)) (hj : j < mid.length) (hc : mid.cps.toList[j]? = some c) : Txt.item (repOf pre mid) i = ⟨#[c]⟩ := by
  subst hi
  have hl : pre.length + 1 + j < (repOf pre mid).length := by rw [rep_len]; omega
  rw [item_meets ⟨by omega, by omega⟩, Int.toNat_natCast]
  have q := rep_get3 (pre := pre) hj
  rw [hc] at q
  have : (repOf pre mid).cps.getD (pre.length + 1 + j) 0 = c := by
    rw [Array.getD_eq_getD_getElem?, ← Array.getElem?_toList, q]; rfl
  rw [this]
theorem rep_slice : Txt.slice (repOf pre mid) (some ((pre.length : Int) + 1)) (some ((pre.length + 1 + mid.length : Nat) : Int)) = mid := by
  have hl := rep_len (pre := pre) (mid := mid)
  have h := beq_iff_eq.mp (slice_closes (x := repOf pre mid) (i := (pre.length : Int) + 1) (j := ((pre.length + 1 + mid.length : Nat) : Int)) ⟨by omega, by omega, by rw [len_cps]; omega⟩)
  rw [h]
  refine str_ext ?_
  show List.take _ (List.drop _ _) = _
  rw [rep_list, show ((pre.length : Int) + 1).toNat = pre.cps.toList.length + 1 by rw [len_cps]; omega, List.drop_append, List.drop_eq_nil_of_le (by omega), show pre.cps.toList.length + 1 - pre.cps.toList.length = 1 by omega, List.nil_append, List.cons_append, List.drop_succ_cons, List.drop_zero]
  rw [List.take_append_of_le_length (by rw [len_cps]; omega), List.take_of_length_le (by rw [len_cps]; omega)]
theorem rep_take (h : 3 ≤ pre.length) : Txt.slice (repOf pre mid) none (some 3) = ⟨(pre.cps.toList.take 3).toArray⟩ := by
  have hl := rep_len (pre := pre) (mid := mid)
  have h := beq_iff_eq.mp (slice_closes_to (x := repOf pre mid) (j := 3) ⟨by omega, by rw [len_cps]; omega⟩)
  rw [h]
  refine str_ext ?_
  show List.take 3 (List.drop 0 _) = List.take 3 _
  rw [rep_list, List.drop_zero, List.take_append_of_le_length (by rw [len_cps]; omega)]
end
-- the draws
def cdN (f : Nat) : Str := if f = 5 then Str.ofString "228" else Str.ofString "229"
def mkN (f : Nat) : Str := Txt.item (Str.ofString "|!;|!|||") (f : Int)
def cntN (f : Nat) : Int := if f = 7 then 2 else 3
def exN (f : Nat) : Str := if f = 6 then Str.ofString "!" else Str.ofString ""
def spN (p : Nat) : Str := Str.ofString (toString (p : Int))
def mksN (f : Nat) : Str := Txt.mul (mkN f) (cntN f)
def midN (f p : Nat) : Str := mksN f ++ Str.ofString "0" ++ spN p ++ mkN f ++ exN f
def preC (c : Str) (i j k : Nat) : Str := c ++ Str.ofString " " ++ pas.getD k Str.empty ++ nms.getD i Str.empty ++ tls.getD j Str.empty
def baseC (c : Str) (i k : Nat) : Str := if (pas.getD k Str.empty == Str.ofString "") = true then c ++ Str.ofString " " ++ nms.getD i Str.empty else nms.getD i Str.empty
def okA (c : Str) (i j k : Nat) : Bool :=
  !(preC c i j k).cps.toList.contains 40 && (preC c i j k).cps.toList.take 3 == c.cps.toList && stripL (preC c i j k).cps.toList == (baseC c i k).cps.toList
  && (if j = 4 then !(preC c i j k).cps.toList.contains 10 && !(preC c i j k).cps.toList.contains 58 && tls.getD j Str.empty == Str.ofString "" else ((preC c i j k).cps.toList.contains 10 || (preC c i j k).cps.toList.contains 58) && tls.getD j Str.empty != Str.ofString "")
  && !(baseC c i k).cps.toList.contains 10 && !(baseC c i k).cps.toList.contains 58 && decide (4 ≤ (preC c i j k).length) && decide ((preC c i j k).length ≤ 100) && decide ((baseC c i k).length ≤ 100)
def okB (f p : Nat) : Bool :=
  !(midN f p).cps.toList.contains 10 && !(midN f p).cps.toList.contains 58 && !(midN f p).cps.toList.contains 46 && !(midN f p).cps.toList.contains 41
  && decide (1 ≤ (midN f p).length) && decide ((midN f p).length ≤ 100) && !(spN p).cps.toList.contains 10 && !(spN p).cps.toList.contains 58 && !(spN p).cps.toList.contains 46 && decide ((spN p).length ≤ 100)
  && PySem.intText? (spN p) == some (p : Int) && (midN f p).cps.toList[0]? == (mkN f).cps.toList[0]? && (mkN f).length == 1
  && (if f = 6 then ((midN f p).cps.toList[(midN f p).length - 1]? != (mkN f).cps.toList[0]?) else ((midN f p).cps.toList[(midN f p).length - 1]? == (mkN f).cps.toList[0]?))
  && decide ((mksN f).length ≤ 100) && decide ((exN f).length ≤ 100)
def okC (f p : Nat) : Bool :=
  if f < 5 then Txt.split (midN f p) (mkN f) == [Str.empty, Str.empty, Str.empty, Str.ofString "0" ++ spN p, Str.empty] && PySem.intText? (Str.ofString "0" ++ spN p) == some (p : Int)
  else if f = 7 then Txt.split (midN f p) (mkN f) == [Str.empty, Str.empty, Str.ofString "0" ++ spN p, Str.empty] else true
theorem okA_all : ([Str.ofString "228", Str.ofString "229"].all fun c => (List.range 6).all fun i => (List.range 5).all fun j => (List.range 4).all fun k => okA c i j k) = true := by decide +kernel
theorem okB_all : ((List.range 8).all fun f => (List.range 30).all fun p => okB f p) = true := by decide +kernel
theorem okC_all : ((List.range 8).all fun f => (List.range 30).all fun p => okC f p) = true := by decide +kernel
theorem okA_get (f : Nat) {i j k : Nat} (hi : i < 6) (hj : j < 5) (hk : k < 4) : okA (cdN f) i j k = true := by
  have h := okA_all
  rw [List.all_eq_true] at h
  have h1 := h (cdN f) (by unfold cdN; split <;> simp)
  have h2 := List.all_eq_true.mp h1 i (List.mem_range.mpr hi)
  have h3 := List.all_eq_true.mp h2 j (List.mem_range.mpr hj)
  exact List.all_eq_true.mp h3 k (List.mem_range.mpr hk)
theorem okB_get {f p : Nat} (hf : f < 8) (hp : p < 30) : okB f p = true := List.all_eq_true.mp (List.all_eq_true.mp okB_all f (List.mem_range.mpr hf)) p (List.mem_range.mpr hp)
theorem okC_get {f p : Nat} (hf : f < 8) (hp : p < 30) : okC f p = true := List.all_eq_true.mp (List.all_eq_true.mp okC_all f (List.mem_range.mpr hf)) p (List.mem_range.mpr hp)
structure PreOk (c : Str) (i j k : Nat) : Prop where
  par : 40 ∉ (preC c i j k).cps.toList
  cut : (preC c i j k).cps.toList.take 3 = c.cps.toList
  strip : stripL (preC c i j k).cps.toList = (baseC c i k).cps.toList
  last : j = 4 → 10 ∉ (preC c i j k).cps.toList ∧ 58 ∉ (preC c i j k).cps.toList ∧ (tls.getD j Str.empty == Str.ofString "") = true
  more : j ≠ 4 → (10 ∈ (preC c i j k).cps.toList ∨ 58 ∈ (preC c i j k).cps.toList) ∧ (tls.getD j Str.empty == Str.ofString "") = false
  b10 : 10 ∉ (baseC c i k).cps.toList
  b58 : 58 ∉ (baseC c i k).cps.toList
  low : 4 ≤ (preC c i j k).length
  len : (preC c i j k).length ≤ 100
  blen : (baseC c i k).length ≤ 100
theorem preOk {c : Str} {i j k : Nat} (h : okA c i j k = true) : PreOk c i j k := by
  simp only [okA, Bool.and_eq_true, Bool.not_eq_true', List.contains_eq_mem, decide_eq_false_iff_not, beq_iff_eq, decide_eq_true_eq] at h
  obtain ⟨⟨⟨⟨⟨⟨⟨⟨h1, h2⟩, h3⟩, h4⟩, h5⟩, h6⟩, h7⟩, h8⟩, h9⟩ := h
  refine ⟨h1, h2, h3, fun e => ?_, fun e => ?_, h5, h6, h7, h8, h9⟩
  · rw [if_pos e] at h4
    simp only [Bool.and_eq_true, Bool.not_eq_true', decide_eq_false_iff_not, beq_iff_eq] at h4
    exact ⟨h4.1.1, h4.1.2, by rw [h4.2]; decide⟩
  · rw [if_neg e] at h4
    simp only [Bool.and_eq_true, Bool.or_eq_true, decide_eq_true_eq, bne_iff_ne, ne_eq] at h4
    exact ⟨h4.1, by rw [beq_eq_false_iff_ne]; exact h4.2⟩
structure MidOk (f p : Nat) : Prop where
  m10 : 10 ∉ (midN f p).cps.toList
  m58 : 58 ∉ (midN f p).cps.toList
  m46 : 46 ∉ (midN f p).cps.toList
  m41 : 41 ∉ (midN f p).cps.toList
  low : 1 ≤ (midN f p).length
  len : (midN f p).length ≤ 100
  s10 : 10 ∉ (spN p).cps.toList
  s58 : 58 ∉ (spN p).cps.toList
  s46 : 46 ∉ (spN p).cps.toList
  slen : (spN p).length ≤ 100
  int : PySem.intText? (spN p) = some (p : Int)
  first : (midN f p).cps.toList[0]? = (mkN f).cps.toList[0]?
  one : (mkN f).length = 1
  lastN : f ≠ 6 → (midN f p).cps.toList[(midN f p).length - 1]? = (mkN f).cps.toList[0]?
  last6 : f = 6 → (midN f p).cps.toList[(midN f p).length - 1]? ≠ (mkN f).cps.toList[0]?
  mks : (mksN f).length ≤ 100
  ex : (exN f).length ≤ 100
theorem midOk {f p : Nat} (h : okB f p = true) : MidOk f p := by
  simp only [okB, Bool.and_eq_true, Bool.not_eq_true', List.contains_eq_mem, decide_eq_false_iff_not, beq_iff_eq, decide_eq_true_eq] at h
  obtain ⟨⟨⟨⟨⟨⟨⟨⟨⟨⟨⟨⟨⟨⟨⟨h1, h2⟩, h3⟩, h4⟩, h5⟩, h6⟩, h7⟩, h8⟩, h9⟩, h10⟩, h11⟩, h12⟩, h13⟩, h14⟩, h15⟩, h16⟩ := h
  refine ⟨h1, h2, h3, h4, h5, h6, h7, h8, h9, h10, h11, h12, h13, fun e => ?_, fun e => ?_, h15, h16⟩
  · rw [if_neg e, beq_iff_eq] at h14; exact h14
  · rw [if_pos e, bne_iff_ne] at h14; exact h14
theorem repS (f i j k p : Nat) : repOf (preC (cdN f) i j k) (midN f p) = cdN f ++ Str.ofString " " ++ pas.getD k Str.empty ++ nms.getD i Str.empty ++ tls.getD j Str.empty ++ (Str.ofString "(" ++ mksN f ++ Str.ofString "0" ++ spN p ++ mkN f ++ exN f ++ Str.ofString ")") := by
  refine str_ext ?_
  simp only [repOf, preC, midN, app_list, List.append_assoc]
/-- the bare name that the client draws -/
def bareN (f i j k p : Nat) : Str := if (tls.getD j Str.empty == Str.ofString "") = true then baseC (cdN f) i k ++ (Str.ofString "(" ++ mksN f ++ Str.ofString "0" ++ spN p ++ mkN f ++ exN f ++ Str.ofString ")") else baseC (cdN f) i k
section
variable {f i j k p : Nat} (hf : f < 8) (hi : i < 6) (hj : j < 5) (hk : k < 4) (hp : p < 30)
include hf hi hj hk hp
theorem adr_list : (Str.ofString "(" ++ mksN f ++ Str.ofString "0" ++ spN p ++ mkN f ++ exN f ++ Str.ofString ")").cps.toList = 40 :: (midN f p).cps.toList ++ [41] := by
  simp only [midN, app_list, op_eq, cl_eq, List.append_assoc]
  simp
theorem bare_strip : stripF (repOf (preC (cdN f) i j k) (midN f p)) = bareN f i j k p := by
  have A := preOk (okA_get f hi hj hk)
  have B := midOk (okB_get hf hp)
  refine str_ext ?_
  rw [stripF_list, rep_list]
  unfold bareN
  by_cases e : j = 4
  · obtain ⟨a1, a2, a3⟩ := A.last e
    rw [if_pos a3, app_list, adr_list hf hi hj hk hp, strip_out a1 a2 (by simp [B.m10]) (by simp [B.m58]) (by simp [B.m46]), A.strip]
  · obtain ⟨a1, a3⟩ := A.more e
    rw [if_neg (by rw [a3]; decide), strip_in a1 (by simp [B.m10]), A.strip]
theorem bare_signs : 10 ∉ (bareN f i j k p).cps.toList ∧ 58 ∉ (bareN f i j k p).cps.toList ∧ (bareN f i j k p).length ≤ 300 := by
  have A := preOk (okA_get f hi hj hk)
  have B := midOk (okB_get hf hp)
  have hl : ((Str.ofString "(" ++ mksN f ++ Str.ofString "0" ++ spN p ++ mkN f ++ exN f ++ Str.ofString ")")).length ≤ 102 := by
    rw [← len_cps, adr_list hf hi hj hk hp]
    have := B.len
    rw [← len_cps] at this
    simp only [List.cons_append, List.length_cons, List.length_append, List.length_nil]
    omega
  have hb := A.blen
  unfold bareN
  split
  · rw [app_list, adr_list hf hi hj hk hp, PySem.Str.length_append]
    refine ⟨?_, ?_, by omega⟩
    · simp [A.b10, B.m10]
    · simp [A.b58, B.m58]
  · exact ⟨A.b10, A.b58, by omega⟩
end
/-- the key of a draw -/
def keyN (f i j k p : Nat) : Str := hostY (bareN f i j k p) ++ Str.ofString "." ++ spN p
theorem host_signs {y : Str} (h1 : 10 ∉ y.cps.toList) (h2 : 58 ∉ y.cps.toList) (h3 : y.length ≤ 300) : 10 ∉ (hostY y).cps.toList ∧ 58 ∉ (hostY y).cps.toList ∧ (hostY y).length ≤ 300 := by
  unfold hostY
  split
  · exact ⟨h1, h2, h3⟩
  · exact ⟨by decide, by decide, by decide⟩
section
variable {f i j k p : Nat} (hf : f < 8) (hi : i < 6) (hj : j < 5) (hk : k < 4) (hp : p < 30)
include hf hi hj hk hp
theorem key_list : (keyN f i j k p).cps.toList = (hostY (bareN f i j k p)).cps.toList ++ 46 :: (spN p).cps.toList := by
  unfold keyN
  rw [app_list, app_list, do_eq, List.append_assoc]
  rfl
theorem key_strip : stripF (keyN f i j k p) = spN p := by
  have B := midOk (okB_get hf hp)
  obtain ⟨a1, a2, a3⟩ := bare_signs hf hi hj hk hp
  obtain ⟨c1, c2, c3⟩ := host_signs a1 a2 a3
  refine str_ext ?_
  rw [stripF_list, key_list hf hi hj hk hp, strip_key c1 c2 B.s10 B.s58 B.s46]
theorem key_len : (keyN f i j k p).length ≤ 500 ∧ 0 < (keyN f i j k p).length := by
  have B := midOk (okB_get hf hp)
  obtain ⟨a1, a2, a3⟩ := bare_signs hf hi hj hk hp
  obtain ⟨c1, c2, c3⟩ := host_signs a1 a2 a3
  have := B.slen
  rw [← len_cps] at this c3 ⊢
  rw [key_list hf hi hj hk hp]
  simp only [List.length_append, List.length_cons]
  omega
theorem key_ok : KeyOk (keyN f i j k p) ∧ keyN f i j k p ≠ Str.empty ∧ homeF (keyN f i j k p) = (p : Int) % 7 := by
  have B := midOk (okB_get hf hp)
  obtain ⟨l1, l2⟩ := key_len hf hi hj hk hp
  have e := key_strip hf hi hj hk hp
  refine ⟨⟨by omega, ?_, (p : Int), ?_, by omega, by omega⟩, ?_, ?_⟩
  · rw [e]; have := B.slen; omega
  · rw [e]; exact B.int
  · intro h; rw [h] at l2; exact absurd l2 (by decide)
  · unfold homeF; rw [e, B.int]; rfl
end
-- the client and what is told of it, by the draw
section
variable (d : Int)
def fD : Nat := (d.fdiv 3600).toNat
def iD : Nat := ((d.fdiv 30).fmod 6).toNat
def jD : Nat := ((d.fdiv 180).fmod 5).toNat
def kD : Nat := ((d.fdiv 900).fmod 4).toNat
def pD : Nat := (d.fmod 30).toNat
def keyD : Str := keyN (fD d) (iD d) (jD d) (kD d) (pD d)
def repD : Str := repOf (preC (cdN (fD d)) (iD d) (jD d) (kD d)) (midN (fD d) (pD d))
def refD : Int := if d.fdiv 3600 < 5 then 0 else if d.fdiv 3600 = 5 then 1 else 2
end
theorem toN_lt {x : Int} (n : Nat) (h : 0 ≤ x ∧ x < (n : Int)) : x.toNat < n := (Int.toNat_lt h.1).mpr h.2
section
variable {d : Int} (hd0 : 0 ≤ d) (hd1 : d < 28800)
include hd0 hd1
theorem d_ranges : fD d < 8 ∧ iD d < 6 ∧ jD d < 5 ∧ kD d < 4 ∧ pD d < 30 := by
  have b0 := fm_range d (n := 30) (by decide)
  have b1 := fm_range (d.fdiv 30) (n := 6) (by decide)
  have b2 := fm_range (d.fdiv 180) (n := 5) (by decide)
  have b3 := fm_range (d.fdiv 900) (n := 4) (by decide)
  have b4 := fd_range hd0 hd1
  exact ⟨toN_lt 8 b4, toN_lt 6 b1, toN_lt 5 b2, toN_lt 4 b3, toN_lt 30 b0⟩
theorem fD_cast : ((fD d : Nat) : Int) = d.fdiv 3600 := Int.toNat_of_nonneg (fd_range hd0 hd1).1
theorem pD_cast : ((pD d : Nat) : Int) = d.fmod 30 := Int.toNat_of_nonneg (fm_range d (by decide)).1
theorem keyD_ok : KeyOk (keyD d) ∧ keyD d ≠ Str.empty := by
  obtain ⟨h1, h2, h3, h4, h5⟩ := d_ranges hd0 hd1
  obtain ⟨a, b, _⟩ := key_ok h1 h2 h3 h4 h5
  exact ⟨a, b⟩
theorem homeD : homeF (keyD d) = (d.fmod 30).fmod 7 := by
  obtain ⟨h1, h2, h3, h4, h5⟩ := d_ranges hd0 hd1
  obtain ⟨_, _, e⟩ := key_ok h1 h2 h3 h4 h5
  rw [keyD, e, pD_cast hd0 hd1, Int.fmod_eq_emod_of_nonneg _ (by decide : (0 : Int) ≤ 7)]
end
theorem append_ofEmpty (y : Str) : y ++ Str.ofString "" = y := str_ext (by rw [app_list]; show _ ++ [] = _; rw [List.append_nil])
theorem client_D {w : World} {mean : ExcName → Option Value} {mg mb : Str → Option Value} {news : List (Addr × Obj)} (d : Int) (t : Tok) (hd0 : 0 ≤ d) (hd1 : d < 28800) :
    Ct w mean mg mb 6 89 [.int d t] news (fun v nx => ∃ (a C Rw : Addr) (ys : List Value) (t1 t2 t3 : Tok), v = .ref a ∧
      nx = (a, { cls := .type "tuple", data := .seq [Value.str (repD d) t1, .int (refD d) t2, .ref C].toArray }) :: (C, listOf [Value.ref Rw, .int (homeF (keyD d)) t3].toArray 0) :: (Rw, LCg.lst ys) :: news ∧
      DatAll [] ys (codesD (keyD d)) ∧ ∀ p ∈ news, p.1 ≠ a ∧ p.1 ≠ C ∧ p.1 ≠ Rw) := by
  obtain ⟨h1, h2, h3, h4, h5⟩ := d_ranges hd0 hd1
  have A := preOk (okA_get (fD d) h2 h3 h4)
  have B := midOk (okB_get h1 h5)
  have hf := fD_cast hd0 hd1
  have hpc := pD_cast hd0 hd1
  have eR : (repD d) = cdN (fD d) ++ Str.ofString " " ++ pas.getD (kD d) Str.empty ++ nms.getD (iD d) Str.empty ++ tls.getD (jD d) Str.empty ++ (Str.ofString "(" ++ mksN (fD d) ++ Str.ofString "0" ++ Str.ofString (toString (d.fmod 30)) ++ mkN (fD d) ++ exN (fD d) ++ Str.ofString ")") := by
    rw [repD, repS, spN, hpc]
  have eK : keyD d = hostY (bareN (fD d) (iD d) (jD d) (kD d) (pD d)) ++ Str.ofString "." ++ Str.ofString (toString (d.fmod 30)) := by
    rw [keyD, keyN, spN, hpc]
  rw [homeD hd0 hd1, eR, eK]
  obtain ⟨_, _, hbl⟩ := bare_signs h1 h2 h3 h4 h5
  have hlens : ((cdN (fD d)).length + 1 + (pas.getD (kD d) Str.empty).length + (nms.getD (iD d) Str.empty).length + (tls.getD (jD d) Str.empty).length) ≤ 100 := by
    have := A.len
    simp only [preC, PySem.Str.length_append] at this
    have c4 : (Str.ofString " ").length = 1 := by decide
    omega
  have hmk := B.one
  have hmks := B.mks
  have hex := B.ex
  have hadr := adr_list h1 h2 h3 h4 h5
  have hmid := B.len
  have hsp : Str.ofString (toString (d.fmod 30)) = spN (pD d) := by rw [spN, hpc]
  have hal : (Str.ofString "(" ++ mksN (fD d) ++ Str.ofString "0" ++ spN (pD d) ++ mkN (fD d) ++ exN (fD d) ++ Str.ofString ")").length ≤ 102 := by
    rw [← len_cps, hadr]
    rw [← len_cps] at hmid
    simp only [List.cons_append, List.length_cons, List.length_append, List.length_nil]
    omega
  refine client_K d t 0 0 (cntN (fD d)) (refD d) (nms.getD (iD d) Str.empty) (tls.getD (jD d) Str.empty) (pas.getD (kD d) Str.empty) (cdN (fD d)) (mkN (fD d)) (mksN (fD d)) (exN (fD d))
    (if (tls.getD (jD d) Str.empty == Str.ofString "") = true then Str.ofString "(" ++ mksN (fD d) ++ Str.ofString "0" ++ Str.ofString (toString (d.fmod 30)) ++ mkN (fD d) ++ exN (fD d) ++ Str.ofString ")" else Str.ofString "")
    hd0 hd1 rfl rfl rfl ?_ ?_ ?_ ?_ ?_ ?_ ?_ ?_ ?_ ?_ ?_ ?_ ?_ ?_ ?_ rfl ?_ (bareN (fD d) (iD d) (jD d) (kD d) (pD d)) ?_ ?_
  · have e : (fD d = 5) ↔ (d.fdiv 3600 = 5) := by omega
    simp only [cdN, e]
  · have e : (fD d = 7) ↔ (d.fdiv 3600 = 7) := by omega
    simp only [cntN, e]
  · have e : (fD d = 6) ↔ (d.fdiv 3600 = 6) := by omega
    simp only [exN, e]
  · rfl
  · rw [← hf]; rfl
  · rfl
  · omega
  · omega
  · omega
  · omega
  · omega
  · omega
  · omega
  · unfold cntN; split <;> omega
  · unfold cntN; split <;> omega
  · rw [hsp]
    split
    · omega
    · decide
  · rw [hsp]
    unfold bareN baseC
    cases q1 : (tls.getD (jD d) Str.empty == Str.ofString "") <;> cases q2 : (pas.getD (kD d) Str.empty == Str.ofString "") <;> simp only [if_true, if_false, append_ofEmpty, PySem.Str.append_assoc, Bool.false_eq_true]
  · omega
theorem ct0_mono {w : World} {mean : ExcName → Option Value} {mg mb : Str → Option Value} {need : Nat} {f : Addr} {args : List Value} {news : List (Addr × Obj)} {R R' : Value → List (Addr × Obj) → Prop} (C : Ct0 w mean mg mb need f args news R) (h : ∀ v nx, R v nx → R' v nx) : Ct0 w mean mg mb need f args news R' :=
  fun dp un gd cn cs a ccd A₀ base h₀ L m s Q E B F X N T XB TB hk hd hu ret => C dp un gd cn cs a ccd A₀ base h₀ L m s Q E B F X N T XB TB hk hd hu fun v nx h' tk' r => ret v nx h' tk' (h v nx r)
theorem told_D {w : World} {mean : ExcName → Option Value} {mg mb : Str → Option Value} {news : List (Addr × Obj)} (d : Int) (t : Tok) (hd0 : 0 ≤ d) (hd1 : d < 28800) :
    Ct0 w mean mg mb 12 96 [.str (repD d) t] news (fun v nx => ∃ (a : Addr) (t1 t2 : Tok) (y : Str), v = .ref a ∧ nx = (a, { cls := .type "tuple", data := .seq [Value.int (refD d) t1, .str y t2].toArray }) :: news ∧ (refD d = 0 → y = keyD d)) := by
  obtain ⟨h1, h2, h3, h4, h5⟩ := d_ranges hd0 hd1
  have A := preOk (okA_get (fD d) h2 h3 h4)
  have B := midOk (okB_get h1 h5)
  have C := okC_get h1 h5
  have hf := fD_cast hd0 hd1
  have hpc := pD_cast hd0 hd1
  have hst := bare_strip h1 h2 h3 h4 h5
  obtain ⟨_, _, hbl⟩ := bare_signs h1 h2 h3 h4 h5
  have hlen := rep_len (pre := preC (cdN (fD d)) (iD d) (jD d) (kD d)) (mid := midN (fD d) (pD d))
  have hA := A.len
  have hA4 := A.low
  have hB := B.len
  have hB1 := B.low
  have hx : (repD d).length ≤ 1000 := by rw [repD, hlen]; omega
  have hsl : (stripF (repD d)).length ≤ 1000 := by rw [repD, hst]; omega
  have hcut : Txt.slice (repD d) none (some 3) = cdN (fD d) := by
    rw [repD, rep_take (by omega)]
    refine str_ext ?_
    exact A.cut
  have hfind := rep_find (mid := midN (fD d) (pD d)) A.par
  have hfind3 := rep_find3 (pre := preC (cdN (fD d)) (iD d) (jD d) (kD d)) B.m41
  have hmk : mkN (fD d) = ⟨#[(mkN (fD d)).cps.toList.getD 0 0]⟩ := by
    have := B.one
    rw [← len_cps] at this
    refine str_ext ?_
    match hq : (mkN (fD d)).cps.toList, this with
    | [c], _ => rfl
  have hm0 : (mkN (fD d)).cps.toList[0]? = some ((mkN (fD d)).cps.toList.getD 0 0) := by
    have := B.one
    rw [← len_cps] at this
    match hq : (mkN (fD d)).cps.toList, this with
    | [c], _ => rfl
  have hi1 := rep_item (pre := preC (cdN (fD d)) (iD d) (jD d) (kD d)) (mid := midN (fD d) (pD d)) (i := ((preC (cdN (fD d)) (iD d) (jD d) (kD d)).length : Int) + 1) (j := 0) (by omega) (by omega) (B.first.trans hm0)
  rw [← hmk] at hi1
  by_cases e5 : fD d = 5
  · have er : refD d = 1 := by unfold refD; rw [if_neg (by omega), if_pos (by omega)]
    rw [er]
    have h := told_228 (w := w) (mean := mean) (mg := mg) (mb := mb) (news := news) (repD d) t hx (by rw [hcut, cdN, if_pos e5]; decide) hsl
    exact ct0_mono h fun v nx ⟨a, t1, t2, hv, hn⟩ => ⟨a, t1, t2, _, hv, hn, fun q => absurd q (by decide)⟩
  · have h229 : (Txt.slice (repD d) none (some 3) != Str.ofString "229") = false := by rw [hcut, cdN, if_neg e5]; decide
    by_cases e6 : fD d = 6
    · have er : refD d = 2 := by unfold refD; rw [if_neg (by omega), if_neg (by omega)]
      rw [er]
      obtain ⟨c2, hc2⟩ : ∃ c2, (midN (fD d) (pD d)).cps.toList[(midN (fD d) (pD d)).length - 1]? = some c2 := ⟨_, List.getElem?_eq_getElem (by rw [len_cps]; omega)⟩
      have hi2 := rep_item (pre := preC (cdN (fD d)) (iD d) (jD d) (kD d)) (mid := midN (fD d) (pD d)) (i := ((preC (cdN (fD d)) (iD d) (jD d) (kD d)).length + 1 + (midN (fD d) (pD d)).length : Nat) - 1) (j := (midN (fD d) (pD d)).length - 1) (by omega) (by omega) hc2
      have hne : (mkN (fD d) != ⟨#[c2]⟩) = true := by
        rw [bne_iff_ne]
        intro e
        refine B.last6 e6 ?_
        rw [hc2, e]
        rfl
      have h := told_mark (w := w) (mean := mean) (mg := mg) (mb := mb) (news := news) (repD d) t _ _ _ _ hx h229 hfind (by omega) (by rw [repD, hlen]; omega) hfind3 (by omega) (by rw [repD, hlen]; omega) hi1 hi2 hne hsl
      exact ct0_mono h fun v nx ⟨a, t1, t2, hv, hn⟩ => ⟨a, t1, t2, _, hv, hn, fun q => absurd q (by decide)⟩
    · have hi2 := rep_item (pre := preC (cdN (fD d)) (iD d) (jD d) (kD d)) (mid := midN (fD d) (pD d)) (i := ((preC (cdN (fD d)) (iD d) (jD d) (kD d)).length + 1 + (midN (fD d) (pD d)).length : Nat) - 1) (j := (midN (fD d) (pD d)).length - 1) (by omega) (by omega) ((B.lastN e6).trans hm0)
      rw [← hmk] at hi2
      have hml : ((mkN (fD d)).length == 0) = false := by rw [B.one]; rfl
      have hsx : Txt.slice (repD d) (some (((preC (cdN (fD d)) (iD d) (jD d) (kD d)).length : Int) + 1)) (some ((preC (cdN (fD d)) (iD d) (jD d) (kD d)).length + 1 + (midN (fD d) (pD d)).length : Nat)) = midN (fD d) (pD d) := rep_slice
      by_cases e7 : fD d = 7
      · have er : refD d = 2 := by unfold refD; rw [if_neg (by omega), if_neg (by omega)]
        rw [er]
        unfold okC at C
        rw [if_neg (by omega), if_pos e7, beq_iff_eq] at C
        have h := told_five (w := w) (mean := mean) (mg := mg) (mb := mb) (news := news) (repD d) t _ _ _ _ _ _ _ hx h229 hfind (by omega) (by rw [repD, hlen]; omega) hfind3 (by omega) (by rw [repD, hlen]; omega) hi1 hi2 (by simp) hml (by rw [hsx]; exact C) (by rw [hsx]; omega) hsl
        exact ct0_mono h fun v nx ⟨a, t1, t2, hv, hn⟩ => ⟨a, t1, t2, _, hv, hn, fun q => absurd q (by decide)⟩
      · have er : refD d = 0 := by unfold refD; rw [if_pos (by omega)]
        rw [er]
        unfold okC at C
        rw [if_pos (by omega), Bool.and_eq_true, beq_iff_eq, beq_iff_eq] at C
        have hp3 : (Str.ofString "0" ++ spN (pD d)).length ≤ 640 := by
          have := B.slen
          have c2 : (Str.ofString "0").length = 1 := by decide
          rw [PySem.Str.length_append]; omega
        have h := told_ok (w := w) (mean := mean) (mg := mg) (mb := mb) (news := news) (repD d) t _ _ _ _ _ _ _ _ (pD d : Int) (by omega) (by omega) hx h229 hfind (by omega) (by rw [repD, hlen]; omega) hfind3 (by omega) (by rw [repD, hlen]; omega) hi1 hi2 (by simp) hml (by rw [hsx]; exact C.1) (by rw [hsx]; omega) C.2 hp3 hsl
        refine ct0_mono h fun v nx ⟨a, t1, t2, hv, hn⟩ => ⟨a, t1, t2, _, hv, hn, fun _ => ?_⟩
        rw [keyD, keyN, ← hst]
        rfl
-- the layout: who lies where, and that it hangs on the keys alone
theorem kLe_refl (a : Str) : kLe a a := List.lt_irrefl _
theorem kLe_trans {a b c : Str} (h1 : kLe a b) (h2 : kLe b c) : kLe a c := by
  have q : a.cps.toList ≤ c.cps.toList := List.le_trans (show a.cps.toList ≤ b.cps.toList from h1) (show b.cps.toList ≤ c.cps.toList from h2)
  exact q
theorem kLe_anti {a b : Str} (h1 : kLe a b) (h2 : kLe b a) : a = b := by
  have q : a.cps.toList = b.cps.toList := List.le_antisymm (show a.cps.toList ≤ b.cps.toList from h1) (show b.cps.toList ≤ a.cps.toList from h2)
  exact str_ext q
theorem kLe_of_lt {a b : Str} (h : a.cps.toList < b.cps.toList) : kLe a b := fun q => List.lt_asymm h q
def Path (ring : List Str) (x : Str) (m : Nat) : Prop := ∀ j, j < m → ring.getD ((hm x + j) % 7) Str.empty ≠ Str.empty ∧ kLe (ring.getD ((hm x + j) % 7) Str.empty) x
def Valid (ring : List Str) : Prop := ring.length = 7 ∧ ∀ i, i < 7 → ring.getD i Str.empty ≠ Str.empty → Path ring (ring.getD i Str.empty) ((i + 7 - hm (ring.getD i Str.empty)) % 7)
def keysOf (ring : List Str) : List Str := ring.filter (fun x => decide (x ≠ Str.empty))
theorem set_perm {x : Str} : ∀ (ring : List Str) (p : Nat), p < ring.length → (ring.getD p Str.empty :: ring.set p x).Perm (x :: ring)
  | [], _, h => absurd h (Nat.not_lt_zero _)
  | y :: r, 0, _ => .swap _ _ _
  | y :: r, p + 1, h => by
    show (r.getD p Str.empty :: y :: r.set p x).Perm (x :: y :: r)
    exact (List.Perm.swap _ _ _).trans (((set_perm r p (Nat.lt_of_succ_lt_succ h)).cons y).trans (.swap _ _ _))
theorem keys_put {x : Str} {ring : List Str} {p : Nat} (hp : p < ring.length) (he : ring.getD p Str.empty = Str.empty) (hx : x ≠ Str.empty) : (keysOf (ring.set p x)).Perm (x :: keysOf ring) := by
  have h := (set_perm (x := x) ring p hp).filter (fun x => decide (x ≠ Str.empty))
  rw [he, List.filter_cons_of_neg (by simp), List.filter_cons_of_pos (by simpa using hx)] at h
  exact h
theorem keys_swap {x : Str} {ring : List Str} {p : Nat} (hp : p < ring.length) (he : ring.getD p Str.empty ≠ Str.empty) (hx : x ≠ Str.empty) : (ring.getD p Str.empty :: keysOf (ring.set p x)).Perm (x :: keysOf ring) := by
  have h := (set_perm (x := x) ring p hp).filter (fun x => decide (x ≠ Str.empty))
  rw [List.filter_cons_of_pos (by simpa using he), List.filter_cons_of_pos (by simpa using hx)] at h
  exact h
theorem keys_take {ring : List Str} {p : Nat} (hp : p < ring.length) (he : ring.getD p Str.empty ≠ Str.empty) : (ring.getD p Str.empty :: keysOf (ring.set p Str.empty)).Perm (keysOf ring) := by
  have h := (set_perm (x := Str.empty) ring p hp).filter (fun x => decide (x ≠ Str.empty))
  rw [List.filter_cons_of_pos (by simpa using he), List.filter_cons_of_neg (by simp)] at h
  exact h
theorem get_set (ring : List Str) (p : Nat) (x : Str) (i : Nat) (hp : p < ring.length) : (ring.set p x).getD i Str.empty = if p = i then x else ring.getD i Str.empty := by
  by_cases h : p = i
  · subst h; rw [if_pos rfl]; simp [hp]
  · rw [if_neg h]; exact getD_set_ne h
/-- who comes -/
theorem comes_valid : ∀ (n : Nat) (ring : List Str) (key : Str) (p m : Nat), Valid ring → key ≠ Str.empty → p = (hm key + m) % 7 → Path ring key m → ring.getD ((p + n) % 7) Str.empty = Str.empty →
    Valid (comesGo n ring key p) ∧ (keysOf (comesGo n ring key p)).Perm (key :: keysOf ring)
  | n, ring, key, p, m, V, hk, hp, hP, hn => by
    have h7 := V.1
    have p7 : p < 7 := hp ▸ Nat.mod_lt _ (by decide)
    have pl : p < ring.length := h7 ▸ p7
    have gs : ∀ i, (ring.set p key).getD i Str.empty = if p = i then key else ring.getD i Str.empty := fun i => get_set _ _ _ _ pl
    have put : ring.getD p Str.empty = Str.empty → Valid (ring.set p key) ∧ (keysOf (ring.set p key)).Perm (key :: keysOf ring) := by
      intro he
      refine ⟨⟨by rw [List.length_set]; exact h7, ?_⟩, keys_put pl he hk⟩
      intro i hi hne j hj
      rw [gs] at hne hj ⊢
      rw [gs]
      by_cases e : p = i
      · rw [if_pos e] at hne hj ⊢
        have hjm : j < m := Nat.lt_of_lt_of_le hj (by rw [← e, hp]; exact ar_le _ _ (hm_lt key))
        have z := hP j hjm
        have hne2 : p ≠ (hm key + j) % 7 := fun q => z.1 (q ▸ he)
        rw [if_neg hne2]
        exact z
      · rw [if_neg e] at hne hj ⊢
        have z := V.2 i hi hne j hj
        have hne2 : p ≠ (hm (ring.getD i Str.empty) + j) % 7 := fun q => z.1 (q ▸ he)
        rw [if_neg hne2]
        exact z
    cases n with
    | zero =>
      rw [Nat.add_zero, Nat.mod_eq_of_lt p7] at hn
      exact put hn
    | succ n =>
      rw [comesGo]
      by_cases he : ring.getD p Str.empty = Str.empty
      · rw [if_pos he]; exact put he
      rw [if_neg he]
      have hole : ∀ r : List Str, r.getD ((p + (n + 1)) % 7) Str.empty = Str.empty → r.getD (((p + 1) % 7 + n) % 7) Str.empty = Str.empty := by
        intro r hr
        rw [Nat.mod_add_mod, Nat.add_assoc, Nat.add_comm 1 n]
        exact hr
      by_cases hl : key.cps.toList < (ring.getD p Str.empty).cps.toList
      · rw [if_pos hl]
        have hle := kLe_of_lt hl
        have hnp : p ≠ (p + (n + 1)) % 7 := fun q => he (q ▸ hn)
        have V1 : Valid (ring.set p key) := by
          refine ⟨by rw [List.length_set]; exact h7, ?_⟩
          intro i hi hne j hj
          rw [gs] at hne hj ⊢
          rw [gs]
          by_cases e : p = i
          · rw [if_pos e] at hne hj ⊢
            have hjm : j < m := Nat.lt_of_lt_of_le hj (by rw [← e, hp]; exact ar_le _ _ (hm_lt key))
            have z := hP j hjm
            by_cases e2 : p = (hm key + j) % 7
            · rw [if_pos e2]; exact ⟨hk, kLe_refl _⟩
            · rw [if_neg e2]; exact z
          · rw [if_neg e] at hne hj ⊢
            have z := V.2 i hi hne j hj
            by_cases e2 : p = (hm (ring.getD i Str.empty) + j) % 7
            · rw [if_pos e2]
              rw [← e2] at z
              exact ⟨hk, kLe_trans hle z.2⟩
            · rw [if_neg e2]; exact z
        have hh := hm_lt (ring.getD p Str.empty)
        have P1 : Path (ring.set p key) (ring.getD p Str.empty) ((p + 7 - hm (ring.getD p Str.empty)) % 7 + 1) := by
          intro j hj
          rw [gs]
          by_cases e2 : p = (hm (ring.getD p Str.empty) + j) % 7
          · rw [if_pos e2]; exact ⟨hk, hle⟩
          · rw [if_neg e2]
            refine V.2 p p7 he j ((Nat.lt_or_eq_of_le (Nat.le_of_lt_succ hj)).resolve_right fun e => e2 ?_)
            rw [e]; exact (ar_to p p7 _ hh).symm
        obtain ⟨R1, R2⟩ := comes_valid n (ring.set p key) (ring.getD p Str.empty) ((p + 1) % 7) ((p + 7 - hm (ring.getD p Str.empty)) % 7 + 1) V1 he (ar_on p p7 _ hh) P1 (hole _ (by rw [gs, if_neg hnp]; exact hn))
        exact ⟨R1, R2.trans (keys_swap pl he hk)⟩
      · rw [if_neg hl]
        refine comes_valid n ring key ((p + 1) % 7) (m + 1) V hk (by rw [hp, Nat.mod_add_mod, Nat.add_assoc]) ?_ (hole _ hn)
        intro j hj
        by_cases e2 : j = m
        · rw [e2, ← hp]; exact ⟨he, hl⟩
        · exact hP j (Nat.lt_of_le_of_ne (Nat.le_of_lt_succ hj) e2)
/-- who goes: the layout but for one hole -/
def Holed (ring : List Str) (p : Nat) : Prop := ring.length = 7 ∧ p < 7 ∧ ring.getD p Str.empty = Str.empty ∧ ∀ i, i < 7 → ring.getD i Str.empty ≠ Str.empty → ∀ j, j < (i + 7 - hm (ring.getD i Str.empty)) % 7 →
  (hm (ring.getD i Str.empty) + j) % 7 = p ∨ (ring.getD ((hm (ring.getD i Str.empty) + j) % 7) Str.empty ≠ Str.empty ∧ kLe (ring.getD ((hm (ring.getD i Str.empty) + j) % 7) Str.empty) (ring.getD i Str.empty))
theorem goes_valid {ring r : List Str} {p h : Nat} (G : GoesR ring p h r) : ∀ d, Holed ring p → 1 ≤ d → d ≤ 7 → h = (p + d) % 7 → (∀ t, 1 ≤ t → t < d → ring.getD ((p + t) % 7) Str.empty ≠ Str.empty ∧ ¬ goCond (ring.getD ((p + t) % 7) Str.empty) p ((p + t) % 7)) →
    Valid r ∧ (keysOf r).Perm (keysOf ring) := by
  -- one that passes the hole lies behind the place looked at
  have far : ∀ {ring : List Str} {p d : Nat}, Holed ring p → 1 ≤ d → (∀ t, 1 ≤ t → t < d → ring.getD ((p + t) % 7) Str.empty ≠ Str.empty ∧ ¬ goCond (ring.getD ((p + t) % 7) Str.empty) p ((p + t) % 7)) →
      ∀ i j, i < 7 → ring.getD i Str.empty ≠ Str.empty → j < (i + 7 - hm (ring.getD i Str.empty)) % 7 → (hm (ring.getD i Str.empty) + j) % 7 = p →
        i = (p + d) % 7 ∨ (d < 7 ∧ j + d < (i + 7 - hm (ring.getD i Str.empty)) % 7 ∧ (hm (ring.getD i Str.empty) + (j + d)) % 7 = (p + d) % 7) := by
    intro ring p d H hd run i j hi hne hj hz
    have hh := hm_lt (ring.getD i Str.empty)
    obtain ⟨hit, hle⟩ := ar_far i hi _ hh j hj
    rw [hz] at hit hle
    have hD7 : (i + 7 - hm (ring.getD i Str.empty)) % 7 < 7 := Nat.mod_lt _ (by decide)
    have hpos := Nat.sub_pos_of_lt hj
    by_cases h1 : (i + 7 - hm (ring.getD i Str.empty)) % 7 - j < d
    · exfalso
      have z := run _ hpos h1
      rw [← hit] at z
      exact z.2 ((goCond_nat H.2.1 hi).mpr hle)
    · by_cases h2 : (i + 7 - hm (ring.getD i Str.empty)) % 7 - j = d
      · left; rw [← h2]; exact hit
      · right
        generalize (i + 7 - hm (ring.getD i Str.empty)) % 7 = Dd at *
        have h3 : d < Dd - j := Nat.lt_of_le_of_ne (Nat.le_of_not_lt h1) (Ne.symm h2)
        exact ⟨Nat.lt_trans (Nat.lt_of_lt_of_le h3 (Nat.sub_le _ _)) hD7, Nat.add_lt_of_lt_sub' h3, by rw [← hz, Nat.mod_add_mod, Nat.add_assoc]⟩
  induction G with
  | @stop ring p h he =>
    intro d H hd1 hd7 hh run
    refine ⟨⟨H.1, ?_⟩, List.Perm.refl _⟩
    intro i hi hne j hj
    rcases H.2.2.2 i hi hne j hj with z | z
    · exfalso
      rcases far H hd1 run i j hi hne hj z with e | ⟨e1, e2, e3⟩
      · rw [← hh] at e; exact hne (e ▸ he)
      · rcases H.2.2.2 i hi hne (j + d) e2 with y | y
        · exact ar_next p H.2.1 d e1 hd1 (e3.symm.trans y)
        · rw [e3, ← hh] at y; exact y.1 he
    · exact z
  | @move ring r p h hne0 hc G ih =>
    intro d H hd1 hd7 hh run
    obtain ⟨hlen, hp7, hpe, hW⟩ := id H
    have hh7 : h < 7 := hh ▸ Nat.mod_lt _ (by decide)
    have hph : p ≠ h := fun e => hne0 (e ▸ hpe)
    have hcn := (goCond_nat hp7 hh7).mp hc
    have hk := hm_lt (ring.getD h Str.empty)
    have pl : p < ring.length := hlen ▸ hp7
    have hl : h < (ring.set p (ring.getD h Str.empty)).length := by rw [List.length_set, hlen]; exact hh7
    have get2 : ∀ i, ((ring.set p (ring.getD h Str.empty)).set h Str.empty).getD i Str.empty = if h = i then Str.empty else if p = i then ring.getD h Str.empty else ring.getD i Str.empty := by
      intro i
      rw [get_set _ _ _ _ hl, get_set _ _ _ _ pl]
    have H2 : Holed ((ring.set p (ring.getD h Str.empty)).set h Str.empty) h := by
      refine ⟨by rw [List.length_set, List.length_set]; exact hlen, hh7, by rw [get2, if_pos rfl], ?_⟩
      intro i hi hne j hj
      rw [get2] at hne hj ⊢
      rw [get2]
      by_cases e1 : h = i
      · rw [if_pos e1] at hne; exact absurd rfl hne
      rw [if_neg e1] at hne hj ⊢
      by_cases e2 : p = i
      · rw [if_pos e2] at hne hj ⊢
        right
        rw [← e2] at hj
        have hj2 := Nat.lt_trans hj (ar_near p hp7 h hh7 _ hk hph hcn)
        have z1 := ar_off h hh7 _ hk j hj2
        have z2 := ar_off p hp7 _ hk j hj
        rw [if_neg z1, if_neg z2]
        rcases hW h hh7 hne0 j hj2 with y | y
        · exact absurd y.symm z2
        · exact y
      · rw [if_neg e2] at hne hj ⊢
        by_cases e3 : h = (hm (ring.getD i Str.empty) + j) % 7
        · left; exact e3.symm
        · right
          rw [if_neg e3]
          by_cases e4 : p = (hm (ring.getD i Str.empty) + j) % 7
          · rw [if_pos e4]
            refine ⟨hne0, ?_⟩
            rcases far H hd1 run i j hi hne hj e4.symm with y | ⟨y1, y2, y3⟩
            · exact absurd (hh.trans y.symm) e1
            · rcases hW i hi hne (j + d) y2 with y | y
              · exact absurd (y3.symm.trans y) (ar_next p hp7 d y1 hd1)
              · rw [y3, ← hh] at y; exact y.2
          · rw [if_neg e4]
            rcases hW i hi hne j hj with y | y
            · exact absurd y.symm e4
            · exact y
    obtain ⟨R1, R2⟩ := ih 1 H2 (Nat.le_refl _) (by decide) rfl (fun t h1 h2 => absurd h2 (Nat.not_lt.mpr h1))
    refine ⟨R1, R2.trans ?_⟩
    have q1 := keys_put (ring := ring) (p := p) pl hpe hne0
    have q2 := keys_take (ring := ring.set p (ring.getD h Str.empty)) (p := h) hl (by rw [getD_set_ne hph]; exact hne0)
    rw [getD_set_ne hph] at q2
    exact (q2.trans q1).cons_inv
  | @on ring r p h hne0 hc G ih =>
    intro d H hd1 hd7 hh run
    obtain ⟨hlen, hp7, hpe, hW⟩ := id H
    have hph : p ≠ h := fun e => hne0 (e ▸ hpe)
    have hd6 : d < 7 := Nat.lt_of_le_of_ne hd7 fun e => hph (by rw [hh, e, Nat.add_mod_right, Nat.mod_eq_of_lt hp7])
    refine ih (d + 1) H (Nat.le_add_left _ _) hd6 (by rw [hh, Nat.mod_add_mod, Nat.add_assoc]) (fun t h1 h2 => ?_)
    by_cases e : t = d
    · rw [e, ← hh]; exact ⟨hne0, hc⟩
    · exact run t h1 (Nat.lt_of_le_of_ne (Nat.le_of_lt_succ h2) e)
theorem goes_inv {ring r : List Str} {q : Nat} (V : Valid ring) (hq : q < 7) (hne : ring.getD q Str.empty ≠ Str.empty) (G : GoesR (ring.set q Str.empty) q ((q + 1) % 7) r) : Valid r ∧ (ring.getD q Str.empty :: keysOf r).Perm (keysOf ring) := by
  have h7 := V.1
  have H : Holed (ring.set q Str.empty) q := by
    refine ⟨by rw [List.length_set]; exact h7, hq, by rw [get_set _ _ _ _ (by omega), if_pos rfl], ?_⟩
    intro i hi hn j hj
    rw [get_set _ _ _ _ (by omega)] at hn hj ⊢
    rw [get_set _ _ _ _ (by omega)]
    by_cases e : q = i
    · rw [if_pos e] at hn; exact absurd rfl hn
    rw [if_neg e] at hn hj ⊢
    by_cases e2 : q = (hm (ring.getD i Str.empty) + j) % 7
    · left; exact e2.symm
    · right; rw [if_neg e2]; exact V.2 i hi hn j hj
  obtain ⟨R1, R2⟩ := goes_valid G 1 H (Nat.le_refl _) (by omega) rfl (fun t h1 h2 => by omega)
  exact ⟨R1, (R2.cons _).trans (keys_take (by omega) hne)⟩
theorem exists_max (f : Nat → Nat) (P : Nat → Prop) : ∀ n : Nat, (∃ i, i < n ∧ P i) → ∃ i, i < n ∧ P i ∧ ∀ j, j < n → P j → f j ≤ f i
  | 0, ⟨_, h, _⟩ => absurd h (Nat.not_lt_zero _)
  | n + 1, h => by
    by_cases hx : ∃ i, i < n ∧ P i
    · obtain ⟨i, h1, h2, h3⟩ := exists_max f P n hx
      by_cases hn : P n ∧ f i < f n
      · refine ⟨n, Nat.lt_succ_self _, hn.1, fun j hj hp => ?_⟩
        by_cases e : j = n
        · rw [e]; exact Nat.le_refl _
        · exact Nat.le_trans (h3 j (by omega) hp) (Nat.le_of_lt hn.2)
      · refine ⟨i, by omega, h2, fun j hj hp => ?_⟩
        by_cases e : j = n
        · rw [e]
          rw [e] at hp
          exact Nat.le_of_not_lt fun q => hn ⟨hp, q⟩
        · exact h3 j (by omega) hp
    · obtain ⟨i, h1, h2⟩ := h
      have e : i = n := by
        by_cases e : i = n
        · exact e
        · exact absurd ⟨i, by omega, h2⟩ hx
      subst e
      refine ⟨i, h1, h2, fun j hj hp => ?_⟩
      by_cases e : j = i
      · rw [e]; exact Nat.le_refl _
      · exact absurd ⟨j, by omega, hp⟩ hx
theorem placeGo_at {ring : List Str} : ∀ (D n p : Nat), D < n → p < 7 → (∀ j, j < D → ring.getD ((p + j) % 7) Str.empty ≠ Str.empty) → ring.getD ((p + D) % 7) Str.empty = Str.empty → placeGo n ring p = (p + D) % 7
  | 0, n, p, hn, hp, _, he => by
    rw [Nat.add_zero, Nat.mod_eq_of_lt hp] at he ⊢
    cases n with
    | zero => rfl
    | succ n => rw [placeGo, if_pos he]
  | D + 1, n, p, hn, hp, hf, he => by
    cases n with
    | zero => omega
    | succ n =>
      have h0 := hf 0 (by omega)
      rw [Nat.add_zero, Nat.mod_eq_of_lt hp] at h0
      rw [placeGo, if_neg h0]
      have r := placeGo_at D n ((p + 1) % 7) (by omega) (by omega) (fun j hj => by
        rw [show ((p + 1) % 7 + j) % 7 = (p + (j + 1)) % 7 by omega]
        exact hf (j + 1) (by omega)) (by rw [show ((p + 1) % 7 + D) % 7 = (p + (D + 1)) % 7 by omega]; exact he)
      rw [r]
      omega
theorem mem_keys {ring : List Str} {x : Str} : x ∈ keysOf ring ↔ ∃ i, i < ring.length ∧ ring.getD i Str.empty = x ∧ x ≠ Str.empty := by
  unfold keysOf
  rw [List.mem_filter]
  constructor
  · rintro ⟨h1, h2⟩
    obtain ⟨i, hi, e⟩ := List.getElem_of_mem h1
    exact ⟨i, hi, by simp [hi, e], by simpa using h2⟩
  · rintro ⟨i, hi, e, hne⟩
    refine ⟨?_, by simpa using hne⟩
    rw [← e]
    simp [hi]
theorem due_unique : ∀ (n : Nat) (ks ring : List Str), ks.length = n → Valid ring → (keysOf ring).Perm ks → ks.Pairwise kLe → ring = dueOf ks
  | 0, ks, ring, hn, V, hp, _ => by
    have e : ks = [] := List.length_eq_zero_iff.mp hn
    subst e
    have e2 : keysOf ring = [] := hp.eq_nil
    have h7 := V.1
    show ring = List.replicate 7 Str.empty
    rw [List.eq_replicate_iff]
    refine ⟨h7, fun b hb => ?_⟩
    by_cases h : b = Str.empty
    · exact h
    · have : b ∈ keysOf ring := List.mem_filter.mpr ⟨hb, by simpa using h⟩
      rw [e2] at this
      exact nomatch this
  | n + 1, ks, ring, hn, V, hp, hs => by
    have h7 := V.1
    obtain ⟨ks0, g, rfl⟩ : ∃ ks0 g, ks = ks0 ++ [g] := by
      rcases List.eq_nil_or_concat ks with e | ⟨l, b, e⟩
      · rw [e] at hn; exact absurd hn (by simp)
      · exact ⟨l, b, by rw [e, List.concat_eq_append]⟩
    have hs0 := (List.pairwise_append.mp hs)
    have great : ∀ x ∈ keysOf ring, kLe x g := by
      intro x hx
      rcases List.mem_append.mp (hp.mem_iff.mp hx) with h | h
      · exact hs0.2.2 x h g (.head _)
      · rw [List.mem_singleton.mp h]; exact kLe_refl _
    have hg : g ∈ keysOf ring := hp.mem_iff.mpr (List.mem_append_right _ (.head _))
    obtain ⟨i0, hi0, ei0, hgne⟩ := mem_keys.mp hg
    obtain ⟨i, hi, ei, hmax⟩ := exists_max (fun i => (i + 7 - hm g) % 7) (fun i => ring.getD i Str.empty = g) 7 ⟨i0, by omega, ei0⟩
    have hhg := hm_lt g
    have V0 : Valid (ring.set i Str.empty) := by
      refine ⟨by rw [List.length_set]; exact h7, ?_⟩
      intro i2 hi2 hne j hj
      rw [get_set _ _ _ _ (by omega)] at hne hj ⊢
      rw [get_set _ _ _ _ (by omega)]
      by_cases e : i = i2
      · rw [if_pos e] at hne; exact absurd rfl hne
      rw [if_neg e] at hne hj ⊢
      have z := V.2 i2 hi2 hne j hj
      by_cases e2 : i = (hm (ring.getD i2 Str.empty) + j) % 7
      · exfalso
        rw [← e2, ei] at z
        have hx : ring.getD i2 Str.empty = g := kLe_anti (great _ (mem_keys.mpr ⟨i2, by omega, rfl, hne⟩)) z.2
        have := hmax i2 hi2 hx
        rw [hx] at hj e2
        omega
      · rw [if_neg e2]; exact z
    have hk0 : (keysOf (ring.set i Str.empty)).Perm ks0 := by
      have q := keys_take (ring := ring) (p := i) (by omega) (by rw [ei]; exact hgne)
      rw [ei] at q
      exact ((q.trans hp).trans (List.perm_append_comm (l₁ := ks0) (l₂ := [g]))).cons_inv
    have ih := due_unique n ks0 (ring.set i Str.empty) (by simpa using hn) V0 hk0 hs0.1
    have step : dueOf (ks0 ++ [g]) = dueStep (dueOf ks0) g := by
      unfold dueOf
      rw [List.foldl_append]
      rfl
    rw [step, ← ih]
    unfold dueStep
    have hpl : placeGo 7 (ring.set i Str.empty) (homeF g).toNat = i := by
      have r := placeGo_at (ring := ring.set i Str.empty) ((i + 7 - hm g) % 7) 7 (hm g) (by omega) hhg (fun j hj => by
        rw [get_set _ _ _ _ (by omega), if_neg (by omega)]
        have z := V.2 i hi (by rw [ei]; exact hgne)
        rw [ei] at z
        exact (z j hj).1) (by rw [get_set _ _ _ _ (by omega), if_pos (by omega)])
      show placeGo 7 (ring.set i Str.empty) (hm g) = i
      rw [r]
      omega
    rw [hpl, List.set_set]
    have : ring.set i g = ring := by
      rw [← ei]
      simp [show i < ring.length by omega]
    exact this.symm
/-- what the law's loop keeps -/
def Inv (ring ks : List Str) : Prop := Valid ring ∧ (keysOf ring).Perm ks ∧ ∀ k ∈ ks, KeyOk k
theorem inv_start : Inv (List.replicate 7 Str.empty) [] := by
  refine ⟨⟨rfl, fun i hi hne => absurd ?_ hne⟩, ?_, fun k h => nomatch h⟩
  · have q : ∀ i, i < 7 → (List.replicate 7 Str.empty).getD i Str.empty = Str.empty := by decide
    exact q i hi
  · show ([] : List Str).Perm []
    exact .nil
theorem inv_len {ring ks : List Str} (h : Inv ring ks) : ring.length = 7 := h.1.1
theorem inv_ne {ring ks : List Str} (h : Inv ring ks) : ∀ k ∈ ks, k ≠ Str.empty := fun k hk => by
  have := h.2.1.mem_iff.mpr hk
  unfold keysOf at this
  simpa using (List.mem_filter.mp this).2
theorem inv_all {ring ks : List Str} (h : Inv ring ks) : ∀ x ∈ ring, x ≠ Str.empty → KeyOk x := fun x hx hne =>
  h.2.2 x (h.2.1.mem_iff.mp (List.mem_filter.mpr ⟨hx, by simpa using hne⟩))
theorem inv_le {ring ks : List Str} (h : Inv ring ks) : ks.length ≤ 7 := by
  have h1 := h.2.1.length_eq
  have h2 : (keysOf ring).length ≤ ring.length := List.length_filter_le ..
  have := inv_len h
  omega
theorem inv_due {ring ks ks' : List Str} (h : Inv ring ks) (hp : ks'.Perm ks) (hs : ks'.Pairwise kLe) : ring = dueOf ks' := due_unique _ ks' ring rfl h.1 (h.2.1.trans hp.symm) hs
theorem full_keys (ring : List Str) : fullN ring = (keysOf ring).length := by unfold fullN keysOf; rw [List.countP_eq_length_filter]
theorem inv_hole {ring ks : List Str} (h : Inv ring ks) (hl : ks.length < 7) {p : Nat} (hp : p < 7) : ∃ n, n < 7 ∧ ring.getD ((p + n) % 7) Str.empty = Str.empty :=
  hole_ahead (inv_len h) (by rw [full_keys, h.2.1.length_eq]; exact hl) hp
theorem inv_some {ring ks : List Str} (h : Inv ring ks) (hl : ks ≠ []) {p : Nat} (hp : p < 7) : ∃ n, n < 7 ∧ ring.getD ((p + n) % 7) Str.empty ≠ Str.empty := by
  obtain ⟨x, hx⟩ := List.exists_mem_of_ne_nil ks hl
  obtain ⟨i, hi, e, hne⟩ := mem_keys.mp (h.2.1.mem_iff.mpr hx)
  have := inv_len h
  refine ⟨(i + 7 - p) % 7, by omega, ?_⟩
  rw [show (p + (i + 7 - p) % 7) % 7 = i by omega, e]
  exact hne
theorem inv_comes {ring ks : List Str} {key : Str} {n : Nat} (h : Inv ring ks) (hk : KeyOk key) (hne : key ≠ Str.empty) (hn : ring.getD (((homeF key).toNat + n) % 7) Str.empty = Str.empty) : Inv (comesGo n ring key (homeF key).toNat) (ks ++ [key]) := by
  have hh := hm_lt key
  obtain ⟨R1, R2⟩ := comes_valid n ring key (homeF key).toNat 0 h.1 hne (by rw [Nat.add_zero, Nat.mod_eq_of_lt hh]; rfl) (fun j hj => absurd hj (Nat.not_lt_zero _)) hn
  refine ⟨R1, (R2.trans (h.2.1.cons key)).trans (List.perm_append_comm (l₁ := [key]) (l₂ := ks)), fun k hm => ?_⟩
  rcases List.mem_append.mp hm with hm | hm
  · exact h.2.2 k hm
  · rw [List.mem_singleton.mp hm]; exact hk
theorem firstGo_at : ∀ (n : Nat) (ring : List Str) (p : Nat), p < 7 → ring.getD ((p + n) % 7) Str.empty ≠ Str.empty → firstGo n ring p < 7 ∧ ring.getD (firstGo n ring p) Str.empty ≠ Str.empty
  | 0, ring, p, hp, h => by
    rw [Nat.add_zero, Nat.mod_eq_of_lt hp] at h
    exact ⟨hp, h⟩
  | n + 1, ring, p, hp, h => by
    rw [firstGo]
    by_cases e : ring.getD p Str.empty = Str.empty
    · rw [if_pos e]
      exact firstGo_at n ring ((p + 1) % 7) (by omega) (by rw [show ((p + 1) % 7 + n) % 7 = (p + (n + 1)) % 7 by omega]; exact h)
    · rw [if_neg e]; exact ⟨hp, e⟩
theorem find_first {x : Str} : ∀ {ks : List Str}, x ∈ ks → ∃ j, j < ks.length ∧ ks.getD j Str.empty = x ∧ ∀ i, i < j → ks.getD i Str.empty ≠ x
  | [], h => nomatch h
  | y :: r, h => by
    by_cases e : y = x
    · exact ⟨0, by simp, by simp [e], fun i hi => absurd hi (Nat.not_lt_zero _)⟩
    · obtain ⟨j, h1, h2, h3⟩ := find_first ((List.mem_cons.mp h).resolve_left (fun q => e q.symm))
      refine ⟨j + 1, by simpa using h1, by simpa using h2, fun i hi => ?_⟩
      cases i with
      | zero => simpa using e
      | succ i => simpa using h3 i (by omega)
theorem erase_perm {x : Str} : ∀ {ks : List Str} {j : Nat}, j < ks.length → ks.getD j Str.empty = x → ks.Perm (x :: ks.eraseIdx j)
  | [], _, h, _ => absurd h (Nat.not_lt_zero _)
  | y :: r, 0, _, e => by
    have : y = x := by simpa using e
    rw [this]
    exact List.Perm.refl _
  | y :: r, j + 1, h, e => by
    have ih := erase_perm (ks := r) (j := j) (x := x) (Nat.lt_of_succ_lt_succ h) (by simpa using e)
    exact (ih.cons y).trans (.swap _ _ _)
theorem inv_goes {ring ks r : List Str} {q j : Nat} (h : Inv ring ks) (hq : q < 7) (hne : ring.getD q Str.empty ≠ Str.empty) (G : GoesR (ring.set q Str.empty) q ((q + 1) % 7) r) (hj : j < ks.length) (e : ks.getD j Str.empty = ring.getD q Str.empty) : Inv r (ks.eraseIdx j) := by
  obtain ⟨R1, R2⟩ := goes_inv h.1 hq hne G
  refine ⟨R1, ((R2.trans h.2.1).trans (erase_perm hj e)).cons_inv, fun k hk => h.2.2 k (List.mem_of_mem_eraseIdx hk)⟩
def rowD (k : Str) : Dat := .list (codesD k)
theorem CtL.use {w : World} {mean : ExcName → Option Value} {mg mb : Str → Option Value} {need : Nat} {f ax : Addr} {its : Array Value} {args : List Value} {news : List (Addr × Obj)} {R : Value → List (Addr × Obj) → Prop}
  {dp un : Nat} {gd : Option (List Code)} {cn : Str} {cs : Scope} {a : Addr} {ccd : Value} {cl : List (Str × Addr)} {outer : List Env} {A₀ : Around} {base h₀ : Heap} {L : Addr} {m : Str → Option Value} {s : Shared} {Q E : Value → Shared → Prop} (C : CtL w mean mg mb need f ax its args news R) (B : Below A₀ base outer h₀) (F : Fr h₀ L s.heap m) (X : (hd.heap_39 w.params).In h₀) (N : News h₀ L s.heap news) (T : Top hd.view_39 (looseW hd.view_39 []) mean mg mb h₀) (hl : h₀.IsList ax its) (hk : cs.kind = .function)
    (hd : dp + need < recursionLimit) (hu : un + 8 * need + 100 < cLine) (ret : ∀ v nx h' tk', R v nx → Fr h₀ L h' m → News h₀ L h' nx → Q v { s with heap := h', toks := tk' }) :
    wpAny (model PySem.Challenge.rw_wr0009_01.row.prog w) (ktrTop dp un gd cn cs L a ccd cl outer) (call (.ref f) args) Q E s := C _ _ _ _ _ _ _ _ _ _ _ _ _ _ _ _ _ B F X N T hl hk hd hu ret
theorem dec_refl {p : Prop} {inst : Decidable p} (h : p) : @decide p inst = true := by
  cases inst with
  | isTrue _ => rfl
  | isFalse q => exact absurd h q
section
variable {prog : Program} {w : World} {A : Around} {E : Value → Shared → Prop} {s : Shared} {h₀ : Heap} {L D b : Addr} {m : Str → Option Value} {news n₁ : List (Addr × Obj)} {vs : List Value} {ks : List Str} {n n' : Nat}
theorem one_nn {Q : Value → Shared → Prop} {a b : Addr} {i : Nat} (N : News h₀ L s.heap news) (hD : DatAll n₁ vs (ks.map dueD)) (hv : vs[i]? = some (.ref a)) (hi : i < ks.length) (hs : ∀ p ∈ n₁, p ∈ news) (mb : (b, listOf ([] : List Value).toArray n') ∈ news) (hu : A.units + 64 < cLine)
    (h : Q (.bool (!decide (ks.getD i Str.empty = Str.empty))) s) : wpAny (model prog w) A (compareOp .NotEq (.ref a) (.ref b)) Q E s := cmp_nnil N hD hv hi hs mb rfl rfl hu h
theorem c0get {value slice : PySem.Expr} {Q : Value → Shared → Prop} {a : Addr} {x0 x1 : Value} {u : Tok} (N : News h₀ L s.heap news) (hm : (a, listOf [x0, x1].toArray n) ∈ n₁) (hsub : ∀ p ∈ n₁, p ∈ news) (h : Q x0 s)
    (hs : subscripted slice false (.ref a) (.int 0 u) = operate [.ref a, .int 0 u] (getItem (.ref a) (.int 0 u)) := by with_unfolding_all rfl) (hg : ∀ r, letTemporaryGo value (.ref a) r = pure () := by intro _; with_unfolding_all rfl) :
    wpAny (model prog w) A (subscriptTail value slice (.ref a) (.int 0 u)) Q E s := kim_list N (hsub _ hm) rfl rfl (by decide) (by decide) rfl h hs hg
theorem rows_ne {Q : Value → Shared → Prop} {D3 : Addr} {n₃ : List (Addr × Obj)} {ws : List Value} {ss : List Str} (N : News h₀ L s.heap news) (h1 : DatAll n₁ vs (ss.map rowD)) (h3 : DatAll n₃ ws (ss.map rowD)) (m1 : (D, listOf vs.toArray n) ∈ news) (m3 : (D3, listOf ws.toArray n') ∈ news) (s1 : ∀ p ∈ n₁, p ∈ news) (s3 : ∀ p ∈ n₃, p ∈ news)
    (hu : A.units + 64 < cLine) (h : Q (.bool false) s) : wpAny (model prog w) A (compareOp .NotEq (.ref D) (.ref D3)) Q E s := by
  have ok : ∀ d ∈ ss.map rowD, kqdOk 8 d = true := fun d hd => by
    obtain ⟨k, _, rfl⟩ := List.mem_map.mp hd
    simp only [rowD, kqdOk, List.all_eq_true]
    exact codes_ok 7 k
  refine kqd_ne N m1 rfl rfl h1 s1 m3 rfl rfl h3 s3 ok ok hu ?_
  have e3 : ∀ b : Bool, b = true → Q (.bool (!b)) s := by rintro _ rfl; exact h
  exact e3 _ (dec_refl rfl)
theorem there_ne {Q : Value → Shared → Prop} (N : News h₀ L s.heap news) (hD : DatAll n₁ vs (ks.map clD)) (hm : (D, listOf vs.toArray n) ∈ news) (hs : ∀ p ∈ n₁, p ∈ news) (mb : (b, listOf ([] : List Value).toArray n') ∈ news) (hu : A.units + 64 < cLine)
    (h : Q (.bool (!decide (ks = []))) s) : wpAny (model prog w) A (compareOp .NotEq (.ref D) (.ref b)) Q E s := by
  have ok : ∀ d ∈ ks.map clD, kqdOk 8 d = true := fun d hd => by
    obtain ⟨k, _, rfl⟩ := List.mem_map.mp hd
    exact cl_ok k
  refine kqd_ne (n₂ := []) (es := []) N hm rfl rfl hD hs mb rfl rfl .nil (fun _ h => nomatch h) ok (fun _ h => nomatch h) hu ?_
  have e3 : ∀ [inst : Decidable (ks.map clD = [])], @decide (ks.map clD = []) inst = decide (ks = []) := by intro inst; rw [Bool.eq_iff_iff]; simp
  rw [e3]; exact h
end
local macro_rules | `(tactic| walk_at "call ref") => `(tactic| (k_here; refine stop_at ?_))
local macro_rules | `(tactic| walk_at "call builtin:list.remove") => `(tactic| (k_here; refine stop_at ?_))
local macro_rules | `(tactic| walk_at "call builtin:list.append") => `(tactic| (k_here; refine stop_at ?_))
def lawJ (R Tb : Addr) (n : Nat) (m : Str → Option Value) (nx : List (Addr × Obj)) : Prop :=
  ∃ (vs : List Value) (ss : List Str) (ts : List Value) (ks : List Str) (c : Nat) (fr : List (Addr × Obj)), nx = (R, listOf vs.toArray 0) :: (Tb, listOf ts.toArray c) :: fr ∧ StrsAre vs ss ∧ DatAll fr ts (ks.map clD) ∧ Inv ss ks ∧ (∀ p ∈ fr, p.1 ≠ R ∧ p.1 ≠ Tb) ∧
    m (Str.ofString "ring") = some (.ref R) ∧ m (Str.ofString "there") = some (.ref Tb)
structure LawS (g : Heap) (L R Tb : Addr) (z : Int) (own : List (Addr × Obj)) (vs : List Value) (ss : List Str) (ts : List Value) (ks : List Str) (c : Nat) (fr : List (Addr × Obj)) (m : Str → Option Value) (zt : Tok) (h : Heap) : Prop where
  F : Fr g L h m
  N : News g L h ((R, listOf vs.toArray 0) :: (Tb, listOf ts.toArray c) :: (fr ++ own))
  S : StrsAre vs ss
  D : DatAll fr ts (ks.map clD)
  I : Inv ss ks
  fo : ∀ p ∈ fr, p.1 ≠ R ∧ p.1 ≠ Tb
  oo : ∀ p ∈ own, p.1 ≠ R ∧ p.1 ≠ Tb ∧ ∀ q ∈ fr, p.1 ≠ q.1
  mr : m (Str.ofString "ring") = some (.ref R)
  mt : m (Str.ofString "there") = some (.ref Tb)
  md : m (Str.ofString "deed") = some (.int z zt)
def LawP (g : Heap) (L R Tb : Addr) (z : Int) (own : List (Addr × Obj)) (s : Shared) (f : Flow) (s' : Shared) : Prop :=
  f = .next ∧ ∃ vs ss ts ks c fr m zt h tk, s' = { s with heap := h, toks := tk } ∧ LawS g L R Tb z own vs ss ts ks c fr m zt h
theorem cutP {vs : List Value} {ss : List Str} {ts : List Value} {ks : List Str} {cc : Nat} {fr : List (Addr × Obj)} {m : Str → Option Value} {zt : Tok} {prog : Program} {w : World} {A : Around} {c : Sem Flow} {Q : Flow → Shared → Prop} {E : Value → Shared → Prop} {s : Shared} {g : Heap} {L R Tb : Addr} {z : Int} {own : List (Addr × Obj)} (S0 : LawS g L R Tb z own vs ss ts ks cc fr m zt s.heap) (h1 : wpAny (model prog w) A c (LawP g L R Tb z own s) E s)
    (h2 : ∀ vs ss ts ks cc fr m zt h tk, LawS g L R Tb z own vs ss ts ks cc fr m zt h → Q .next { s with heap := h, toks := tk }) : wpAny (model prog w) A c Q E s :=
  wpAny_mono h1 (fun f s' ⟨e, vs, ss, ts, ks, cc, fr, m, zt, h, tk, e2, S⟩ => by rw [e, e2]; exact h2 vs ss ts ks cc fr m zt h tk S) (fun _ _ h => h)
theorem law_own {R Tb : Addr} {o1 o2 : Obj} {fr own : List (Addr × Obj)} (hoff : OwnOff own (((R, o1) :: (Tb, o2) :: fr).map (·.1))) : ∀ p ∈ own, p.1 ≠ R ∧ p.1 ≠ Tb ∧ ∀ q ∈ fr, p.1 ≠ q.1 :=
  fun p hp => ⟨fun e => hoff p hp R (by simp) e, fun e => hoff p hp Tb (by simp) e, fun q hq e => hoff p hp q.1 (List.mem_map.mpr ⟨q, .tail _ (.tail _ hq), rfl⟩) e⟩
theorem lawR {R Tb x : Addr} {o : Obj} {fr own : List (Addr × Obj)} (h : R < Tb ∧ x < Tb) (hfr : ∀ p ∈ fr, p.1 ≠ R ∧ p.1 ≠ Tb) (hoo : ∀ p ∈ own, p.1 ≠ R ∧ p.1 ≠ Tb ∧ ∀ q ∈ fr, p.1 ≠ q.1) : ∀ p ∈ (Tb, o) :: (fr ++ own), p.1 ≠ R := by
  intro p hp
  rcases List.mem_cons.mp hp with rfl | hp
  · exact Nat.ne_of_gt h.1
  · rcases List.mem_append.mp hp with hp | hp
    · exact (hfr p hp).1
    · exact (hoo p hp).1
theorem news_mv {h₀ h : Heap} {L : Addr} {tl r : List (Addr × Obj)} {p q : Addr × Obj} (N : News h₀ L h (tl ++ p :: q :: r)) : News h₀ L h (q :: p :: (tl ++ r)) := fun x hx => by
  refine N x ?_
  simp only [List.mem_cons, List.mem_append] at hx ⊢
  rcases hx with h | h | h | h <;> simp [h]
theorem news_mv_sub {tl r : List (Addr × Obj)} {p q : Addr × Obj} : ∀ x ∈ tl ++ p :: q :: r, x ∈ q :: p :: (tl ++ r) := fun x hx => by
  simp only [List.mem_cons, List.mem_append] at hx ⊢
  rcases hx with h | h | h | h <;> simp [h]
theorem news_mv2 {h₀ h : Heap} {L : Addr} {tl r : List (Addr × Obj)} {p q : Addr × Obj} (N : News h₀ L h (q :: p :: (tl ++ r))) : News h₀ L h (p :: q :: r) := fun x hx => by
  refine N x ?_
  simp only [List.mem_cons, List.mem_append] at hx ⊢
  rcases hx with h | h | h <;> simp [h]
theorem lawT {R Tb x : Addr} {o1 o2 o3 : Obj} {tl fr own : List (Addr × Obj)} (h : R < Tb ∧ x < Tb) (htl : ∀ p ∈ tl, ∀ q ∈ (R, o1) :: (Tb, o2) :: (fr ++ own), q.1 ≠ p.1) (hfr : ∀ p ∈ fr, p.1 ≠ R ∧ p.1 ≠ Tb) (hoo : ∀ p ∈ own, p.1 ≠ R ∧ p.1 ≠ Tb ∧ ∀ q ∈ fr, p.1 ≠ q.1) : ∀ p ∈ (R, o3) :: (tl ++ (fr ++ own)), p.1 ≠ Tb := by
  intro p hp
  rcases List.mem_cons.mp hp with rfl | hp
  · exact Nat.ne_of_lt h.1
  · rcases List.mem_append.mp hp with hp | hp
    · exact fun e => htl p hp (Tb, o2) (.tail _ (.head _)) e.symm
    · rcases List.mem_append.mp hp with hp | hp
      · exact (hfr p hp).2
      · exact (hoo p hp).2.1
theorem news_cm {h₀ h : Heap} {L : Addr} {r : List (Addr × Obj)} {a b p q x y : Addr × Obj} (N : News h₀ L h (a :: b :: p :: q :: x :: y :: r)) : News h₀ L h (x :: y :: p :: q :: r) := fun z hz => by
  refine N z ?_
  simp only [List.mem_cons] at hz ⊢
  rcases hz with h | h | h | h | h <;> simp [h]
theorem news_ap {h₀ h : Heap} {L Tb : Addr} {r : List (Addr × Obj)} {x : Addr × Obj} {ts : List Value} {v : Value} {c : Nat} (N : News h₀ L h (x :: (Tb, listOf (ts.toArray.push v) c) :: r)) : News h₀ L h (x :: (Tb, listOf (ts ++ [v]).toArray c) :: r) := by
  rw [List.push_toArray] at N
  exact N
section
variable {R Tb a3 C3 R3 x : Addr} {o1 o2 o3 o4 o5 : Obj} {fr own : List (Addr × Obj)}
theorem lawR2 (h : R < Tb ∧ x < Tb) (hfr : ∀ p ∈ fr, p.1 ≠ R ∧ p.1 ≠ Tb) (hoo : ∀ p ∈ own, p.1 ≠ R ∧ p.1 ≠ Tb ∧ ∀ q ∈ fr, p.1 ≠ q.1) (hfresh : ∀ p ∈ (R, o1) :: (Tb, o2) :: (fr ++ own), p.1 ≠ a3 ∧ p.1 ≠ C3 ∧ p.1 ≠ R3) : ∀ p ∈ (Tb, o3) :: (C3, o4) :: (R3, o5) :: (fr ++ own), p.1 ≠ R := by
  intro p hp
  have z := hfresh (R, o1) (.head _)
  rcases List.mem_cons.mp hp with rfl | hp
  · exact Nat.ne_of_gt h.1
  · rcases List.mem_cons.mp hp with rfl | hp
    · exact fun e => z.2.1 e.symm
    · rcases List.mem_cons.mp hp with rfl | hp
      · exact fun e => z.2.2 e.symm
      · rcases List.mem_append.mp hp with hp | hp
        · exact (hfr p hp).1
        · exact (hoo p hp).1
theorem lawT2 (hfr : ∀ p ∈ fr, p.1 ≠ R ∧ p.1 ≠ Tb) (hoo : ∀ p ∈ own, p.1 ≠ R ∧ p.1 ≠ Tb ∧ ∀ q ∈ fr, p.1 ≠ q.1) (hfresh : ∀ p ∈ (R, o1) :: (Tb, o2) :: (fr ++ own), p.1 ≠ a3 ∧ p.1 ≠ C3 ∧ p.1 ≠ R3) : ∀ p ∈ (C3, o4) :: (R3, o5) :: (fr ++ own), p.1 ≠ Tb := by
  intro p hp
  have z := hfresh (Tb, o2) (.tail _ (.head _))
  rcases List.mem_cons.mp hp with rfl | hp
  · exact fun e => z.2.1 e.symm
  · rcases List.mem_cons.mp hp with rfl | hp
    · exact fun e => z.2.2 e.symm
    · rcases List.mem_append.mp hp with hp | hp
      · exact (hfr p hp).2
      · exact (hoo p hp).2.1
theorem lawF (hfr : ∀ p ∈ fr, p.1 ≠ R ∧ p.1 ≠ Tb) (hfresh : ∀ p ∈ (R, o1) :: (Tb, o2) :: (fr ++ own), p.1 ≠ a3 ∧ p.1 ≠ C3 ∧ p.1 ≠ R3) : ∀ p ∈ (C3, o4) :: (R3, o5) :: fr, p.1 ≠ R ∧ p.1 ≠ Tb := by
  intro p hp
  have z := hfresh (R, o1) (.head _)
  have z2 := hfresh (Tb, o2) (.tail _ (.head _))
  rcases List.mem_cons.mp hp with rfl | hp
  · exact ⟨fun e => z.2.1 e.symm, fun e => z2.2.1 e.symm⟩
  · rcases List.mem_cons.mp hp with rfl | hp
    · exact ⟨fun e => z.2.2 e.symm, fun e => z2.2.2 e.symm⟩
    · exact hfr p hp
theorem lawO (hoo : ∀ p ∈ own, p.1 ≠ R ∧ p.1 ≠ Tb ∧ ∀ q ∈ fr, p.1 ≠ q.1) (hfresh : ∀ p ∈ (R, o1) :: (Tb, o2) :: (fr ++ own), p.1 ≠ a3 ∧ p.1 ≠ C3 ∧ p.1 ≠ R3) : ∀ p ∈ own, p.1 ≠ R ∧ p.1 ≠ Tb ∧ ∀ q ∈ (C3, o4) :: (R3, o5) :: fr, p.1 ≠ q.1 := by
  intro p hp
  have z := hfresh p (.tail _ (.tail _ (List.mem_append_right _ hp)))
  refine ⟨(hoo p hp).1, (hoo p hp).2.1, fun q hq => ?_⟩
  rcases List.mem_cons.mp hq with rfl | hq
  · exact z.2.1
  · rcases List.mem_cons.mp hq with rfl | hq
    · exact z.2.2
    · exact (hoo p hp).2.2 q hq
theorem cl_more {ts ys : List Value} {ks : List Str} {k : Str} {t : Tok} (hD : DatAll fr ts (ks.map clD)) (hall : DatAll [] ys (codesD k)) :
    DatAll ((C3, listOf [Value.ref R3, .int (homeF k) t].toArray 0) :: (R3, LCg.lst ys) :: fr) (ts ++ [.ref C3]) ((ks ++ [k]).map clD) := by
  rw [List.map_append]
  refine DatAll.append (hD.mono fun _ h => .tail _ (.tail _ h)) (.one ?_)
  exact .list (.head _) (.cons (.list (n := ys.length) (.tail _ (.head _)) (hall.mono fun _ h => absurd h List.not_mem_nil)) (.cons (.int _ _) .nil))
end
def textsJ (base : List (Addr × Obj)) (ss : List Str) (i : Nat) (ys : List Value) (nx : List (Addr × Obj)) : Prop := ∃ tl, nx = tl ++ base ∧ DatAll tl ys ((ss.take i).map rowD)
theorem text_len {ring ks : List Str} (h : Inv ring ks) (i : Nat) : (ring.getD i Str.empty).cps.size ≤ sizeLine := by
  rw [sizeLine_eq]
  by_cases e : ring.getD i Str.empty = Str.empty
  · rw [e]; decide
  · have hl : i < ring.length := by
      by_cases q : i < ring.length
      · exact q
      · exact absurd (by simp [q]) e
    have z := inv_all h (ring.getD i Str.empty) (by simp [hl]) e
    have := z.1
    show Str.length _ ≤ _
    omega
theorem text_more {tl : List (Addr × Obj)} {ys ys2 : List Value} {ss : List Str} {i : Nat} {D2 : Addr} (hall : DatAll tl ys ((ss.take i).map rowD)) (hall2 : DatAll [] ys2 (codesD (ss.getD i Str.empty))) (h7 : ss.length = 7) (hi : i < 7) :
    DatAll ((D2, LCg.lst ys2) :: tl) (ys ++ [.ref D2]) ((ss.take (i + 1)).map rowD) := by
  have e : ss.take (i + 1) = ss.take i ++ [ss.getD i Str.empty] := by
    rw [List.take_add_one]
    simp [show i < ss.length by omega]
  rw [e, List.map_append]
  refine DatAll.append (hall.mono fun _ h => .tail _ h) (.one ?_)
  exact .list (n := ys2.length) (.head _) (hall2.mono fun _ h => absurd h List.not_mem_nil)
theorem rows_more {nx : List (Addr × Obj)} {ys : List Value} {ss : List Str} {i : Nat} {a : Addr} (hall : DatAll nx ys ((ss.take i).map rowD)) (hd : DatIn nx (.ref a) (rowD (ss.getD i Str.empty))) (h7 : ss.length = 7) (hi : i < 7) :
    DatAll nx (ys ++ [.ref a]) ((ss.take (i + 1)).map rowD) := by
  have e : ss.take (i + 1) = ss.take i ++ [ss.getD i Str.empty] := by
    rw [List.take_add_one]
    simp [show i < ss.length by omega]
  rw [e, List.map_append]
  exact DatAll.append hall (.one hd)
theorem rows_all {nx : List (Addr × Obj)} {ys : List Value} {ss : List Str} {n : Nat} (hall : DatAll nx ys ((ss.take n).map rowD)) (h7 : ss.length = 7) (hn : n = 7) : DatAll nx ys (ss.map rowD) := by
  rw [List.take_of_length_le (by omega)] at hall
  exact hall
def duesJ (base : List (Addr × Obj)) (ss : List Str) (i : Nat) (ys : List Value) (nx : List (Addr × Obj)) : Prop := ∃ tl, nx = tl ++ base ∧ DatAll nx ys ((ss.take i).map rowD)
theorem row_nil {nx : List (Addr × Obj)} {a : Addr} {k : Str} {n : Nat} (h : k = Str.empty) (hm : (a, listOf ([] : List Value).toArray n) ∈ nx) : DatIn nx (.ref a) (rowD k) := by
  subst h
  exact .list (vs := []) hm .nil
theorem mem5 {α : Type} {a b c d e : α} {r : List α} : ∀ p ∈ a :: b :: c :: d :: r, p ∈ d :: e :: a :: b :: c :: r := by
  intro p hp
  simp only [List.mem_cons] at hp ⊢
  rcases hp with h | h | h | h | h <;> simp [h]
theorem mem_front {α : Type} {a b : α} {r r2 : List α} : ∀ p ∈ a :: b :: r, p ∈ a :: b :: (r ++ r2) := by
  intro p hp
  simp only [List.mem_cons, List.mem_append] at hp ⊢
  rcases hp with h | h | h <;> simp [h]
theorem own_off {R Tb : Addr} {o1 o2 : Obj} {fr own : List (Addr × Obj)} (hoo : ∀ p ∈ own, p.1 ≠ R ∧ p.1 ≠ Tb ∧ ∀ q ∈ fr, p.1 ≠ q.1) : OwnOff own (((R, o1) :: (Tb, o2) :: fr).map (·.1)) := by
  intro p hp b hb
  obtain ⟨q, hq, rfl⟩ := List.mem_map.mp hb
  rcases List.mem_cons.mp hq with rfl | hq
  · exact (hoo p hp).1
  · rcases List.mem_cons.mp hq with rfl | hq
    · exact (hoo p hp).2.1
    · exact (hoo p hp).2.2 q hq
theorem erase_map {f : Str → Dat} : ∀ (ks : List Str) (j : Nat), (ks.map f).eraseIdx j = (ks.eraseIdx j).map f
  | [], _ => rfl
  | _ :: _, 0 => rfl
  | y :: r, j + 1 => by
    show f y :: (r.map f).eraseIdx j = f y :: (r.eraseIdx j).map f
    rw [erase_map r j]
theorem law_holds : PySem.Challenge.rw_wr0009_01.Holds := hd (by
  k_go0
  all_goals try k_fold
  (repeat' (first | ((with_reducible show wpAny _ _ (call (Value.ref 84) _) _ _ _); k_dflt (refine' CtL.use (deeds_K ?hI ?h63) ?k1 ?k2 ?k3 ?k4 ?k5 ?kL ?kK ?kd ?ku ?_; (case k1 => k_asm); (case k2 => k_asm); (case k3 => k_asm); (case k4 => k_asm); (case k5 => k_asm); (case kL => assumption); (case kK => first | exact rfl | assumption); (case hI => assumption); (case h63 => omega); (case kd => ktr_room); (case ku => ktr_units)); intro v' nx' h' tk' hR' F' N'; obtain ⟨D', ys', zs', e', e2', hz', hl', hP', o'⟩ := hR'; subst e'; subst e2'; (try dsimp only); (try k_fold)) | (k_unfold; (try dsimp only)) | (k_end; wrow_close) | walk1 | (dsimp only; walk1) | (leave1; walk_say "STEP leave1"; try dsimp only) | fail "no step"))
  unfold Stop
  rename Fr _ _ _ _ => kF
  rename News _ _ _ _ => kN
  rename ∀ (z : Int), z ∈ _ → 0 ≤ z ∧ z < 115200 => hP
  rename IntsAre _ _ => hz
  rename ∀ (p : Addr × Obj), p ∈ _ → p.fst ≠ _ => hoD
  rename _ < _ ∧ _ < _ => hlt
  k_dflt (refine' iter_any (news := (?D, _) :: (?Tb, ?oT) :: (?R, ?oR) :: _) (nx₀ := (?R, ?oR) :: (?Tb, ?oT) :: []) (lawJ ?R ?Tb) ?h1 (.head _) kF kN ?hs ?hl ?hj ?turn ?done)
  case h1 => exact rfl
  case hs => exact fun p hp => .tail _ (by rcases List.mem_cons.mp hp with h | h; (· rw [h]; exact .tail _ (.head _)); (· rw [List.mem_singleton.mp h]; exact .head _))
  case hl => exact fun p hp => hoD p (by rcases List.mem_cons.mp hp with h | h; (· rw [h]; exact .tail _ (.head _)); (· rw [List.mem_singleton.mp h]; exact .head _))
  case hj => exact ⟨_, List.replicate 7 Str.empty, [], [], _, [], rfl, .cons _ _ (.cons _ _ (.cons _ _ (.cons _ _ (.cons _ _ (.cons _ _ (.cons _ _ .nil)))))), .nil, inv_start, fun _ h => (nomatch h), rfl, rfl⟩
  case turn =>
    clear kF kN
    rintro i v m₁ nx h tk own hv hoff ⟨vs, ss, ts, ks, c, fr, rfl, hS, hD, hI, hfr, mr, mt⟩ F₁ N₁
    obtain ⟨z, zt, rfl, hzi⟩ := IntsAre.at hz i v (by simpa using hv)
    obtain ⟨z0, z1⟩ := hP z (List.mem_of_getElem? hzi)
    dsimp only [envOf] at F₁ N₁
    rw [m2 mr mt] at F₁
    rw [List.cons_append, List.cons_append] at N₁
    have hoo := law_own hoff
    (try k_unmd)
    (try k_fold)
    k_steps
    unfold Stop
    rename Fr _ _ _ _ => kF1
    rename News _ _ _ _ => kN1
    have S0 := (⟨kF1, kN1, hS, hD, hI, hfr, hoo, rfl, rfl, rfl⟩ : LawS _ _ _ _ z own vs ss ts ks c fr _ _ _)
    refine cutP S0 ?stm1 ?kont1
    case stm1 =>
      refine wpAny_If ?_
      (repeat' (first | ((with_reducible show wpAny _ _ (compareOp CmpOp.NotEq (Value.ref _) (Value.ref _)) _ _ _); k_dflt (refine' there_ne ?k1 ?k2 ?k3 ?k4 ?k5 ?k6 ?_; (case k1 => k_asm); (case k2 => with_reducible assumption); (case k3 => k_mem); (case k4 => exact fun _ h => .tail _ (.tail _ (.tail _ (List.mem_append_left _ h)))); (case k5 => k_mem); (case k6 => ktr_units); k_whole)) | (k_unfold; (try dsimp only)) | (k_end; wrow_close) | walk1 | (dsimp only; walk1) | (leave1; walk_say "STEP leave1"; try dsimp only) | fail "no step"))
      · rename Fr _ _ _ _ => kF2
        rename News _ _ _ _ => kN2
        exact ⟨rfl, vs, ss, ts, ks, c, fr, _, _, _, _, rfl, ⟨kF2, news_drop kN2 (fun _ h => .tail _ h), hS, hD, hI, hfr, hoo, rfl, rfl, rfl⟩⟩
      · rename ¬ (ks = []) => hks
        unfold Stop
        have hp := fm_range (z.fdiv 4) (n := 7) (by decide)
        obtain ⟨n, hn, hne⟩ := inv_some hI hks (p := ((z.fdiv 4).fmod 7).toNat) (by omega)
        obtain ⟨q7, qne⟩ := firstGo_at n ss ((z.fdiv 4).fmod 7).toNat (by omega) hne
        k_dflt (refine' Ct.use (goes_K (vs := vs) (ss := ss) (c := 0) (rest := _ :: (fr ++ own)) _ _ n hS (inv_len hI) ?hR hp.1 hp.2 hn hne (inv_all hI)) ?k1 ?k2 ?k3 ?k4 ?k5 ?kK ?kd ?ku ?_; (case k1 => k_asm); (case k2 => k_asm); (case k3 => k_asm); (case k4 => exact news_drop (by k_asm) (fun _ h => .tail _ h)); (case k5 => k_asm); (case kK => exact rfl); (case kd => ktr_room); (case ku => ktr_units))
        case hR => exact lawR hlt hfr hoo
        intro v' nx' h' tk' hR' F' N'
        obtain ⟨rfl, vs2, ss2, rfl, hS2, hG⟩ := hR'
        (try k_unmd)
        (try dsimp only)
        (try k_fold)
        k_steps
        unfold Stop
        k_dflt (refine' Ct.use (due_K (vs := ts) (ks := ks) (c := c) (.tail _ (.head _)) (hD.mono ?sub) (inv_le hI) (inv_ne hI)) ?k1 ?k2 ?k3 ?k4 ?k5 ?kK ?kd ?ku ?_; (case k1 => k_asm); (case k2 => k_asm); (case k3 => k_asm); (case k4 => k_asm); (case k5 => k_asm); (case kK => exact rfl); (case kd => ktr_room); (case ku => ktr_units))
        case sub => exact fun _ h => .tail _ (.tail _ (List.mem_append_left _ h))
        intro v' nx' h' tk' hR' F' N'
        obtain ⟨D2, tl, us, ks', c2, rfl, rfl, htl, hm2, hdu, pm, pw⟩ := hR'
        rw [← inv_due hI pm pw] at hdu
        (try k_unmd)
        (try dsimp only)
        (try k_fold)
        k_steps
        unfold Stop
        k_dflt (refine' Ct.use (first_K (vs := us) (ks := ss) (c := c2) _ _ n (List.mem_append_left _ hm2) hdu (inv_len hI) hp.1 hp.2 hn hne) ?k1 ?k2 ?k3 ?k4 ?k5 ?kK ?kd ?ku ?_; (case k1 => k_asm); (case k2 => k_asm); (case k3 => k_asm); (case k4 => k_asm); (case k5 => k_asm); (case kK => exact rfl); (case kd => ktr_room); (case ku => ktr_units))
        intro v' nx' h' tk' hR' F' N'
        obtain ⟨rfl, hvq, a2, rfl⟩ := hR'
        (try k_unmd)
        (try dsimp only)
        (try k_fold)
        k_steps
        unfold Stop
        obtain ⟨v3, hv3, hd3⟩ := all_map_get hdu (i := firstGo n ss ((z.fdiv 4).fmod 7).toNat) (by rw [inv_len hI]; exact q7)
        rw [hvq] at hv3
        cases hv3
        rw [dueD, if_neg qne] at hd3
        obtain ⟨j, hj, hjk, hjn⟩ := find_first (hI.2.1.mem_iff.mp (mem_keys.mpr ⟨_, by rw [inv_len hI]; exact q7, rfl, qne⟩))
        rename Fr _ _ _ _ => kF3
        rename News _ _ _ _ => kN3
        have kN4 := news_mv kN3
        k_dflt (refine' rem_cl (j := j) kF3 kN4 (.head ?hne) ?sub (hD.mono ?sub2) hd3 hj hjk hjn (inv_le hI) ?ku ?_)
        case ku => ktr_units
        case sub => exact news_mv_sub
        case sub2 => exact fun _ h => List.mem_append_right _ (.tail _ (.tail _ (List.mem_append_left _ h)))
        case hne => exact lawT hlt htl hfr hoo
        intro h' F' N'
        (try k_unmd)
        (try dsimp only)
        (try k_fold)
        k_steps
        rename Fr _ _ _ _ => kF5
        rename News _ _ _ _ => kN5
        exact ⟨rfl, vs2, ss2, _, ks.eraseIdx j, c + 1, fr, _, _, _, _, rfl, ⟨kF5, news_mv2 kN5, hS2, erase_map ks j ▸ datAll_erase hD j, inv_goes hI q7 qne hG hj hjk, hfr, hoo, rfl, rfl, rfl⟩⟩
      · rename Fr _ _ _ _ => kF2
        rename News _ _ _ _ => kN2
        exact ⟨rfl, vs, ss, ts, ks, c, fr, _, _, _, _, rfl, ⟨kF2, kN2, hS, hD, hI, hfr, hoo, rfl, rfl, rfl⟩⟩
    case kont1 =>
      clear S0 hS hD hI hfr hoo kF1 kN1
      intro vs1 ss1 ts1 ks1 c1 fr1 m4 zt1 h1 tk1 S1
      have kF1 := S1.F
      have kN1 := S1.N
      have hS := S1.S
      have hD := S1.D
      have hI := S1.I
      have hfr := S1.fo
      have hoo := S1.oo
      rw [m3 S1.mr S1.mt S1.md] at kF1
      (try k_unmd)
      (try dsimp only)
      (try k_fold)
      k_steps
      unfold Stop
      have S2 := (⟨kF1, kN1, hS, hD, hI, hfr, hoo, rfl, rfl, rfl⟩ : LawS _ _ _ _ z own vs1 ss1 ts1 ks1 c1 fr1 _ _ _)
      refine cutP S2 ?stm2 ?kont2
      case stm2 =>
        have hle := inv_le hI
        have hlen : (ts1.toArray.size : Int) = (ks1.length : Int) := by rw [List.size_toArray, hD.length, List.length_map]
        have d0 : 0 ≤ z.fdiv 4 := by rw [Int.fdiv_eq_ediv_of_nonneg _ (by decide)]; omega
        have d1 : z.fdiv 4 < 28800 := by rw [Int.fdiv_eq_ediv_of_nonneg _ (by decide)]; omega
        refine wpAny_If ?_
        (repeat' (first | ((with_reducible show wpAny _ _ (call (Value.builtin "len") _ _) _ _ _); (with_reducible show wpAny _ _ (call (Value.builtin "len") [Value.ref _]) _ _ _); k_dflt (refine' kun_lenL ?k1 ?k2 ?k3 ?_; (case k1 => exact News.isList (by k_asm) (by k_mem)); (case k2 => with_reducible assumption); (case k3 => omega); k_whole)) | (k_unfold; (try dsimp only)) | (k_end; wrow_close) | walk1 | (dsimp only; walk1) | (leave1; walk_say "STEP leave1"; try dsimp only) | fail "no step"))
        · unfold Stop
          k_dflt (refine' Ct.use (client_D _ _ d0 d1) ?k1 ?k2 ?k3 ?k4 ?k5 ?kK ?kd ?ku ?_; (case k1 => k_asm); (case k2 => k_asm); (case k3 => k_asm); (case k4 => k_asm); (case k5 => k_asm); (case kK => exact rfl); (case kd => ktr_room); (case ku => ktr_units))
          intro v' nx' h' tk' hR' F' N'
          obtain ⟨a3, C3, R3, ys3, t1, t2, t3, rfl, rfl, hall, hfresh⟩ := hR'
          (try k_unmd)
          (try dsimp only)
          (try k_fold)
          k_steps
          unfold Stop
          k_dflt (refine' Ct0.use (told_D _ _ d0 d1) ?k1 ?k2 ?k3 ?k4 ?k5 ?k6 ?k7 ?kK ?kd ?ku ?_; (case k1 => k_asm); (case k2 => k_asm); (case k3 => k_asm); (case k4 => k_asm); (case k5 => k_asm); (case k6 => k_asm); (case k7 => k_asm); (case kK => exact rfl); (case kd => ktr_room); (case ku => ktr_units))
          intro v' nx' h' tk' hR' F' N'
          obtain ⟨a4, t4, t5, y, rfl, rfl, hy⟩ := hR'
          (try k_unmd)
          (try dsimp only)
          (try k_fold)
          k_steps
          unfold Stop
          refine wpAny_If ?_
          k_steps
          · rename refD _ ≠ refD _ => hx
            exact absurd rfl hx
          · unfold Stop
            refine wpAny_If ?_
            k_steps
            · obtain rfl := hy (by assumption)
              obtain ⟨hko, hkne⟩ := keyD_ok d0 d1
              have hh := home_range (keyD (z.fdiv 4))
              obtain ⟨n, hn, he⟩ := inv_hole hI (by omega) (p := (homeF (keyD (z.fdiv 4))).toNat) (by omega)
              unfold Stop
              k_dflt (refine' Ct.use (comes_K (vs := vs1) (ss := ss1) (c := 0) (rest := _ :: (C3, _) :: (R3, _) :: (fr1 ++ own)) _ _ n hko hS (inv_len hI) ?hR hn he) ?k1 ?k2 ?k3 ?k4 ?k5 ?kK ?kd ?ku ?_; (case k1 => k_asm); (case k2 => k_asm); (case k3 => k_asm); (case k4 => exact news_cm (by k_asm)); (case k5 => k_asm); (case kK => exact rfl); (case kd => ktr_room); (case ku => ktr_units))
              case hR => exact lawR2 hlt hfr hoo hfresh
              intro v' nx' h' tk' hR' F' N'
              obtain ⟨rfl, vs2, rfl, hS2⟩ := hR'
              (try k_unmd)
              (try dsimp only)
              (try k_fold)
              k_steps
              unfold Stop
              rename Fr _ _ _ _ => kF3
              rename News _ _ _ _ => kN3
              refine append_K kF3 kN3 (.tail (Nat.ne_of_lt hlt.1) (.head ?hne)) ?_ (by rw [sizeLine_eq]; omega)
              case hne => exact lawT2 hfr hoo hfresh
              intro h' F' N'
              (try k_unmd)
              (try dsimp only)
              (try k_fold)
              k_steps
              rename Fr _ _ _ _ => kF5
              rename News _ _ _ _ => kN5
              exact ⟨rfl, vs2, _, ts1 ++ [.ref C3], ks1 ++ [keyD (z.fdiv 4)], c1 + 1, (C3, _) :: (R3, _) :: fr1, _, _, _, _, rfl, ⟨kF5, news_ap kN5, hS2, cl_more hD hall, inv_comes hI hko hkne he, lawF hfr hfresh, lawO hoo hfresh, rfl, rfl, rfl⟩⟩
            · rename Fr _ _ _ _ => kF2
              rename News _ _ _ _ => kN2
              exact ⟨rfl, vs1, ss1, ts1, ks1, c1, fr1, _, _, _, _, rfl, ⟨kF2, news_drop kN2 (fun _ h => .tail _ (.tail _ (.tail _ (.tail _ h)))), hS, hD, hI, hfr, hoo, rfl, rfl, rfl⟩⟩
        · rename Fr _ _ _ _ => kF2
          rename News _ _ _ _ => kN2
          exact ⟨rfl, vs1, ss1, ts1, ks1, c1, fr1, _, _, _, _, rfl, ⟨kF2, kN2, hS, hD, hI, hfr, hoo, rfl, rfl, rfl⟩⟩
        · rename Fr _ _ _ _ => kF2
          rename News _ _ _ _ => kN2
          exact ⟨rfl, vs1, ss1, ts1, ks1, c1, fr1, _, _, _, _, rfl, ⟨kF2, kN2, hS, hD, hI, hfr, hoo, rfl, rfl, rfl⟩⟩
      case kont2 =>
        clear S2 S1 hS hD hI hfr hoo kF1 kN1
        intro vs2 ss2 ts2 ks2 c2 fr2 m5 zt2 h2 tk2 S3
        have kF1 := S3.F
        have kN1 := S3.N
        have hS := S3.S
        have hD := S3.D
        have hI := S3.I
        have hfr := S3.fo
        have hoo := S3.oo
        rw [m3 S3.mr S3.mt S3.md] at kF1
        (try k_unmd)
        (try dsimp only)
        (try k_fold)
        k_steps
        unfold Stop
        have hs7 := inv_len hI
        have hv7 : vs2.length = 7 := by rw [hS.length]; exact hs7
        refine wpAny_If ?_
        k_steps
        unfold Stop
        refine LCg.ListComp_U (F₀ := by k_asm) (by rfl) (by decide) (by rfl) (by decide) (by rfl) ?_
        k_steps
        refine LCg.CompSrc.ledger (by rfl) (by k_asm) (by k_asm) (by k_mem) (by rw [sizeLine_eq, List.size_toArray]; omega) ?_
        intro g
        refine rest_ind (textsJ _ ss2) ?stepA ?finA _ _ _ _ (Nat.zero_add _) ⟨[], rfl, .nil⟩
        case stepA =>
          rintro i ys nx v I oI C oC D m₂ h tk E' hi ⟨tl, rfl, hall⟩ hv hC hx F' N' off ne
          have hi7 : i < 7 := by rw [List.size_toArray] at hi; omega
          obtain ⟨tv, htv⟩ := hS.at (j := i) (y := ss2.getD i Str.empty) (by simp [hs7, hi7])
          have ev : v = .str (ss2.getD i Str.empty) tv := by
            have q : vs2[i]? = some v := by simpa using hv
            rw [htv] at q
            exact (Option.some.inj q).symm
          subst ev
          have hlen := text_len hI i
          (try k_unmd)
          k_steps
          unfold Stop
          refine ListComp_S (F₀ := by k_asm) (by rfl) (by decide) (by rfl) (by decide) (by rfl) ?_
          k_steps
          refine ⟨_, _, _, rfl, rfl, (by k_asm), (by k_asm), hlen, fun g2 => ord_rest ?stepO ?finO⟩
          case stepO =>
            intro c u I2 oI2 C2 oC2 D2 m3 ys2 h4 tk4 E4 hC2 hx2 F2 N2 off2 ne2
            (try k_unmd)
            k_steps
            exact LCg.CompEnd.intro (by k_asm) (by k_asm) _ (fun _ h => h) off2 trivial ⟨rfl, _, rfl⟩
          case finO =>
            intro ys2 hall2
            unfold LCg.FinE
            intro D2 h4 tk4 F4 N4 o4
            refine LCg.CompEnd.intro F4 N4 ((D2, LCg.lst ys2) :: (tl ++ _)) mem4 ⟨⟨fun e => o4.1 e.symm, fun e => o4.2.1 e.symm, fun e => o4.2.2.1 e.symm⟩, off⟩ (.inr ⟨_, .tail _ (List.mem_append_right _ (.head _)), rfl, _, rfl⟩) ⟨(D2, LCg.lst ys2) :: tl, rfl, text_more hall hall2 hs7 hi7⟩
        case finA =>
          rintro ys nx ⟨tl, rfl, hall⟩
          have hall7 := rows_all hall hs7 (by rw [List.size_toArray]; exact hv7)
          unfold LCg.FinE
          intro D1 h1 tk1 F1 N1 o1
          (try k_unmd)
          (try dsimp only)
          (try k_fold)
          k_steps
          unfold Stop
          refine LCg.ListComp_U (F₀ := by k_asm) (by rfl) (by decide) (by rfl) (by decide) (by rfl) ?_
          k_steps
          unfold Stop
          k_dflt (refine' Ct.use (due_K (vs := ts2) (ks := ks2) (c := c2) (.tail _ (List.mem_append_right _ (.tail _ (.head _)))) (hD.mono ?sub) (inv_le hI) (inv_ne hI)) ?k1 ?k2 ?k3 ?k4 ?k5 ?kK ?kd ?ku ?_; (case k1 => k_asm); (case k2 => k_asm); (case k3 => k_asm); (case k4 => k_asm); (case k5 => k_asm); (case kK => exact rfl); (case kd => ktr_room); (case ku => ktr_units))
          case sub => exact fun _ h => .tail _ (List.mem_append_right _ (.tail _ (.tail _ (List.mem_append_left _ h))))
          intro v' nx' h' tk' hR' F' N'
          obtain ⟨D2, tl2, us, ks', c4, rfl, rfl, htl2, hm2, hdu, pm, pw⟩ := hR'
          rw [← inv_due hI pm pw] at hdu
          have hu7 : us.length = 7 := by rw [hdu.length, List.length_map]; exact hs7
          (try k_unmd)
          (try dsimp only)
          (try k_fold)
          k_steps
          refine LCg.CompSrc.ledger (by rfl) (by k_asm) (by k_asm) (List.mem_append_left _ hm2) (by rw [sizeLine_eq, List.size_toArray]; omega) ?_
          intro g
          refine rest_ind (duesJ (tl2 ++ _) ss2) ?stepB ?finB _ _ _ _ (Nat.zero_add _) ⟨[], rfl, .nil⟩
          case stepB =>
            rintro i ys4 nx v I oI C oC D m₂ h tk E' hi ⟨tl3, rfl, hall3⟩ hv hC hx F' N' off ne
            have hi7 : i < 7 := by rw [List.size_toArray] at hi; omega
            obtain ⟨v5, hv5, hd5⟩ := all_map_get hdu (i := i) (by omega)
            have ev : v = v5 := by
              have q : us[i]? = some v := by simpa using hv
              rw [hv5] at q
              exact (Option.some.inj q).symm
            subst ev
            obtain ⟨a5, rfl⟩ := due_ref hd5
            (try k_unmd)
            by_cases hk5 : ss2.getD i Str.empty = Str.empty
            · k_steps
              unfold Stop
              refine IfExp_ ?_
              (repeat' (first | ((with_reducible show wpAny _ _ (compareOp CmpOp.NotEq (Value.ref _) (Value.ref _)) _ _ _); k_dflt (refine' one_nn ?k1 ?k2 ?k3 ?k4 ?k5 ?k6 ?k7 ?_; (case k1 => k_asm); (case k2 => with_reducible assumption); (case k3 => with_reducible assumption); (case k4 => omega); (case k5 => exact fun _ h => .tail _ (.tail _ (.tail _ (.tail _ (List.mem_append_right _ h))))); (case k6 => k_mem); (case k7 => ktr_units); k_whole)) | (k_unfold; (try dsimp only)) | (k_end; wrow_close) | walk1 | (dsimp only; walk1) | (leave1; walk_say "STEP leave1"; try dsimp only) | fail "no step"))
              rename Fr _ _ _ _ => kF2
              rename News _ _ _ _ => kN2
              rename _ < _ ∧ _ < _ ∧ _ < _ ∧ _ < _ ∧ AllLt _ _ => l5
              exact LCg.CompEnd.intro kF2 kN2 ((_, _) :: (tl3 ++ _)) mem5 (off3_new off l5.2.1 l5.2.2.1 l5.2.2.2.1) (.inr ⟨_, .tail _ (List.mem_append_right _ (List.mem_append_left _ hm2)), rfl, _, rfl⟩) ⟨(_, _) :: tl3, rfl, rows_more (hall3.mono fun _ h => .tail _ h) (row_nil hk5 (.head _)) hs7 hi7⟩
            · rw [dueD, if_neg hk5] at hd5
              obtain ⟨a6, r6, t6, n6, e6, ma6, mc6⟩ := cl_inv hd5
              cases e6
              k_steps
              unfold Stop
              refine IfExp_ ?_
              (repeat' (first | ((with_reducible show wpAny _ _ (subscriptTail _ _ (Value.ref _) (Value.int 0 _)) _ _ _); k_dflt (refine' c0get ?k1 ?k2 ?k3 ?_ ?k7 ?k8; (case k1 => k_asm); (case k2 => with_reducible assumption); (case k3 => exact fun _ h => .tail _ (.tail _ (.tail _ (.tail _ (List.mem_append_right _ h))))); ((case k7 => with_unfolding_all rfl); (case k8 => (intro _; with_unfolding_all rfl))); k_whole)) | ((with_reducible show wpAny _ _ (compareOp CmpOp.NotEq (Value.ref _) (Value.ref _)) _ _ _); k_dflt (refine' one_nn ?k1 ?k2 ?k3 ?k4 ?k5 ?k6 ?k7 ?_; (case k1 => k_asm); (case k2 => with_reducible assumption); (case k3 => with_reducible assumption); (case k4 => omega); (case k5 => exact fun _ h => .tail _ (.tail _ (.tail _ (.tail _ (List.mem_append_right _ h))))); (case k6 => k_mem); (case k7 => ktr_units); k_whole)) | (k_unfold; (try dsimp only)) | (k_end; wrow_close) | walk1 | (dsimp only; walk1) | (leave1; walk_say "STEP leave1"; try dsimp only) | fail "no step"))
              rename Fr _ _ _ _ => kF2
              rename News _ _ _ _ => kN2
              exact LCg.CompEnd.intro kF2 kN2 (tl3 ++ _) (fun _ h => .tail _ h) off (.inr ⟨_, List.mem_append_right _ (List.mem_append_left _ hm2), rfl, _, rfl⟩) ⟨tl3, rfl, rows_more hall3 (mc6.mono fun _ h => List.mem_append_right _ h) hs7 hi7⟩
          case finB =>
            rintro ys4 nx ⟨tl3, rfl, hall3⟩
            have hall8 := rows_all hall3 hs7 (by rw [List.size_toArray]; exact hu7)
            unfold LCg.FinE
            intro D3 h3 tk3 F3 N3 o3
            show wpAny _ _ (compareOp .NotEq (.ref D1) (.ref D3)) _ _ _
            k_dflt (refine' rows_ne N3 hall7 hall8 ?m1 ?m3 ?s1 ?s3 ?ku ?_)
            case m1 => exact .tail _ (List.mem_append_right _ (List.mem_append_right _ (.head _)))
            case m3 => exact .head _
            case s1 => exact fun _ h => .tail _ (List.mem_append_right _ (List.mem_append_right _ (.tail _ (List.mem_append_left _ h))))
            case s3 => exact fun _ h => .tail _ h
            case ku => ktr_units
            (try k_unmd)
            (try dsimp only)
            (try k_fold)
            k_steps
            rename Fr _ _ _ _ => kF5
            rename News _ _ _ _ => kN5
            refine InvEndG.intro (nx := (_, listOf vs2.toArray 0) :: (_, listOf ts2.toArray c2) :: fr2) kF5 kN5 ⟨vs2, ss2, ts2, ks2, c2, fr2, rfl, hS, hD, hI, hfr, rfl, rfl⟩ (own_off hoo) ?_ ?_
            · exact fun p hp => .tail _ (List.mem_append_right _ (List.mem_append_right _ (.tail _ (List.mem_append_right _ (mem_front p hp)))))
            · exact fun p hp => .tail _ (List.mem_append_right _ (List.mem_append_right _ (.tail _ (List.mem_append_right _ (.tail _ (.tail _ (List.mem_append_right _ hp)))))))
  case done =>
    rintro m₁ nx h tk ⟨vs, ss, ts, ks, c, fr, rfl, hS, hD, hI, hfr, mr, mt⟩ F₁ N₁
    dsimp only [envOf] at F₁ N₁
    (try k_unmd)
    (try dsimp only)
    (try k_fold)
    k_steps)
end Mine
theorem PySem.Challenge.cw_wr0009_01_holds : PySem.Challenge.rw_wr0009_01.Holds := by
  exact Mine.law_holds
