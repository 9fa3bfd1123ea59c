import PyProof.Rows.All
import Wide.All
import OpenK.AllK
import Wide.FinOn
import Lean
import PySem.Challenge.RW_pd0185_01
open PySem PySem.W PyProof.Rows PySem.Calls
set_option Elab.async false
set_option maxRecDepth 100000
set_option maxHeartbeats 4000000
namespace Mine
def isDef : Stmt → Bool
  | .Assign .. => false
  | _ => true
/-- the view of the text: its defs and classes -/
def view : Program := { PySem.Challenge.pw_pd0185_01 with main := { PySem.Challenge.pw_pd0185_01.main with body := PySem.Challenge.pw_pd0185_01.main.body.filter isDef } }
/-- the head at once (1,484 steps), in place of pieces: the compiled file stays small -/
local macro_rules | `(tactic| o_head $H) => `(tactic| (
  refine holds_open (q := view) (loose := []) (Xt := fun s => xlAt view [] s && recOk (RowW.records (OpenRow.toRowW PySem.Challenge.rw_pd0185_01.row)) s) (XP := XL view []) (Yf := Hook.obs $H) (Ya := Hook.val $H) (YP := Hook.says $H) (N := 3068) ?hl (Hook.of $H) (Hook.keeps $H) (fun s e => xl_of s (Bool.and_eq_true_iff.mp e).1) XL.keeps (by rfl) (by rfl) (by rfl) (fun s e => recFacts_of (Bool.and_eq_true_iff.mp e).2) (by rfl) (by first | assumption | decide +kernel) (by decide +kernel) ⟨rfl, rfl, rfl, rfl, rfl, by decide +kernel⟩ ?hw ?hc
  (case hl => (intro w; kernel_rfl))))
open_top hd for PySem.Challenge.rw_pd0185_01
theorem fill_all : PySem.Challenge.rw_pd0185_01 = PySem.Challenge.rw_pd0185_01 ∧ hd.heap_39 = hd.heap_39 := by
  w_top off
  k_fill
  exact ⟨rfl, rfl⟩
section S_N01_0
def rootOf (x : Str) : Str := if (Txt.slice x none (some 1) != Str.ofString "/") = true then Str.ofString "" else if (Txt.slice x (some 1) (some 2) != Str.ofString "/") = true then Str.ofString "/" else if (Txt.slice x (some 2) (some 3) == Str.ofString "/") = true then Str.ofString "/" else Txt.slice x none (some 2)
def restOf (x : Str) : Str := if (Txt.slice x none (some 1) != Str.ofString "/") = true then x else if (Txt.slice x (some 1) (some 2) != Str.ofString "/") = true then Txt.slice x (some 1) none else if (Txt.slice x (some 2) (some 3) == Str.ofString "/") = true then Txt.slice x (some 1) none else Txt.slice x (some 2) none
theorem restOf_le (x : Str) : (restOf x).length ≤ x.length := by
  unfold restOf
  split
  · exact Nat.le_refl _
  split
  · exact Txt.slice_le _ _ _
  split
  · exact Txt.slice_le _ _ _
  · exact Txt.slice_le _ _ _
theorem rootOf_le (x : Str) : (rootOf x).length ≤ x.length + 1 := by
  unfold rootOf
  split
  · exact Nat.le_trans (show (Str.ofString "").length ≤ 0 by decide +kernel) (Nat.zero_le _)
  split
  · exact Nat.le_trans (show (Str.ofString "/").length ≤ 1 by decide +kernel) (Nat.le_add_left _ _)
  split
  · exact Nat.le_trans (show (Str.ofString "/").length ≤ 1 by decide +kernel) (Nat.le_add_left _ _)
  · exact Nat.le_trans (Txt.slice_le _ _ _) (Nat.le_succ _)
def splitHead (x : Str) : Str := if ((Txt.slice x none (some (Txt.rfind x (Str.ofString "/") + 1))).length : Int) = 0 then Txt.slice x none (some (Txt.rfind x (Str.ofString "/") + 1)) else if (Txt.slice x none (some (Txt.rfind x (Str.ofString "/") + 1)) != Txt.mul (Str.ofString "/") ((Txt.slice x none (some (Txt.rfind x (Str.ofString "/") + 1))).length : Int)) = true then Txt.rstripChars (Txt.slice x none (some (Txt.rfind x (Str.ofString "/") + 1))) (Str.ofString "/") else Txt.slice x none (some (Txt.rfind x (Str.ofString "/") + 1))
def splitTail (x : Str) : Str := Txt.slice x (some (Txt.rfind x (Str.ofString "/") + 1)) none
def normStep (root : Str) (k : List Str) (c : Str) : List Str :=
  if c.length = 0 ∨ c = Str.ofString "." then k else if c ≠ Str.ofString ".." ∨ (root.length = 0 ∧ k = []) ∨ k.getLast? = some (Str.ofString "..") then k ++ [c] else k.dropLast
def normRun (root : Str) (cs : List Str) : List Str := cs.foldl (normStep root) []
theorem norm_succ {r : Str} {l : List (Str × Tok)} {i : Nat} {c : Str} {t : Tok} (h : l[i]? = some (c, t)) : normRun r ((l.map (·.1)).take (i + 1)) = normStep r (normRun r ((l.map (·.1)).take i)) c := by
  unfold normRun
  rw [List.take_add_one, List.foldl_append]
  simp [h]
theorem ns_skip1 {r c : Str} {k : List Str} (h : (c.length : Int) = 0) : normStep r k c = k := by unfold normStep; rw [if_pos (.inl (by omega))]
theorem ns_skip2 {r c : Str} {k : List Str} (h : (c == Str.ofString ".") = true) : normStep r k c = k := by unfold normStep; rw [if_pos (.inr (eq_of_beq h))]
theorem ns_app1 {r c : Str} {k : List Str} (h1 : (c.length : Int) ≠ 0) (h2 : (c == Str.ofString ".") = false) (h3 : (c != Str.ofString "..") = true) : normStep r k c = k ++ [c] := by
  unfold normStep; rw [if_neg (by rintro (h | h); omega; exact (beq_eq_false_iff_ne.mp h2) h), if_pos (.inl (bne_iff_ne.mp h3))]
theorem ns_app2 {r c : Str} (h1 : (c.length : Int) ≠ 0) (h2 : (c == Str.ofString ".") = false) (h3 : (r.length : Int) = 0) : normStep r [] c = [] ++ [c] := by
  unfold normStep; rw [if_neg (by rintro (h | h); omega; exact (beq_eq_false_iff_ne.mp h2) h), if_pos (.inr (.inl ⟨by omega, rfl⟩))]
theorem ns_app3 {r c q : Str} {k : List Str} (h1 : (c.length : Int) ≠ 0) (h2 : (c == Str.ofString ".") = false) (h3 : (q == Str.ofString "..") = true) : normStep r (k ++ [q]) c = (k ++ [q]) ++ [c] := by
  unfold normStep; rw [if_neg (by rintro (h | h); omega; exact (beq_eq_false_iff_ne.mp h2) h), if_pos (.inr (.inr (by rw [List.getLast?_concat, eq_of_beq h3])))]
theorem ns_pop0 {r c : Str} (h1 : (c.length : Int) ≠ 0) (h2 : (c == Str.ofString ".") = false) (h3 : (c != Str.ofString "..") = false) (h4 : (r.length : Int) ≠ 0) : normStep r [] c = [] := by
  unfold normStep; rw [if_neg (by rintro (h | h); omega; exact (beq_eq_false_iff_ne.mp h2) h), if_neg (by rintro (h | h | h); exact (by simpa using h3 : c = _) |> h; omega; simp at h)]
  rfl
theorem ns_pop {r c q : Str} {k : List Str} (h1 : (c.length : Int) ≠ 0) (h2 : (c == Str.ofString ".") = false) (h3 : (c != Str.ofString "..") = false) (h4 : (q == Str.ofString "..") = false) : normStep r (k ++ [q]) c = k := by
  unfold normStep; rw [if_neg (by rintro (h | h); omega; exact (beq_eq_false_iff_ne.mp h2) h), if_neg (by rintro (h | h | h); exact h (by simpa using h3 : c = _); simp at h; (rw [List.getLast?_concat] at h; exact (beq_eq_false_iff_ne.mp h4) (Option.some.inj h)))]
  simp
def lsum (l : List Str) : Nat := (l.map (·.length)).sum
theorem lsum_append (a b : List Str) : lsum (a ++ b) = lsum a + lsum b := by simp [lsum]
theorem lsum_cons (a : Str) (b : List Str) : lsum (a :: b) = a.length + lsum b := by simp [lsum]
theorem lsum_dropLast (k : List Str) : lsum k.dropLast ≤ lsum k := by
  rcases List.eq_nil_or_concat k with rfl | ⟨k0, q, rfl⟩
  · exact Nat.le_refl _
  · rw [List.concat_eq_append, List.dropLast_concat, lsum_append]; omega
theorem lsum_step (r : Str) (k : List Str) (c : Str) : lsum (normStep r k c) ≤ lsum k + c.length := by
  unfold normStep
  split
  · omega
  split
  · rw [lsum_append, lsum_cons]; show _ + (_ + 0) ≤ _; omega
  · have := lsum_dropLast k; omega
theorem lsum_fold (r : Str) : ∀ (cs k : List Str), lsum (cs.foldl (normStep r) k) ≤ lsum k + lsum cs
  | [], k => by simp [lsum]
  | c :: cs, k => by
    have h1 := lsum_fold r cs (normStep r k c)
    have h2 := lsum_step r k c
    rw [List.foldl_cons, lsum_cons]; omega
theorem lsum_normRun (r : Str) (cs : List Str) : lsum (normRun r cs) ≤ lsum cs := by have := lsum_fold r cs []; simpa [lsum, normRun] using this
theorem lsum_join (sep : Str) : ∀ l : List Str, lsum l ≤ (Str.join sep l).length
  | [] => Nat.zero_le _
  | [x] => by simp [lsum, Str.join]
  | x :: y :: r => by
    have h := lsum_join sep (y :: r)
    rw [PyProof.Rows.join_cons_cons, Str.length_append, Str.length_append, lsum_cons]
    omega
theorem lsum_split (x : Str) : lsum (Txt.split x (Str.ofString "/")) ≤ x.length := by
  have h := lsum_join (Str.ofString "/") (Txt.split x (Str.ofString "/"))
  rwa [show Str.join (Str.ofString "/") (Txt.split x (Str.ofString "/")) = x from StrLaws.join_split x _] at h
theorem count_join : ∀ l : List Str, l.length ≤ (Str.join (Str.ofString "/") l).length + 1
  | [] => Nat.zero_le _
  | [x] => by simp
  | x :: y :: r => by
    have h := count_join (y :: r)
    rw [PyProof.Rows.join_cons_cons, Str.length_append, Str.length_append, show (Str.ofString "/").length = 1 by decide +kernel]
    simp only [List.length_cons] at h ⊢
    omega
theorem count_split (x : Str) : (Txt.split x (Str.ofString "/")).length ≤ x.length + 1 := by
  have h := count_join (Txt.split x (Str.ofString "/"))
  rwa [show Str.join (Str.ofString "/") (Txt.split x (Str.ofString "/")) = x from StrLaws.join_split x _] at h
def normCat (x : Str) : Str := rootOf x ++ Txt.join (Str.ofString "/") (normRun (rootOf x) (Txt.split (restOf x) (Str.ofString "/")))
def normOf (x : Str) : Str := if x.length = 0 then Str.ofString "." else if (normCat x).length = 0 then Str.ofString "." else normCat x
theorem snoc_cases {α} (k : List α) : k = [] ∨ ∃ k0 q, k = k0 ++ [q] := by
  rcases List.eq_nil_or_concat k with h | ⟨k0, q, h⟩
  · exact .inl h
  · exact .inr ⟨k0, q, by rw [h, List.concat_eq_append]⟩
theorem strValues_get {l : List (Str × Tok)} {i : Nat} {v : Value} (h : (strValues l).toArray[i]? = some v) : ∃ c t, v = .str c t ∧ l[i]? = some (c, t) := by
  simp only [List.getElem?_toArray, strValues, List.getElem?_map, Option.map_eq_some_iff] at h
  obtain ⟨q, h1, h2⟩ := h
  exact ⟨q.1, q.2, h2.symm, h1⟩
theorem lsum_take_succ {l : List (Str × Tok)} {i : Nat} {c : Str} {t : Tok} (h : l[i]? = some (c, t)) : lsum ((l.map (·.1)).take (i + 1)) = lsum ((l.map (·.1)).take i) + c.length := by
  rw [List.take_add_one, lsum_append]
  simp [h, lsum]
theorem lsum_take_le : ∀ (l : List Str) (n : Nat), lsum (l.take n) ≤ lsum l
  | [], n => by simp
  | a :: l, 0 => Nat.zero_le _
  | a :: l, n + 1 => by have := lsum_take_le l n; rw [List.take_succ_cons, lsum_cons, lsum_cons]; omega
def joinStep (acc b : Str) : Str := if Txt.startswith b (Str.ofString "/") = true then b else if acc.length = 0 then b else if Txt.endswith acc (Str.ofString "/") = true then acc ++ b else acc ++ (Str.ofString "/" ++ b)
def joinRun (x : Str) (l : List Str) : Str := l.foldl joinStep x
theorem join_succ {x : Str} {l : List (Str × Tok)} {i : Nat} {c : Str} {t : Tok} (h : l[i]? = some (c, t)) : joinRun x ((l.map (·.1)).take (i + 1)) = joinStep (joinRun x ((l.map (·.1)).take i)) c := by
  unfold joinRun
  rw [List.take_add_one, List.foldl_append]
  simp [h]
theorem js1 {a b : Str} (h : Txt.startswith b (Str.ofString "/") = true) : joinStep a b = b := by unfold joinStep; rw [if_pos h]
theorem js2 {a b : Str} (h : Txt.startswith b (Str.ofString "/") = false) (h2 : (a.length : Int) = 0) : joinStep a b = b := by unfold joinStep; rw [if_neg (by rw [h]; decide), if_pos (by omega)]
theorem js3 {a b : Str} (h : Txt.startswith b (Str.ofString "/") = false) (h2 : (a.length : Int) ≠ 0) (h3 : Txt.endswith a (Str.ofString "/") = true) : joinStep a b = a ++ b := by unfold joinStep; rw [if_neg (by rw [h]; decide), if_neg (by omega), if_pos h3]
theorem js4 {a b : Str} (h : Txt.startswith b (Str.ofString "/") = false) (h2 : (a.length : Int) ≠ 0) (h3 : Txt.endswith a (Str.ofString "/") = false) : joinStep a b = a ++ (Str.ofString "/" ++ b) := by unfold joinStep; rw [if_neg (by rw [h]; decide), if_neg (by omega), if_neg (by rw [h3]; decide)]

end S_N01_0
section S_N02_0
def escS (set : Str) (c : Str) : Str := if (!(Builtin.Str.occurrences set c 0 set.length 1).isEmpty) = true then Str.ofString "\\" ++ c else c
def shield (n : Str) (q : Bool) : Str :=
  if q = true ∨ n = Str.ofString "" then Str.ofString "\"" ++ Txt.join (Str.ofString "") ((PyProof.Rows.signs n).map (escS (Str.ofString "\"\\"))) ++ Str.ofString "\"" else Txt.join (Str.ofString "") ((PyProof.Rows.signs n).map (escS (Str.ofString "\"\\.")))
def names8 : List Str := [Str.ofString ".", Str.ofString "..", Str.ofString "", Str.ofString "a", Str.ofString "b \n", Str.ofString "\"", Str.ofString "\\", Str.ofString "..a"]
def roots4 : List Str := [Str.ofString "/", Str.ofString "//", Str.ofString "/", Str.ofString "/"]
def pieceOf (c : Int) : Str × Str × Str :=
  if c.fmod 16 < 2 then (Str.ofString "still", Txt.mul (Str.ofString ".") (c.fmod 16), Txt.mul (Str.ofString ".") (c.fmod 16))
  else if c.fmod 16 < 5 then (Str.ofString "up", Str.ofString "..", Str.ofString "..")
  else if c.fmod 16 = 5 then (Str.ofString "root", roots4.getD (((c.fdiv 16).fmod 8).fmod 4).toNat Str.empty, Txt.mul (Str.ofString "/") (((c.fdiv 16).fmod 8).fmod 4 + 1))
  else (Str.ofString "name", names8.getD ((c.fdiv 16).fmod 8).toNat Str.empty, shield (names8.getD ((c.fdiv 16).fmod 8).toNat Str.empty) (c.fdiv 128 == 1))
theorem take_succ_map {α β} {l : List α} {f : α → β} {i : Nat} {c : α} (h : l[i]? = some c) : (l.take (i + 1)).map f = (l.take i).map f ++ [f c] := by
  rw [List.take_add_one, List.map_append, h]; rfl
theorem escS_len {set c : Str} : (escS set c).length ≤ c.length + 1 := by
  unfold escS
  split
  · rw [Str.length_append, show (Str.ofString "\\").length = 1 by decide +kernel]; omega
  · omega
theorem lsum_escS (set : Str) : ∀ l : List Str, lsum (l.map (escS set)) ≤ lsum l + l.length
  | [] => Nat.le_refl _
  | c :: r => by
    have := lsum_escS set r
    have := escS_len (set := set) (c := c)
    rw [List.map_cons, lsum_cons, lsum_cons, List.length_cons]; omega
theorem lsum_signs (x : Str) : lsum (PyProof.Rows.signs x) = x.length := by
  unfold lsum PyProof.Rows.signs
  rw [List.map_map]
  have : ∀ l : List Nat, (l.map ((fun x => x.length) ∘ fun n => (⟨#[n]⟩ : Str))).sum = l.length := by
    intro l; induction l with
    | nil => rfl
    | cons a l ih => rw [List.map_cons, List.sum_cons, ih, List.length_cons]; show 1 + _ = _; omega
  rw [this]; simp [Str.length]
theorem escS_in {set c : Str} (h : (Builtin.Str.occurrences set c 0 set.length 1).isEmpty = false) : escS set c = Str.ofString "\\" ++ c := by unfold escS; rw [h]; rfl
theorem escS_out {set c : Str} (h : (Builtin.Str.occurrences set c 0 set.length 1).isEmpty = true) : escS set c = c := by unfold escS; rw [h]; rfl

end S_N02_0
section S_P01_0
abbrev pw : Program := PySem.Challenge.rw_pd0185_01.row.toRowW.prog
theorem kind_isn : builtinKind "issubclass.nested" = none := by decide +kernel
theorem plain_isn : plainId "issubclass.nested" = true := by decide +kernel
theorem args_isn (a b c : Value) : argsOk "issubclass.nested" ⟨[a, b, c], []⟩ := by unfold argsOk; kernel_rfl
theorem entry_isn : entryFor table "issubclass.nested" = some Builtin.«issubclass.nested» := F.entry_issubclass_nested
theorem sub_str : isSubtype (.type "str") (.type "str") = pure true := by rw [isSubtype_type]; kernel_rfl
theorem sub_tup : isSubtype (.type "tuple") (.type "tuple") = pure true := by rw [isSubtype_type]; kernel_rfl
theorem meta_str : (Value.type "type" == Value.type "type") = true := by decide +kernel
section
variable {prog : Program} {w : World} {A : Around} {E : Value → Shared → Prop} {s : Shared}
theorem isn_str {k : Value} {dep : Int} {tk : Tok} {Q : Fin → Shared → Prop} (hk : k = .int dep tk) (hq : Q (.done (.ret (.bool true))) s) :
    wpAny (model prog w) A (Builtin.«issubclass.nested» ⟨[.type "str", .type "str", k], []⟩) Q E s := by
  subst hk
  have hself := sub_str
  repeat (any_goals (first | assumption | (rw [hself]) | wp_step))
theorem isn_meets (dep : Int) (tk : Tok) : Meets (Builtin.«issubclass.nested» ⟨[.type "str", .type "str", .int dep tk], []⟩) (fun _ R s => R (.ok (.ret (.bool true))) s) :=
  fun _ _ _ _ _ hs => isn_str rfl hs
theorem isn_tup {D : Addr} {n : Nat} {k : Value} {tk : Tok} {Q : Fin → Shared → Prop} (hk : k = .int 0 tk) (hD : s.heap.get? D = some ⟨.type "tuple", none, .seq #[.type "str", .type "bytes"] n, #[]⟩) (hq : Q (.done (.ret (.bool true))) s) :
    wpAny (model prog w) A (Builtin.«issubclass.nested» ⟨[.type "str", .ref D, k], []⟩) Q E s := by
  subst hk
  have hself := sub_str
  repeat (any_goals (first | assumption | (rw [hself]) | wp_step))
  rw [show isSubtype ({ cls := Value.type "tuple", data := Data.seq #[Value.type "str", Value.type "bytes"] n } : Obj).cls (Value.type "tuple") = pure true from sub_tup]
  refine wpAny_pure ?_
  rw [if_pos rfl]
  dsimp only
  rw [if_neg (by decide)]
  refine wpAny_bind (wpAny_seqItems hD rfl ?_)
  dsimp only [Option.getD]
  refine wpAny_bind ?_
  rw [List.forIn_toArray, List.forIn_cons]
  refine wpAny_bind (wpAny_bind (call_function_meets kind_isn plain_isn entry_isn (args_isn _ _ _) (isn_meets _ _) ?_))
  refine wpAny_bind (wpAny_truthy_bool ?_)
  rw [if_pos rfl]
  refine wpAny_bind (wpAny_pure (wpAny_pure ?_))
  exact wpAny_pure (wpAny_pure hq)
theorem isn_top {D : Addr} {n : Nat} {Q : Value → Shared → Prop} (hD : s.heap.get? D = some ⟨.type "tuple", none, .seq #[.type "str", .type "bytes"] n, #[]⟩) (hq : Q (.bool true) s) :
    wpAny (model prog w) A (call (.builtin "issubclass") [.type "str", .ref D]) Q E s := by
  refine call_issubclass (S := fun _ R s => s.heap.get? D = some ⟨.type "tuple", none, .seq #[.type "str", .type "bytes"] n, #[]⟩ ∧ R (.ok (.ret (.bool true))) s) ?_ ⟨hD, hq⟩
  intro prog w A R s hs
  exact issubclass_outer (isn_tup rfl hs.1 hs.2)
end

end S_P01_0
local macro_rules | `(tactic| k_room) => `(tactic| ktr_room)
local macro_rules | `(tactic| walk_at "call builtin:issubclass") => `(tactic| (k_here; (with_reducible show wpAny _ _ (call (Value.builtin "issubclass") [Value.type "str", Value.ref _]) _ _ _); k_dflt (refine' isn_top ?k1 ?_; (case k1 => exact News.get (by k_asm) (by k_mem)); k_whole)))

section S_P02_0
theorem news_sub {h₀ h : Heap} {L : Addr} {news news' : List (Addr × Obj)} (N : News h₀ L h news) (hs : ∀ p ∈ news', p ∈ news) : News h₀ L h news' := fun p hp => N p (hs p hp)
theorem lt_of_all {d : Addr} : ∀ {l : List (Addr × Obj)}, AllLt d l → ∀ q ∈ l, q.1 < d
  | [], _ => fun _ h => nomatch h
  | p :: r, h => fun q hq => by
    rcases List.mem_cons.mp hq with rfl | hq
    · exact h.1
    · exact lt_of_all h.2 q hq
section
variable {w : World} {p : Program} {loose : List Str} {mean : ExcName → Option Value} {mg mb : Str → Option Value} {dp un : Nat} {gd : Option (List Code)} {cn : Str} {cs : Scope} {a : Addr} {ccd : Value} {cl : List (Str × Addr)} {outer : List Env} {A₀ : Around} {base h₀ : Heap} {L : Addr} {m : Str → Option Value} {news : List (Addr × Obj)} {s : Shared} {Q E : Value → Shared → Prop}
theorem fspath_spec {x : Str} {t : Tok}
    (B : Below A₀ base outer h₀) (F : Fr h₀ L s.heap m) (X : (hd.heap_39 w.params).In h₀) (N : News h₀ L s.heap news) (T : Top p loose mean mg mb h₀) (hk : cs.kind = .function)
    (hd : dp + 5 < recursionLimit) (hu : un + 50 < cLine)
    (hret : ∀ h' tk', Fr h₀ L h' m → News h₀ L h' news → Q (.str x t) { s with heap := h', toks := tk' }) :
    wpAny (model pw w) (ktrTop dp un gd cn cs L a ccd cl outer) (call (.ref 94) [.str x t]) Q E s := by
  refine wpAny_call ?_
  k_dflt ktr_enter
  k_steps
  all_goals exact hret _ _ (by k_asm) (news_sub (by k_asm) (by intro p9 h9; k_ownIn))
theorem get_sep_spec {x : Str} {t : Tok}
    (B : Below A₀ base outer h₀) (F : Fr h₀ L s.heap m) (X : (hd.heap_39 w.params).In h₀) (N : News h₀ L s.heap news) (T : Top p loose mean mg mb h₀) (hk : cs.kind = .function)
    (hd : dp + 5 < recursionLimit) (hu : un + 50 < cLine)
    (hret : ∀ t' h' tk', Fr h₀ L h' m → News h₀ L h' news → Q (.str (Str.ofString "/") t') { s with heap := h', toks := tk' }) :
    wpAny (model pw w) (ktrTop dp un gd cn cs L a ccd cl outer) (call (.ref 108) [.str x t]) Q E s := by
  refine wpAny_call ?_
  k_dflt ktr_enter
  k_steps
  all_goals exact hret _ _ _ (by k_asm) (news_sub (by k_asm) (by intro p9 h9; k_ownIn))
end

end S_P02_0
local macro_rules | `(tactic| walk_at "call ref") => `(tactic| (k_here; (with_reducible show wpAny _ _ (call (Value.ref 94) [Value.str _ _]) _ _ _); k_dflt (refine' fspath_spec ?k1 ?k2 ?k3 ?k4 ?k5 ?kK ?kd ?ku ?_; (case k1 => k_asm); (case k2 => k_asm); (case k3 => k_asm); (case k4 => k_asm); (case k5 => k_asm); (case kK => first | exact rfl | assumption); (case kd => ktr_room); (case ku => ktr_units); k_whole); intro h' tk' F' N'; (try k_sweep)))
local macro_rules | `(tactic| walk_at "call ref") => `(tactic| (k_here; (with_reducible show wpAny _ _ (call (Value.ref 108) [Value.str _ _]) _ _ _); k_dflt (refine' get_sep_spec ?k1 ?k2 ?k3 ?k4 ?k5 ?kK ?kd ?ku ?_; (case k1 => k_asm); (case k2 => k_asm); (case k3 => k_asm); (case k4 => k_asm); (case k5 => k_asm); (case kK => first | exact rfl | assumption); (case kd => ktr_room); (case ku => ktr_units); k_whole); intro t' h' tk' F' N'; (try k_sweep)))

section S_P03_0
section
variable {w : World} {p : Program} {loose : List Str} {mean : ExcName → Option Value} {mg mb : Str → Option Value} {dp un : Nat} {gd : Option (List Code)} {cn : Str} {cs : Scope} {a : Addr} {ccd : Value} {cl : List (Str × Addr)} {outer : List Env} {A₀ : Around} {base h₀ : Heap} {L : Addr} {m : Str → Option Value} {news : List (Addr × Obj)} {s : Shared} {Q E : Value → Shared → Prop}
theorem splitroot_spec {x : Str} {t : Tok}
    (B : Below A₀ base outer h₀) (F : Fr h₀ L s.heap m) (X : (hd.heap_39 w.params).In h₀) (N : News h₀ L s.heap news) (T : Top p loose mean mg mb h₀) (hk : cs.kind = .function)
    (hd : dp + 20 < recursionLimit) (hu : un + 200 < cLine) (hlen : x.length ≤ 100000)
    (hret : ∀ D t0 t1 t2 h' tk', (restOf x).length ≤ x.length → (rootOf x).length ≤ x.length + 1 → (∀ q ∈ news, q.1 < D) → Fr h₀ L h' m → News h₀ L h' ((D, { cls := .type "tuple", data := .seq #[.str (Str.ofString "") t0, .str (rootOf x) t1, .str (restOf x) t2] }) :: news) → Q (.ref D) { s with heap := h', toks := tk' }) :
    wpAny (model pw w) (ktrTop dp un gd cn cs L a ccd cl outer) (call (.ref 129) [.str x t]) Q E s := by
  refine wpAny_call ?_
  k_dflt ktr_enter
  k_steps
  all_goals (replace hret := fun D t0 t1 t2 h' tk' => hret D t0 t1 t2 h' tk' (restOf_le x) (rootOf_le x))
  all_goals (simp only [rootOf, restOf, *, if_true, if_false, Bool.false_eq_true] at hret; exact hret _ _ _ _ _ _ (by assumption) (by k_asm) (by k_asm))
end

end S_P03_0
local macro_rules | `(tactic| walk_at "call ref") => `(tactic| (k_here; (with_reducible show wpAny _ _ (call (Value.ref 129) [Value.str _ _]) _ _ _); k_dflt (refine' splitroot_spec ?k1 ?k2 ?k3 ?k4 ?k5 ?kK ?kd ?ku ?kl ?_; (case k1 => k_asm); (case k2 => k_asm); (case k3 => k_asm); (case k4 => k_asm); (case k5 => k_asm); (case kK => first | exact rfl | assumption); (case kd => ktr_room); (case ku => ktr_units); (case kl => first | assumption | omega); k_whole); intro D' t0' t1' t2' h' tk' z1' z2' l1' F' N';  (try k_lt l1'); (try k_sweep)))

section S_P04_0
section
variable {w : World} {p : Program} {loose : List Str} {mean : ExcName → Option Value} {mg mb : Str → Option Value} {dp un : Nat} {gd : Option (List Code)} {cn : Str} {cs : Scope} {a : Addr} {ccd : Value} {cl : List (Str × Addr)} {outer : List Env} {A₀ : Around} {base h₀ : Heap} {L : Addr} {m : Str → Option Value} {news : List (Addr × Obj)} {s : Shared} {Q E : Value → Shared → Prop}
theorem split_spec {x : Str} {t : Tok}
    (B : Below A₀ base outer h₀) (F : Fr h₀ L s.heap m) (X : (hd.heap_39 w.params).In h₀) (N : News h₀ L s.heap news) (T : Top p loose mean mg mb h₀) (hk : cs.kind = .function)
    (hd : dp + 20 < recursionLimit) (hu : un + 200 < cLine) (hlen : x.length ≤ 100000)
    (hret : ∀ D t1 t2 h' tk', (∀ q ∈ news, q.1 < D) → Fr h₀ L h' m → News h₀ L h' ((D, { cls := .type "tuple", data := .seq #[.str (splitHead x) t1, .str (splitTail x) t2] }) :: news) → Q (.ref D) { s with heap := h', toks := tk' }) :
    wpAny (model pw w) (ktrTop dp un gd cn cs L a ccd cl outer) (call (.ref 122) [.str x t]) Q E s := by
  refine wpAny_call ?_
  k_dflt ktr_enter
  k_steps
  all_goals (simp only [splitHead, splitTail] at hret)
  all_goals (simp only [*, if_true, if_false, Bool.false_eq_true, not_false_eq_true] at hret)
  all_goals exact hret _ _ _ _ _ (by first | assumption | exact lt_of_all (And.right (by assumption))) (by k_asm) (news_sub (by k_asm) (by intro p9 h9; rcases List.mem_cons.mp h9 with rfl | h9; exact .head _; k_ownIn))
end

end S_P04_0
local macro_rules | `(tactic| walk_at "call ref") => `(tactic| (k_here; (with_reducible show wpAny _ _ (call (Value.ref 122) [Value.str _ _]) _ _ _); k_dflt (refine' split_spec ?k1 ?k2 ?k3 ?k4 ?k5 ?kK ?kd ?ku ?kl ?_; (case k1 => k_asm); (case k2 => k_asm); (case k3 => k_asm); (case k4 => k_asm); (case k5 => k_asm); (case kK => first | exact rfl | assumption); (case kd => ktr_room); (case ku => ktr_units); (case kl => first | assumption | omega); k_whole); intro D' t1' t2' h' tk' l1' F' N'; (try k_lt l1'); (try k_sweep)))

section S_L2_0
theorem ne_of_lt {d : Addr} {l : List (Addr × Obj)} (h : ∀ q ∈ l, q.1 < d) : ∀ q ∈ l, q.1 ≠ d := fun q hq => Nat.ne_of_lt (h q hq)
theorem ne_of_lt1 {d : Addr} {l : List (Addr × Obj)} (h : ∀ q ∈ l, q.1 < d) : ∀ q ∈ l, q.1 ≠ d + 1 := fun q hq => Nat.ne_of_lt (Nat.lt_succ_of_lt (h q hq))
theorem ne_of_all {d : Addr} {l : List (Addr × Obj)} (h : AllLt d l) : ∀ q ∈ l, q.1 ≠ d := fun q hq => Nat.ne_of_lt (lt_of_all h q hq)
theorem ne_of_all1 {d : Addr} {l : List (Addr × Obj)} (h : AllLt d l) : ∀ q ∈ l, q.1 ≠ d + 1 := fun q hq => Nat.ne_of_lt (Nat.lt_succ_of_lt (lt_of_all h q hq))

end S_L2_0
local macro_rules | `(tactic| k_all) => `(tactic| first | assumption | exact ne_of_lt (by assumption) | exact ne_of_lt1 (by assumption) | exact ne_of_all (by assumption) | exact ne_of_all (And.right (by assumption)) | exact ne_of_all (And.right (And.right (by assumption))) | exact ne_of_all (And.right (And.right (And.right (by assumption)))) | exact ne_of_all (And.right (And.right (And.right (And.right (by assumption))))) | exact ne_of_all (And.right (And.right (And.right (And.right (And.right (by assumption)))))) | exact ne_of_all (And.right (And.right (And.right (And.right (And.right (And.right (by assumption))))))) | exact ne_of_all (And.right (And.right (And.right (And.right (And.right (And.right (And.right (by assumption)))))))) | exact ne_of_all (And.right (And.right (And.right (And.right (And.right (And.right (And.right (And.right (by assumption))))))))) | exact ne_of_all (And.right (And.right (And.right (And.right (And.right (And.right (And.right (And.right (And.right (by assumption)))))))))) | exact ne_of_all (And.right (And.right (And.right (And.right (And.right (And.right (And.right (And.right (And.right (And.right (by assumption))))))))))) | exact ne_of_all (And.right (And.right (And.right (And.right (And.right (And.right (And.right (And.right (And.right (And.right (And.right (by assumption)))))))))))) | exact ne_of_all (And.right (And.right (And.right (And.right (And.right (And.right (And.right (And.right (And.right (And.right (And.right (And.right (by assumption))))))))))))) | exact ne_of_all (And.right (And.right (And.right (And.right (And.right (And.right (And.right (And.right (And.right (And.right (And.right (And.right (And.right (by assumption)))))))))))))) | exact ne_of_all1 (by assumption) | exact ne_of_all1 (And.right (by assumption)) | exact ne_of_all1 (And.right (And.right (by assumption))) | exact ne_of_all1 (And.right (And.right (And.right (by assumption)))))

local macro_rules | `(tactic| k_mem) => `(tactic| assumption)

section S_L2_4
theorem strs_of_carried : ∀ {vs : List Value} {ys : List Str}, CarriedAll vs (ys.map PyData.str) → ∃ l : List (Str × Tok), vs = strValues l ∧ l.map (·.1) = ys
  | _, [], h => by cases h; exact ⟨[], rfl, rfl⟩
  | _, y :: r, h => by
    cases h with
    | cons hc hr =>
      cases hc with
      | str _ t =>
        obtain ⟨l, rfl, rfl⟩ := strs_of_carried hr
        exact ⟨(y, t) :: l, rfl, rfl⟩
section
variable {prog : Program} {w : World} {A : Around} {E : Value → Shared → Prop} {s : Shared} {h₀ : Heap} {L : Addr} {m : Str → Option Value} {news : List (Addr × Obj)}
theorem list_str_K {x : Str} {t : Tok} {Q : Value → Shared → Prop} (hh : A.handled = none) (F : Fr h₀ L s.heap m) (N : News h₀ L s.heap news) (hsz : x.length ≤ sizeLine)
    (h : ∀ (D : Addr) (l : List (Str × Tok)) (n : Nat) (h' : Heap) (tk : Nat), l.map (·.1) = signs x → (∀ q ∈ news, q.1 < D) → Fr h₀ L h' m → News h₀ L h' ((D, listOf (strValues l).toArray n) :: news) → Q (.ref D) { s with heap := h', toks := tk }) :
    wpAny (model prog w) A (call (.type "list") [.str x t]) Q E s := by
  refine list_strD hh F N (fun h' tk ys F' N' _ hn _ hp hc => ?_) hsz
  obtain ⟨n, NX⟩ := made_enters hp F' N' hn
  obtain ⟨l, rfl, hl⟩ := strs_of_carried hc
  exact h _ l n h' tk hl (fun q hq => Heap.lt_size (N q hq).1) F' NX
end

end S_L2_4
local macro_rules | `(tactic| walk_at "call type:list") => `(tactic| (k_here; (with_reducible show wpAny _ _ (call (Value.type "list") [Value.str _ _]) _ _ _); k_dflt (refine' list_str_K ?kh ?k1 ?k2 ?kz ?_; (case kh => rfl); (case k1 => k_asm); (case k2 => k_asm); (case kz => (first | omega | size_fits | (rw [sizeLine_eq]; omega))); k_whole); intro D' l' n' h' tk' e' l1' F' N'; (try k_lt l1'); (try k_sweep)))

section S_P07_0
abbrev lexDef : Stmt := (pw.main.body.drop 21).headD (.Pass default)
abbrev lexBody : List Stmt := match lexDef with
  | .FunctionDef _ _ body _ _ _ _ _ _ _ => body
  | _ => []
abbrev lamE : Expr := match (lexBody.drop 2).headD (.Pass default) with
  | .Assign _ e _ => e
  | _ => .Constant .none 0 default
abbrev lamP : Arguments := match lamE with
  | .Lambda a _ _ _ => a
  | _ => { posonlyargs := [], args := [], vararg := none, kwonlyargs := [], kw_defaults := [], kwarg := none, defaults := [] }
abbrev lamB : Expr := match lamE with
  | .Lambda _ b _ _ => b
  | e => e
abbrev lamS : Scope := match lamE with
  | .Lambda _ _ sc _ => sc
  | _ => { kind := .function, names := [], isGenerator := false, isCoroutine := false }
abbrev lamQ : Str := Str.ofString "_law_lexer" ++ Str.ofString ".<locals>." ++ Str.ofString "<lambda>"
abbrev lamObj (cel : Addr) (pm : Value) (c : Addr) (ctv : Value) : Obj := kla_obj (Str.ofString "<lambda>") lamQ lamP lamB lamS [(Str.ofString "signs", cel)] pm c ctv
structure LexP where
  pb : Nat
  lx : Nat
  dl : Nat
  f : Nat
  c : Nat
  spb : Nat
  st : Nat
  ds : Nat
  sg : Nat
  cel : Nat
  k1 : Tok
  k2 : Tok
  k3 : Tok
  k4 : Tok
  j1 : Tok
  j2 : Tok
  j3 : Tok
  j4 : Tok
  j5 : Tok
  tw : Tok
  t1 : Tok
  tv : Tok
  oc : Obj
  ocel : Obj
  pm : Value
  ctv : Value
abbrev ent (w : World) (x : Str) (k : Tok) (v : Value) : DictEntry := { hash := PyData.keyHash w.params x, key := .str x k, val := v }
abbrev lexD (w : World) (x : LexP) (ln : Int) (tl : Tok) : Obj := dictOf [ent w (Str.ofString "lineno") x.k1 (.int ln tl), ent w (Str.ofString "instream") x.k2 (.ref x.st), ent w (Str.ofString "whitespace") x.k3 (.str (Str.ofString "/") x.tw), ent w (Str.ofString "pushback") x.k4 (.ref x.pb)] 4
abbrev strmD (w : World) (x : LexP) : Obj := dictOf [ent w (Str.ofString "lineno") x.j1 (.int 1 x.t1), ent w (Str.ofString "instream") x.j2 .none, ent w (Str.ofString "whitespace") x.j3 (.str (Str.ofString "\n\t\x0d ") x.tv), ent w (Str.ofString "pushback") x.j4 (.ref x.spb), ent w (Str.ofString "read") x.j5 (.ref x.f)] 5
def lexLed (w : World) (x : LexP) (ln : Int) (tl : Tok) (l : List (Str × Tok)) (n : Nat) : List (Addr × Obj) :=
  [(x.pb, listOf #[] 0), (x.lx, instObj 174 x.dl), (x.dl, lexD w x ln tl), (x.f, lamObj x.cel x.pm x.c x.ctv), (x.c, x.oc), (x.spb, listOf #[] 0), (x.st, instObj 174 x.ds), (x.ds, strmD w x), (x.sg, listOf (strValues l).toArray n), (x.cel, x.ocel)]
structure LexOk (x : LexP) : Prop where
  ocel : x.ocel.data = .cell (some (.ref x.sg))
  oc : ∃ vs t, x.oc.data = .fields vs ∧ vs[1]? = some (.str lamQ t)
  o1 : x.cel < x.sg
  o2 : x.sg < x.ds
  o3 : x.ds < x.st
  o4 : x.st < x.spb
  o5 : x.spb < x.f
  o6 : x.f < x.dl
  o7 : x.dl < x.lx
  o8 : x.lx < x.pb
  c1 : x.c ≠ x.sg
  c2 : x.c ≠ x.dl
theorem news_ins {h₀ h : Heap} {L : Addr} {e : Addr × Obj} : ∀ {l r : List (Addr × Obj)}, e ∈ r → News h₀ L h (l ++ r) → News h₀ L h (l ++ e :: r) := fun {l r} he N q hq => by
  rcases List.mem_append.mp hq with hq | hq
  · exact N q (List.mem_append_left _ hq)
  · rcases List.mem_cons.mp hq with rfl | hq
    · exact N _ (List.mem_append_right _ he)
    · exact N q (List.mem_append_right _ hq)
theorem news_add {h₀ h : Heap} {L : Addr} {e : Addr × Obj} {led : List (Addr × Obj)} (he : e ∈ led) (N : News h₀ L h led) : News h₀ L h (e :: led) := fun q hq => by
  rcases List.mem_cons.mp hq with rfl | hq
  · exact N _ he
  · exact N q hq
theorem hitNews {h₀ h : Heap} {L : Addr} {e a1 a2 a3 a4 : Addr × Obj} {led news : List (Addr × Obj)} (he : e ∈ news) (N : News h₀ L h (a1 :: a2 :: a3 :: a4 :: (led ++ news))) : News h₀ L h (a1 :: a2 :: a3 :: a4 :: e :: (led ++ news)) := fun q hq => by
  simp only [List.mem_cons] at hq
  rcases hq with h | h | h | h | h | h
  · exact N q (by rw [h]; exact .head _)
  · exact N q (by rw [h]; exact .tail _ (.head _))
  · exact N q (by rw [h]; exact .tail _ (.tail _ (.head _)))
  · exact N q (by rw [h]; exact .tail _ (.tail _ (.tail _ (.head _))))
  · exact N q (by rw [h]; exact .tail _ (.tail _ (.tail _ (.tail _ (List.mem_append_right _ he)))))
  · exact N q (.tail _ (.tail _ (.tail _ (.tail _ h))))
section
variable {w : World} {p : Program} {loose : List Str} {mean : ExcName → Option Value} {mg mb : Str → Option Value} {dp un : Nat} {gd : Option (List Code)} {cn : Str} {cs : Scope} {a : Addr} {ccd : Value} {cl : List (Str × Addr)} {outer : List Env} {A₀ : Around} {base h₀ : Heap} {L : Addr} {m : Str → Option Value} {news : List (Addr × Obj)} {s : Shared} {Q E : Value → Shared → Prop}
theorem lexer_first {y : Str} {t : Tok}
    (B : Below A₀ base outer h₀) (F : Fr h₀ L s.heap m) (X : (hd.heap_39 w.params).In h₀) (N : News h₀ L s.heap ((180, tabObj #[]) :: news)) (T : Top p loose mean mg mb h₀) (hk : cs.kind = .function) (C : CodeHd base 184 180)
    (hd : dp + 20 < recursionLimit) (hu : un + 200 < cLine) (hlen : y.length ≤ 100000) (hoff : ∀ q ∈ news, q.1 ≠ 180)
    (hret : ∀ (x : LexP) (l : List (Str × Tok)) (n : Nat) (tl : Tok) (h' : Heap) (tk' : Nat), LexOk x → l.map (·.1) = signs y → 180 < x.cel → AllLt x.cel news → x.cel < x.c → Fr h₀ L h' m → News h₀ L h' (lexLed w x 1 tl l n ++ (180, tabObj #[rawInt 181, rawInt 18, .ref x.c]) :: news) → Q (.ref x.lx) { s with heap := h', toks := tk' }) :
    wpAny (model pw w) (ktrTop dp un gd cn cs L a ccd cl outer) (call (.ref 185) [.str y t]) Q E s := by
  refine wpAny_call ?_
  k_dflt (refine' code_defC ?k1 ?k2 ?k3 ?k4 ?k5 ?kA ?kF ?kK ?k6 ?k7 ?k8 ?k9 ?kB ?kD ?_ ?c2 ?c3 ?c4; (case kA => exact rfl); (case kF => exact rfl); (case kK => assumption); (case k1 => k_asm); (case k2 => k_asm); (case k3 => k_asm); (case k4 => k_asm); (case k5 => k_asm); (case k6 => k_is); (case k7 => k_is); (case k8 => ktr_room); (case k9 => exact BindsTo.of_eq rfl); (case kB => exact rfl); (case kD => decide +kernel); (case c2 => exact rfl); (case c3 => exact rfl); (case c4 => exact rfl); k_whole; intro g' L' h' tk' cells' FG' F' N' Y' B' X' T' l1; (try k_lt l1); k_cells Y'; (try simp only [List.cons_append, List.nil_append] at N'); (try dsimp only); (try k_fold))
  k_steps
  all_goals (k_dflt (refine' hret (LexP.mk _ _ _ _ _ _ _ _ _ _ _ _ _ _ _ _ _ _ _ _ _ _ _ _ _ _) _ _ _ _ _ ?ok ?e ?o1 ?o2 ?o3 ?F ?N; (case N => k_asm); (case F => k_asm)))
  all_goals first
    | assumption
    | (refine ⟨by assumption, ⟨_, _, by assumption, by assumption⟩, ?_, ?_, ?_, ?_, ?_, ?_, ?_, ?_, ?_, ?_⟩ <;> (dsimp only; omega))
    | exact allLt_of (fun q hq => Nat.lt_succ_of_lt (lt_of_all (And.right (by assumption)) q hq))
    | exact allLt_of (fun q hq => Nat.lt_succ_of_lt ((by assumption : ∀ q ∈ news, q.1 < _) q hq))
    | (dsimp only; omega)
theorem lexer_hit {y : Str} {t : Tok} {c : Addr} {oc : Obj} {vs : Array Value} {tq : Tok}
    (B : Below A₀ base outer h₀) (F : Fr h₀ L s.heap m) (X : (hd.heap_39 w.params).In h₀) (N : News h₀ L s.heap (news)) (T : Top p loose mean mg mb h₀) (hk : cs.kind = .function) (C : CodeHd base 184 180)
    (hd : dp + 20 < recursionLimit) (hu : un + 200 < cLine) (hlen : y.length ≤ 100000) (htab : (180, tabObj #[rawInt 181, rawInt 18, .ref c]) ∈ news) (hoc : (c, oc) ∈ news) (d1 : oc.data = .fields vs) (d2 : vs[1]? = some (.str lamQ tq))
    (hret : ∀ (x : LexP) (l : List (Str × Tok)) (n : Nat) (tl : Tok) (h' : Heap) (tk' : Nat), LexOk x → x.c = c → l.map (·.1) = signs y → AllLt x.cel news → Fr h₀ L h' m → News h₀ L h' (lexLed w x 1 tl l n ++ news) → Q (.ref x.lx) { s with heap := h', toks := tk' }) :
    wpAny (model pw w) (ktrTop dp un gd cn cs L a ccd cl outer) (call (.ref 185) [.str y t]) Q E s := by
  refine wpAny_call ?_
  k_dflt (refine' code_defC ?k1 ?k2 ?k3 ?k4 ?k5 ?kA ?kF ?kK ?k6 ?k7 ?k8 ?k9 ?kB ?kD ?_ ?c2 ?c3 ?c4; (case kA => exact rfl); (case kF => exact rfl); (case kK => assumption); (case k1 => k_asm); (case k2 => k_asm); (case k3 => k_asm); (case k4 => k_asm); (case k5 => k_asm); (case k6 => k_is); (case k7 => k_is); (case k8 => ktr_room); (case k9 => exact BindsTo.of_eq rfl); (case kB => exact rfl); (case kD => decide +kernel); (case c2 => exact rfl); (case c3 => exact rfl); (case c4 => exact rfl); k_whole; intro g' L' h' tk' cells' FG' F' N' Y' B' X' T' l1; (try k_lt l1); k_cells Y'; (try simp only [List.cons_append, List.nil_append] at N'); (try dsimp only); (try k_fold))
  have hcl : @LT.lt Nat _ c L' := l1 (c, oc) hoc
  k_steps
  all_goals (k_dflt (refine' hret (LexP.mk _ _ _ _ c _ _ _ _ _ _ _ _ _ _ _ _ _ _ _ _ _ oc _ _ _) _ _ _ _ _ ?ok ?ec ?e ?o2 ?F ?N; (case ec => exact rfl); (case N => exact hitNews hoc (by k_asm)); (case F => k_asm)))
  all_goals first
    | assumption
    | (refine ⟨by assumption, ⟨_, _, by assumption, by assumption⟩, ?_, ?_, ?_, ?_, ?_, ?_, ?_, ?_, ?_, ?_⟩ <;> (dsimp only; omega))
    | exact allLt_of (fun q hq => Nat.lt_succ_of_lt (lt_of_all (And.right (by assumption)) q hq))
    | exact allLt_of (fun q hq => Nat.lt_succ_of_lt ((by assumption : ∀ q ∈ news, q.1 < _) q hq))
    | (dsimp only; omega)
end

end S_P07_0
section S_P08_0
theorem strValues_cons (c : Str) (t : Tok) (r : List (Str × Tok)) : strValues ((c, t) :: r) = .str c t :: strValues r := rfl
theorem strValues_nil : strValues [] = [] := rfl
theorem strValues_length (l : List (Str × Tok)) : (strValues l).length = l.length := by simp [strValues]
section
variable {prog : Program} {w : World} {A : Around} {E : Value → Shared → Prop} {s : Shared} {h₀ : Heap} {L D : Addr} {news : List (Addr × Obj)} {n : Nat} {Q : Bool → Shared → Prop}
theorem truthy_nil (N : News h₀ L s.heap news) (hm : (D, listOf (List.toArray []) n) ∈ news) (h : Q false { s with toks := s.toks + 1 + 1 }) : wpAny (model prog w) A (truthy (.ref D)) Q E s :=
  wpAny_truthy_list ⟨_, N.get hm, rfl, n, rfl⟩ (by simp) (by simpa using h)
theorem truthy_cons {v : Value} {vs : List Value} (N : News h₀ L s.heap news) (hm : (D, listOf (v :: vs).toArray n) ∈ news) (hz : vs.length ≤ 10000000) (h : Q true { s with toks := s.toks + 1 + 1 }) : wpAny (model prog w) A (truthy (.ref D)) Q E s :=
  wpAny_truthy_list ⟨_, N.get hm, rfl, n, rfl⟩ (by simp only [List.size_toArray, List.length_cons]; omega) (by simpa using h)
end
section
variable {prog : Program} {w : World} {A : Around} {E : Value → Shared → Prop} {s : Shared} {h₀ : Heap} {L D : Addr} {m : Str → Option Value} {news news' : List (Addr × Obj)} {n : Nat} {Q : Value → Shared → Prop}
theorem pop0_K {v : Value} {vs : List Value} {u : Tok} (F : Fr h₀ L s.heap m) (N : News h₀ L s.heap news) (U : Upd D (listOf (v :: vs).toArray n) (listOf vs.toArray (n + 1)) news news') (hz : vs.length ≤ 10000000)
    (h : ∀ h', Fr h₀ L h' m → News h₀ L h' news' → Q v { s with heap := h' }) : wpAny (model prog w) A (call (.builtin "list.pop") [.ref D, .int 0 u]) Q E s := by
  refine kl_popAt (k := 0) (p := []) (q := vs) F N (by decide) ?_ rfl U ?_ h
  · simp [seqIndex?]
  · rw [sizeLine_eq]; simp only [List.length_cons]; omega
end

end S_P08_0
local macro_rules | `(tactic| walk_at "call builtin:list.pop") => `(tactic| (k_here; (with_reducible show wpAny _ _ (call (Value.builtin "list.pop") [Value.ref _, Value.int 0 _]) _ _ _); k_dflt (refine' pop0_K ?F ?N ?U ?z ?_; (case F => k_asm); (case N => k_asm); (case U => k_upd); (case z => (first | omega | (simp only [strValues_length]; omega)))); kl_rest))
local macro_rules | `(tactic| walk_at "truthy ref") => `(tactic| (k_here; (with_reducible show wpAny _ _ (truthy (Value.ref _)) _ _ _); k_dflt (first | (refine' truthy_nil ?k1 ?k2 ?_; (case k1 => k_asm); (case k2 => k_mem); k_whole) | (refine' truthy_cons ?k1 ?k2 ?k3 ?_; (case k1 => k_asm); (case k2 => k_mem); (case k3 => (first | omega | (simp only [strValues_length]; omega))); k_whole))))

section S_P08_2
def lnNext (c : Str) (ln : Int) : Int := if (c == Str.ofString "\n") = true then ln + 1 else ln
section
variable {w : World} {p : Program} {loose : List Str} {mean : ExcName → Option Value} {mg mb : Str → Option Value} {dp un : Nat} {gd : Option (List Code)} {cn : Str} {cs : Scope} {a : Addr} {ccd : Value} {cl : List (Str × Addr)} {outer : List Env} {A₀ : Around} {base h₀ : Heap} {L : Addr} {m : Str → Option Value} {news : List (Addr × Obj)} {s : Shared} {Q E : Value → Shared → Prop}
theorem read_nil {R : Result → Shared → Prop} {x : LexP} {ln : Int} {tl : Tok} {n : Nat}
    (B : Below A₀ base outer h₀) (F : Fr h₀ L s.heap m) (X : (hd.heap_39 w.params).In h₀) (N : News h₀ L s.heap (lexLed w x ln tl [] n ++ news)) (T : Top p loose mean mg mb h₀) (hk : cs.kind = .function) (C : CodeHd base 184 180)
    (hd : dp + 20 < recursionLimit) (hu : un + 200 < cLine) (ok : LexOk x) (hs : ∀ q ∈ news, q.1 ≠ x.sg) (hl : ∀ q ∈ news, q.1 ≠ x.dl)
    (hret : ∀ t h' tk', Fr h₀ L h' m → News h₀ L h' (lexLed w x ln tl [] n ++ news) → R (.ok (.ret (.str (Str.ofString "") t))) { s with heap := h', toks := tk' }) :
    codeAny (model pw w) (ktrTop dp un gd cn cs L a ccd cl outer) (.call (.ref 157) ⟨[.ref x.lx], []⟩) R s := by
  obtain ⟨hcel, ⟨vs, tq, d1, d2⟩, o1, o2, o3, o4, o5, o6, o7, o8, c1, c2⟩ := ok
  simp only [lexLed, List.cons_append, List.nil_append, strValues_nil] at N hret
  k_dflt ktr_enter
  k_steps
  show wpAny _ _ (eval (Expr.IfExp _ _ _ _) (envX _ _ _ _ _ _)) _ _ _
  k_steps
  all_goals exact hret _ _ _ (by k_asm) (by k_asm)
theorem read_cons {R : Result → Shared → Prop} {x : LexP} {ln : Int} {tl : Tok} {n : Nat} {c : Str} {t : Tok} {r : List (Str × Tok)}
    (B : Below A₀ base outer h₀) (F : Fr h₀ L s.heap m) (X : (hd.heap_39 w.params).In h₀) (N : News h₀ L s.heap (lexLed w x ln tl ((c, t) :: r) n ++ news)) (T : Top p loose mean mg mb h₀) (hk : cs.kind = .function) (C : CodeHd base 184 180)
    (hd : dp + 20 < recursionLimit) (hu : un + 200 < cLine) (ok : LexOk x) (hs : ∀ q ∈ news, q.1 ≠ x.sg) (hl : ∀ q ∈ news, q.1 ≠ x.dl) (hr : r.length ≤ 1000000)
    (hret : ∀ tl' h' tk', Fr h₀ L h' m → News h₀ L h' (lexLed w x (lnNext c ln) tl' r (n + 1) ++ news) → R (.ok (.ret (.str c t))) { s with heap := h', toks := tk' }) :
    codeAny (model pw w) (ktrTop dp un gd cn cs L a ccd cl outer) (.call (.ref 157) ⟨[.ref x.lx], []⟩) R s := by
  obtain ⟨hcel, ⟨vs, tq, d1, d2⟩, o1, o2, o3, o4, o5, o6, o7, o8, c1, c2⟩ := ok
  simp only [lexLed, List.cons_append, List.nil_append, strValues_cons] at N hret
  k_dflt ktr_enter
  k_steps
  show wpAny _ _ (eval (Expr.IfExp _ _ _ _) (envX _ _ _ _ _ _)) _ _ _
  k_steps
  all_goals (simp only [lnNext, *, if_true, if_false, Bool.false_eq_true] at hret)
  all_goals exact hret _ _ _ (by k_asm) (by k_asm)
end

end S_P08_2
section S_P09_0
abbrev citObj (bm : Nat) (t : Tok) : Obj := { cls := .type "callable_iterator", data := .fields #[.ref bm, .str (Str.ofString "") t, .bool false] }
abbrev citEnd : Obj := { cls := .type "callable_iterator", data := .fields #[.none, .none, .bool true] }
theorem slot_cit_next : Slot "callable_iterator" "__next__" "callable_iterator.__next__" :=
  .of (owner := "callable_iterator") (n := "__next__") (by rw [typeLookup_type, builtinLookup_eq_fast]; kernel_rfl) (by decide +kernel) (by decide +kernel) (by decide +kernel)
    (by first | exact .inl (by decide +kernel) | exact .inr (by decide +kernel)) (by rw [isSubtype_type]; kernel_rfl)
theorem slot_cit_iter : Slot "callable_iterator" "__iter__" "callable_iterator.__iter__" :=
  .of (owner := "callable_iterator") (n := "__iter__") (by rw [typeLookup_type, builtinLookup_eq_fast]; kernel_rfl) (by decide +kernel) (by decide +kernel) (by decide +kernel)
    (by first | exact .inl (by decide +kernel) | exact .inr (by decide +kernel)) (by rw [isSubtype_type]; kernel_rfl)
theorem entry_cit_next : entryFor table "callable_iterator.__next__" = some Builtin.«callable_iterator.__next__» := entryFor_of_fast (by kernel_rfl)
theorem entry_cit_iter : entryFor table "callable_iterator.__iter__" = some Builtin.«dict_keyiterator.__iter__» :=
  entryFor_alias (id' := "dict_keyiterator.__iter__") (by kernel_rfl) rfl (by decide +kernel) (by kernel_rfl)
theorem args_cit_next (a : Value) : argsOk "callable_iterator.__next__" ⟨[a], []⟩ := by unfold argsOk; kernel_rfl
theorem args_cit_iter (a : Value) : argsOk "callable_iterator.__iter__" ⟨[a], []⟩ := by unfold argsOk; kernel_rfl
theorem kind_iter : builtinKind "iter" = none := by decide +kernel
theorem plain_iter : plainId "iter" = true := by decide +kernel
theorem entry_iter : entryFor table "iter" = some Builtin.«iter» := entryFor_of_tree (by kernel_rfl)
theorem args_iter_2 (a b : Value) : argsOk "iter" ⟨[a, b], []⟩ := by unfold argsOk; kernel_rfl
theorem meth_call : typeLookup (.type "method") "__call__" = pure (some (.builtin "method.__call__")) := by rw [typeLookup_type, builtinLookup_eq_fast]; kernel_rfl
section
variable {prog : Program} {w : World} {A : Around} {E : Value → Shared → Prop} {s : Shared} {h₀ : Heap} {L : Addr} {m : Str → Option Value} {news : List (Addr × Obj)}
theorem iter2_meets {bm : Nat} {f self : Value} {t : Tok} : Meets (Builtin.«iter» ⟨[.ref bm, .str (Str.ofString "") t], []⟩) (fun _ R s => s.heap.get? bm = some (methodObj f self) ∧ R (.ok (.ret (.ref s.heap.objs.size))) { s with heap := s.heap.push (citObj bm t) }) := by
  intro prog w A R s hs
  obtain ⟨hb, hr⟩ := hs
  have hT : s.TypeIs (.ref bm) "method" := ⟨_, hb, rfl⟩
  unfold Builtin.«iter»
  refine wpAny_bind (wpAny_of_eq (a := [.ref bm, .str (Str.ofString "") t]) (by rfl) ?_)
  refine wpAny_bind (wpAny_specialOf hT meth_call ?_)
  simp only [Option.isNone_some, Bool.false_eq_true, if_false]
  refine wpAny_bind (wpAny_rule (wpAny_bind ?_))
  exact wpAny_newObj_type (wpAny_pure hr)
theorem iter2_K {bm : Nat} {f self : Value} {t : Tok} {Q : Value → Shared → Prop} (F : Fr h₀ L s.heap m) (N : News h₀ L s.heap news) (hm : (bm, methodObj f self) ∈ news)
    (h : ∀ I h', Fr h₀ L h' m → News h₀ L h' ((I, citObj bm t) :: news) → (∀ q ∈ news, q.1 < I) → Q (.ref I) { s with heap := h' }) :
    wpAny (model prog w) A (call (.builtin "iter") [.ref bm, .str (Str.ofString "") t]) Q E s :=
  call_function_meets kind_iter plain_iter entry_iter (args_iter_2 _ _) (iter2_meets (f := f) (self := self)) ⟨N.get hm, h _ _ (F.push _) (N.push F _) fun q hq => Heap.lt_size (N q hq).1⟩
theorem pyIter_cit {I : Nat} {o : Obj} {Q : Value → Shared → Prop} (ho : s.heap.get? I = some o) (hc : o.cls = .type "callable_iterator") (h : Q (.ref I) s) : wpAny (model prog w) A (pyIter (.ref I)) Q E s := by
  have hT : s.TypeIs (.ref I) "callable_iterator" := ⟨o, ho, hc⟩
  refine wpAny_pyIter_slot hT slot_cit_iter (wpAny_call_entry slot_cit_iter hT entry_cit_iter ?_ (args_cit_iter _))
  show wpAny _ _ (ret (.ref I)) _ _ s
  exact wpAny_pure ⟨_, rfl, "callable_iterator", _, hT, slot_cit_next.lookup, h⟩
theorem wpAny_callBorrowed {f : Value} {Q : Value → Shared → Prop} (h : codeAny (model prog w) A (.call f ⟨[], []⟩) (fun r s' => match r with | .ok (.ret v) => Q v s' | .ok _ => False | .error e => E e s') s) :
    wpAny (model prog w) A (callBorrowed f []) Q E s := by
  intro Γ p hΓ
  show Sem.wp _ Γ (.call (.call f ⟨[], []⟩) none false [borrowed] _) _ _ p s
  rw [Sem.wp_call]
  refine wpCode_mono ?_ (h _ p rfl (hΓ.enter (.call f ⟨[], []⟩) none p (by intro e; cases e)))
  intro r s' hr
  cases r with
  | error e => exact hr
  | ok fl => cases fl <;> exact hr
theorem borrows_meth {bm : Nat} {f : Nat} {self : Value} {fd : FuncData} {of : Obj} {Q : Bool → Shared → Prop} (hb : s.heap.get? bm = some (methodObj (.ref f) self)) (hf : s.heap.get? f = some of) (hd : of.data = .func fd) (h : Q true s) :
    wpAny (model prog w) A (borrowsExactly (.ref bm)) Q E s := by
  unfold borrowsExactly
  refine wpAny_bind (wpAny_load hb ?_)
  dsimp only
  rw [if_pos (beq_self_eq_true _)]
  refine wpAny_bind (wpAny_load hf ?_)
  rw [hd]
  exact wpAny_pure h
theorem pyNext_cit_item {I bm f : Nat} {t : Tok} {self : Value} {fd : FuncData} {of : Obj} {Q : Option Value → Shared → Prop} (hI : s.heap.get? I = some (citObj bm t)) (hb : s.heap.get? bm = some (methodObj (.ref f) self)) (hf : s.heap.get? f = some of) (hd : of.data = .func fd)
    (hc : codeAny (model prog w) A.in1 (.call (.ref f) ⟨[self], []⟩) (fun r s₁ => match r with | .ok (.ret v) => ∃ c tc, v = .str c tc ∧ (Str.ofString "" == c) = false ∧ s₁.heap.get? I = some (citObj bm t) ∧ Q (some v) s₁ | _ => False) s) :
    wpAny (model prog w) A (pyNext (.ref I)) Q E s := by
  have hT : s.TypeIs (.ref I) "callable_iterator" := ⟨_, hI, rfl⟩
  unfold pyNext
  refine wpAny_bind (wpAny_attempt (wpAny_callSpecial?_slot (name := Str.ofString "__next__") hT slot_cit_next (wpAny_call_entry slot_cit_next hT entry_cit_next ?_ (args_cit_next _))))
  show wpAny _ _ (field (.ref I) 2 >>= _) _ _ s
  refine wpAny_bind (wpAny_field hI rfl (x := .bool false) rfl ?_)
  rw [if_neg (show ¬ ((Value.bool false == Value.bool true) = true) from Bool.false_ne_true)]
  show wpAny _ _ (field (.ref I) 0 >>= _) _ _ s
  refine wpAny_bind (wpAny_field hI rfl (x := .ref bm) rfl ?_)
  refine wpAny_bind (wpAny_attempt ?_)
  unfold callOutOfASlot
  refine wpAny_bind (borrows_meth hb hf hd ?_)
  rw [if_pos rfl]
  refine wpAny_callBorrowed (method_call hb (codeAny_mono hc ?_))
  rintro r s₁ hr
  cases r with
  | error e => exact hr.elim
  | ok fl =>
    cases fl with
    | ret v =>
      obtain ⟨c, tc, rfl, hne, hI₁, hQ⟩ := hr
      dsimp only
      refine wpAny_bind (wpAny_field hI₁ rfl (x := .bool false) rfl ?_)
      rw [if_neg (show ¬ ((Value.bool false == Value.bool true) = true) from Bool.false_ne_true)]
      refine wpAny_bind (wpAny_field hI₁ rfl (x := .str (Str.ofString "") t) rfl ?_)
      refine wpAny_bind (wpAny_holding (eqBool_str ?_))
      rw [hne]
      exact wpAny_pure ⟨_, rfl, wpAny_pure hQ⟩
    | _ => exact hr.elim
theorem stop_out {X : Type} {P : X → Shared → Prop} {E' : Value → Shared → Prop} (hh : A.handled = none)
    (hQ : ∀ h' e o, h'.get? e = some o → o.cls = .type "StopIteration" → (∀ b o, s.heap.get? b = some o → h'.get? b = some o) → E' (.ref e) { s with heap := h' }) :
    wpAny (model prog w) A (Builtin.SmallTypes.stopIteration : Sem X) P E' s := by
  show wpAny _ _ (newExc (.type "StopIteration") [] >>= fun e => raiseNew e) _ _ _
  refine wpAny_bind ?_
  simp only [newExc, newTuple]
  refine wpAny_bind (wpAny_newObj_type ?_ (by size_fits))
  refine wpAny_bind (m := firstArgMember _ _) (wpAny_of_eq (a := Value.none) (by first | rfl | (simp only [firstArgMember]; rfl)) ?_)
  refine wpAny_newObj_type ?_ (by size_fits)
  simp only [raiseNew]
  refine wpAny_bind (wpAny_handled ?_)
  rw [hh]
  refine wpAny_bind (wpAny_pure (wpAny_throw ?_))
  exact hQ _ _ _ (Heap.get?_push_size _ rfl) rfl fun b o e => Heap.get?_push_of_some _ (Heap.get?_push_of_some _ e)
theorem pyNext_cit_ended {I : Nat} {Q : Option Value → Shared → Prop} (hh : A.handled = none) (hI : s.heap.get? I = some citEnd)
    (hQ : ∀ h', (∀ b o, s.heap.get? b = some o → h'.get? b = some o) → Q none { s with heap := h' }) : wpAny (model prog w) A (pyNext (.ref I)) Q E s := by
  have hT : s.TypeIs (.ref I) "callable_iterator" := ⟨_, hI, rfl⟩
  unfold pyNext
  refine wpAny_bind (wpAny_attempt (wpAny_callSpecial?_slot (name := Str.ofString "__next__") hT slot_cit_next (wpAny_call_entry slot_cit_next hT entry_cit_next ?_ (args_cit_next _))))
  show wpAny _ _ (field (.ref I) 2 >>= _) _ _ s
  refine wpAny_bind (wpAny_field hI rfl (x := .bool true) rfl ?_)
  rw [if_pos (show (Value.bool true == Value.bool true) = true from beq_self_eq_true _)]
  refine wpAny_bind (wpAny_rule ?_)
  refine wpAny_bind (stop_out hh fun h' e o he hc hk => ?_)
  refine wpAny_bind (wpAny_isInstance (T := "StopIteration") (b := true) ⟨o, he, hc⟩ isSubtype_stop ?_)
  exact wpAny_pure (hQ h' hk)
theorem pyNext_cit_end {I bm f : Nat} {t : Tok} {self : Value} {fd : FuncData} {of : Obj} {Q : Option Value → Shared → Prop} (hh : A.handled = none) (hI : s.heap.get? I = some (citObj bm t)) (hb : s.heap.get? bm = some (methodObj (.ref f) self)) (hf : s.heap.get? f = some of) (hd : of.data = .func fd)
    (hc : codeAny (model prog w) A.in1 (.call (.ref f) ⟨[self], []⟩) (fun r s₁ => match r with | .ok (.ret v) => ∃ tc, v = .str (Str.ofString "") tc ∧ s₁.heap.get? I = some (citObj bm t) ∧ s₁.heap.get? bm = some (methodObj (.ref f) self) ∧ s₁.heap.get? f = some of ∧ (∀ h', h'.get? I = some citEnd → (∀ b o, b ≠ I → s₁.heap.get? b = some o → h'.get? b = some o) → Q none { s₁ with heap := h' }) | _ => False) s) :
    wpAny (model prog w) A (pyNext (.ref I)) Q E s := by
  have hT : s.TypeIs (.ref I) "callable_iterator" := ⟨_, hI, rfl⟩
  unfold pyNext
  refine wpAny_bind (wpAny_attempt (wpAny_callSpecial?_slot (name := Str.ofString "__next__") hT slot_cit_next (wpAny_call_entry slot_cit_next hT entry_cit_next ?_ (args_cit_next _))))
  show wpAny _ _ (field (.ref I) 2 >>= _) _ _ s
  refine wpAny_bind (wpAny_field hI rfl (x := .bool false) rfl ?_)
  rw [if_neg (show ¬ ((Value.bool false == Value.bool true) = true) from Bool.false_ne_true)]
  show wpAny _ _ (field (.ref I) 0 >>= _) _ _ s
  refine wpAny_bind (wpAny_field hI rfl (x := .ref bm) rfl ?_)
  refine wpAny_bind (wpAny_attempt ?_)
  unfold callOutOfASlot
  refine wpAny_bind (borrows_meth hb hf hd ?_)
  rw [if_pos rfl]
  refine wpAny_callBorrowed (method_call hb (codeAny_mono hc ?_))
  rintro r s₁ hr
  cases r with
  | error e => exact hr.elim
  | ok fl =>
    cases fl with
    | ret v =>
      obtain ⟨tc, rfl, hI₁, hb₁, hf₁, hQ⟩ := hr
      dsimp only
      refine wpAny_bind (wpAny_field hI₁ rfl (x := .bool false) rfl ?_)
      rw [if_neg (show ¬ ((Value.bool false == Value.bool true) = true) from Bool.false_ne_true)]
      refine wpAny_bind (wpAny_field hI₁ rfl (x := .str (Str.ofString "") t) rfl ?_)
      refine wpAny_bind (wpAny_holding (eqBool_str ?_))
      rw [beq_self_eq_true]
      refine wpAny_bind (wpAny_rule ?_)
      show wpAny _ _ ((field (.ref I) 0 >>= fun old => slotLetsGo _ old _ >>= fun _ => setField (.ref I) 0 .none >>= fun _ => setField (.ref I) 1 .none >>= fun _ => setField (.ref I) 2 (.bool true)) >>= _) _ _ s₁
      refine wpAny_bind (wpAny_bind (wpAny_field hI₁ rfl (x := .ref bm) rfl ?_))
      unfold slotLetsGo
      refine wpAny_bind (wpAny_bind (borrows_meth hb₁ hf₁ hd ?_))
      rw [if_pos rfl]
      refine wpAny_pure ?_
      refine wpAny_bind (wpAny_setField hI₁ rfl (by simp) ?_)
      have hI₂ : (s₁.heap.update I (Obj.mapFields (·.setIfInBounds 0 .none))).get? I = some { cls := .type "callable_iterator", data := .fields #[.none, .str (Str.ofString "") t, .bool false] } := by
        rw [Heap.get?_update_self _ hI₁ rfl]; rfl
      refine wpAny_bind (wpAny_setField hI₂ rfl (by simp) ?_)
      have hI₃ : ((s₁.heap.update I (Obj.mapFields (·.setIfInBounds 0 .none))).update I (Obj.mapFields (·.setIfInBounds 1 .none))).get? I = some { cls := .type "callable_iterator", data := .fields #[.none, .none, .bool false] } := by
        rw [Heap.get?_update_self _ hI₂ rfl]; rfl
      refine wpAny_setField hI₃ rfl (by simp) ?_
      have hI₄ : (((s₁.heap.update I (Obj.mapFields (·.setIfInBounds 0 .none))).update I (Obj.mapFields (·.setIfInBounds 1 .none))).update I (Obj.mapFields (·.setIfInBounds 2 (.bool true)))).get? I = some citEnd := by
        rw [Heap.get?_update_self _ hI₃ rfl]; rfl
      refine stop_out hh fun h' e o he hc hk => ?_
      refine wpAny_bind (wpAny_isInstance (T := "StopIteration") (b := true) ⟨o, he, hc⟩ isSubtype_stop ?_)
      refine wpAny_pure (hQ h' (hk _ _ hI₄) fun b o hb e => hk _ _ ?_)
      rw [Heap.get?_update_other _ _ (Ne.symm hb), Heap.get?_update_other _ _ (Ne.symm hb), Heap.get?_update_other _ _ (Ne.symm hb)]
      exact e
    | _ => exact hr.elim
end

end S_P09_0
local macro_rules | `(tactic| walk_at "call builtin:iter") => `(tactic| (k_here; (with_reducible show wpAny _ _ (call (Value.builtin "iter") [Value.ref _, Value.str _ _]) _ _ _); k_dflt (refine' iter2_K ?F ?N ?m ?_; (case F => k_asm); (case N => k_asm); (case m => k_mem); k_whole); intro I' h' F' N' l1'; (try k_lt l1'); (try k_sweep)))

section S_P10_2
abbrev gtLed (w : World) (x : LexP) (I bm : Nat) (oI : Obj) (ln : Int) (tl : Tok) (l : List (Str × Tok)) (n : Nat) (news : List (Addr × Obj)) : List (Addr × Obj) := lexLed w x ln tl l n ++ (I, oI) :: (bm, methodObj (.ref 157) (.ref x.lx)) :: news
section
variable {w : World} {p : Program} {loose : List Str} {mean : ExcName → Option Value} {mg mb : Str → Option Value} {dp un : Nat} {gd : Option (List Code)} {cn : Str} {cs : Scope} {a : Addr} {ccd : Value} {cl : List (Str × Addr)} {outer : List Env} {A₀ : Around} {base h₀ : Heap} {L : Addr} {m : Str → Option Value} {news : List (Addr × Obj)} {s : Shared} {Q E : Value → Shared → Prop}
variable {QN : Option Value → Shared → Prop}
theorem fn157 (X : (hd.heap_39 w.params).In h₀) : ∃ of fd, h₀.get? 157 = some of ∧ of.data = .func fd := by
  have z : ∃ o, (hd.heap_39 w.params).lookup 157 = some o ∧ ∃ fd, o.data = .func fd := ⟨_, by k_is, _, rfl⟩
  obtain ⟨o, h1, fd, h2⟩ := z
  exact ⟨o, fd, X _ _ h1, h2⟩
theorem cit_cons {x : LexP} {ln : Int} {tl : Tok} {n : Nat} {c : Str} {t t0 : Tok} {r : List (Str × Tok)} {I bm : Nat}
    (B : Below A₀ base outer h₀) (F : Fr h₀ L s.heap m) (X : (hd.heap_39 w.params).In h₀) (N : News h₀ L s.heap (gtLed w x I bm (citObj bm t0) ln tl ((c, t) :: r) n news)) (T : Top p loose mean mg mb h₀) (hk : cs.kind = .function) (C : CodeHd base 184 180)
    (hd : dp + 20 < recursionLimit) (hu : un + 400 < cLine) (ok : LexOk x) (i1 : x.pb < bm) (i2 : bm < I) (hc : x.c < bm) (hs : ∀ q ∈ news, q.1 ≠ x.sg) (hl : ∀ q ∈ news, q.1 ≠ x.dl) (hI : ∀ q ∈ news, q.1 ≠ I) (hr : r.length ≤ 1000000) (hne : (Str.ofString "" == c) = false)
    (hret : ∀ tl' h' tk', Fr h₀ L h' m → News h₀ L h' (gtLed w x I bm (citObj bm t0) (lnNext c ln) tl' r (n + 1) news) → QN (some (.str c t)) { s with heap := h', toks := tk' }) :
    wpAny (model pw w) (ktrTop dp un gd cn cs L a ccd cl outer) (pyNext (.ref I)) QN E s := by
  obtain ⟨of, fd, hf, hfd⟩ := fn157 X
  have hs' : ∀ q ∈ (I, citObj bm t0) :: (bm, methodObj (.ref 157) (.ref x.lx)) :: news, q.1 ≠ x.sg := by
    have := ok.o2; have := ok.o3; have := ok.o4; have := ok.o5; have := ok.o6; have := ok.o7; have := ok.o8
    refine List.forall_mem_cons.mpr ⟨?_, List.forall_mem_cons.mpr ⟨?_, hs⟩⟩ <;> (refine neN ?_; dsimp only; omega)
  have hl' : ∀ q ∈ (I, citObj bm t0) :: (bm, methodObj (.ref 157) (.ref x.lx)) :: news, q.1 ≠ x.dl := by
    have := ok.o7; have := ok.o8
    refine List.forall_mem_cons.mpr ⟨?_, List.forall_mem_cons.mpr ⟨?_, hl⟩⟩ <;> (refine neN ?_; dsimp only; omega)
  refine pyNext_cit_item (t := t0) (self := .ref x.lx) (N.get (List.mem_append_right _ (.head _))) (N.get (List.mem_append_right _ (.tail _ (.head _)))) (F.keep _ _ hf) hfd ?_
  refine read_cons (un := un + 1) B F X N T hk C (by omega) (by omega) ok hs' hl' hr ?_
  intro tl' h' tk' F' N'
  exact ⟨c, t, rfl, hne, N'.get (List.mem_append_right _ (.head _)), hret tl' h' tk' F' N'⟩
theorem cit_nil {x : LexP} {ln : Int} {tl : Tok} {n : Nat} {t0 : Tok} {I bm : Nat}
    (B : Below A₀ base outer h₀) (F : Fr h₀ L s.heap m) (X : (hd.heap_39 w.params).In h₀) (N : News h₀ L s.heap (gtLed w x I bm (citObj bm t0) ln tl [] n news)) (T : Top p loose mean mg mb h₀) (hk : cs.kind = .function) (C : CodeHd base 184 180)
    (hd : dp + 20 < recursionLimit) (hu : un + 400 < cLine) (ok : LexOk x) (i1 : x.pb < bm) (i2 : bm < I) (hc : x.c < bm) (hs : ∀ q ∈ news, q.1 ≠ x.sg) (hl : ∀ q ∈ news, q.1 ≠ x.dl) (hI : ∀ q ∈ news, q.1 ≠ I)
    (hret : ∀ h' tk', Fr h₀ L h' m → News h₀ L h' (gtLed w x I bm citEnd ln tl [] n news) → QN none { s with heap := h', toks := tk' }) :
    wpAny (model pw w) (ktrTop dp un gd cn cs L a ccd cl outer) (pyNext (.ref I)) QN E s := by
  obtain ⟨of, fd, hf, hfd⟩ := fn157 X
  have hs' : ∀ q ∈ (I, citObj bm t0) :: (bm, methodObj (.ref 157) (.ref x.lx)) :: news, q.1 ≠ x.sg := by
    have := ok.o2; have := ok.o3; have := ok.o4; have := ok.o5; have := ok.o6; have := ok.o7; have := ok.o8
    refine List.forall_mem_cons.mpr ⟨?_, List.forall_mem_cons.mpr ⟨?_, hs⟩⟩ <;> (refine neN ?_; dsimp only; omega)
  have hl' : ∀ q ∈ (I, citObj bm t0) :: (bm, methodObj (.ref 157) (.ref x.lx)) :: news, q.1 ≠ x.dl := by
    have := ok.o7; have := ok.o8
    refine List.forall_mem_cons.mpr ⟨?_, List.forall_mem_cons.mpr ⟨?_, hl⟩⟩ <;> (refine neN ?_; dsimp only; omega)
  refine pyNext_cit_end (t := t0) (self := .ref x.lx) rfl (N.get (List.mem_append_right _ (.head _))) (N.get (List.mem_append_right _ (.tail _ (.head _)))) (F.keep _ _ hf) hfd ?_
  refine read_nil (un := un + 1) B F X N T hk C (by omega) (by omega) ok hs' hl' ?_
  intro t h' tk' F' N'
  refine ⟨t, rfl, N'.get (List.mem_append_right _ (.head _)), N'.get (List.mem_append_right _ (.tail _ (.head _))), F'.keep _ _ hf, fun h'' hE hk' => ?_⟩
  have nI := (N' _ (List.mem_append_right _ (.head _))).2
  refine hret h'' tk' ⟨F'.ns.at' fun o e => hk' _ o (Ne.symm nI.1) e, fun b o e => hk' b o (fun q => ?_) (F'.keep b o e), F'.above⟩ ?_
  · rw [q, nI.2] at e; cases e
  · intro q hq
    rcases List.mem_append.mp hq with hq | hq
    · refine ⟨hk' _ _ ?_ (N' q (List.mem_append_left _ hq)).1, (N' q (List.mem_append_left _ hq)).2⟩
      have := ok.o1; have := ok.o2; have := ok.o3; have := ok.o4; have := ok.o5; have := ok.o6; have := ok.o7; have := ok.o8
      simp only [lexLed, List.mem_cons, List.not_mem_nil, or_false] at hq
      rcases hq with rfl | rfl | rfl | rfl | rfl | rfl | rfl | rfl | rfl | rfl <;> (refine neN ?_; dsimp only; omega)
    · rcases List.mem_cons.mp hq with rfl | hq
      · exact ⟨hE, nI⟩
      · rcases List.mem_cons.mp hq with rfl | hq
        · exact ⟨hk' _ _ (by refine neN ?_; dsimp only; omega) (N' _ (List.mem_append_right _ (.tail _ (.head _)))).1, (N' _ (List.mem_append_right _ (.tail _ (.head _)))).2⟩
        · exact ⟨hk' _ _ (hI q hq) (N' _ (List.mem_append_right _ (.tail _ (.tail _ hq)))).1, (N' _ (List.mem_append_right _ (.tail _ (.tail _ hq)))).2⟩
end

end S_P10_2
section S_P11_0
theorem fr_cast {h₀ h : Heap} {L : Addr} {m m' : Str → Option Value} (F : Fr h₀ L h m) (e : ∀ y, m y = m' y) : Fr h₀ L h m' := by
  have : m = m' := funext e
  rw [← this]; exact F
def gm (lx I : Nat) (chv : Option Value) (acc : Str) (ta : Tok) : Str → Option Value := fun y => if y = Str.ofString "ch" then chv else if y = Str.ofString "token" then some (.str acc ta) else if y = Str.ofString "fiter" then some (.ref I) else if y = Str.ofString "self" then some (.ref lx) else none
def Live (w : World) (h₀ : Heap) (L : Addr) (x : LexP) (I bm : Nat) (t0 : Tok) (news : List (Addr × Obj)) (h : Heap) (l : List (Str × Tok)) (ln : Int) (acc : Str) : Prop :=
  ∃ n tl ta chv, Fr h₀ L h (gm x.lx I chv acc ta) ∧ News h₀ L h (gtLed w x I bm (citObj bm t0) ln tl l n news)
def Dead (w : World) (h₀ : Heap) (L : Addr) (x : LexP) (I bm : Nat) (news : List (Addr × Obj)) (h : Heap) (ln : Int) (acc : Str) : Prop :=
  ∃ n tl ta chv, Fr h₀ L h (gm x.lx I chv acc ta) ∧ News h₀ L h (gtLed w x I bm citEnd ln tl [] n news)
def GoodL (l : List (Str × Tok)) : Prop := l.length ≤ 1000000 ∧ ∀ q ∈ l, q.1.length = 1
theorem GoodL.ne {l : List (Str × Tok)} (h : GoodL l) {c : Str} {t : Tok} (hq : (c, t) ∈ l) : (Str.ofString "" == c) = false := by
  have := h.2 _ hq
  refine beq_eq_false_iff_ne.mpr fun e => ?_
  subst e
  exact absurd this (show ¬ (Str.ofString "").length = 1 by decide +kernel)
theorem GoodL.tail {c : Str × Tok} {r : List (Str × Tok)} (h : GoodL (c :: r)) : GoodL r := ⟨by have := h.1; simp only [List.length_cons] at this; omega, fun q hq => h.2 q (.tail _ hq)⟩
section
variable {w : World} {p : Program} {loose : List Str} {mean : ExcName → Option Value} {mg mb : Str → Option Value} {dp un : Nat} {gd : Option (List Code)} {cn : Str} {cs : Scope} {a : Addr} {ccd : Value} {cl : List (Str × Addr)} {outer : List Env} {A₀ : Around} {base h₀ : Heap} {L : Addr} {m : Str → Option Value} {news : List (Addr × Obj)} {s : Shared} {Q E : Value → Shared → Prop}
theorem for_cit {R : Result → Shared → Prop} {x : LexP} {t0 : Tok} {I bm : Nat} {body : List Stmt} {pos : Pos} (Ginv : List (Str × Tok) → Int → Str → Prop) (Gdead : Int → Str → Prop)
    (B : Below A₀ base outer h₀) (X : (hd.heap_39 w.params).In h₀) (T : Top p loose mean mg mb h₀) (hk : cs.kind = .function) (C : CodeHd base 184 180)
    (hch : (envX cn cs L a ccd cl).kindOf (Str.ofString "ch") = some .local)
    (hd : dp + 20 < recursionLimit) (hu : un + 400 < cLine) (ok : LexOk x) (i1 : x.pb < bm) (i2 : bm < I) (hc : x.c < bm) (hs : ∀ q ∈ news, q.1 ≠ x.sg) (hl : ∀ q ∈ news, q.1 ≠ x.dl) (hI : ∀ q ∈ news, q.1 ≠ I)
    (hG : ∀ l ln acc, Ginv l ln acc → GoodL l)
    (turn : ∀ c t r ln acc h tk n tl ta, Ginv ((c, t) :: r) ln acc → Fr h₀ L h (gm x.lx I (some (.str c t)) acc ta) → News h₀ L h (gtLed w x I bm (citObj bm t0) (lnNext c ln) tl r n news) →
      wpAny (model pw w) (ktrTop dp un gd cn cs L a ccd cl outer) (execs body (envX cn cs L a ccd cl)) (fun f s₃ => match f with
        | .next | .cont => ∃ h' tk', s₃ = { s with heap := h', toks := tk' } ∧ ((∃ l' ln' acc', l'.length ≤ r.length ∧ Ginv l' ln' acc' ∧ Live w h₀ L x I bm t0 news h' l' ln' acc') ∨ ∃ ln' acc', Gdead ln' acc' ∧ Dead w h₀ L x I bm news h' ln' acc')
        | .ret v => R (.ok (.ret v)) s₃
        | .brk => False) (fun _ _ => False) { s with heap := h, toks := tk })
    (done : ∀ ln acc h tk, (Ginv [] ln acc ∨ Gdead ln acc) → Dead w h₀ L x I bm news h ln acc → R (.ok .next) { s with heap := h, toks := tk })
    {l : List (Str × Tok)} {ln : Int} {acc : Str} (g : Ginv l ln acc) (st : Live w h₀ L x I bm t0 news s.heap l ln acc) :
    codeAny (model pw w) (ktrTop dp un gd cn cs L a ccd cl outer) (.forLoop (.Name (Str.ofString "ch") pos) (.ref I) body [] (envX cn cs L a ccd cl)) R s := by
  refine codeAny_forLoop (fun k s' => ∃ h tk, s' = { s with heap := h, toks := tk } ∧ ((∃ l ln acc, k = l.length + 1 ∧ Ginv l ln acc ∧ Live w h₀ L x I bm t0 news h l ln acc) ∨ ∃ ln acc, k = 0 ∧ Gdead ln acc ∧ Dead w h₀ L x I bm news h ln acc)) ?_ (l.length + 1) ⟨s.heap, s.toks, rfl, .inl ⟨l, ln, acc, rfl, g, st⟩⟩
  rintro k s' ⟨h, tk, rfl, hst⟩
  rcases hst with ⟨l, ln, acc, rfl, g, n, tl, ta, chv, F, N⟩ | ⟨ln, acc, rfl, g, n, tl, ta, chv, F, N⟩
  · cases l with
    | nil =>
      refine cit_nil (s := { s with heap := h, toks := tk }) B F X N T hk C hd hu ok i1 i2 hc hs hl hI ?_
      intro h' tk' F' N'
      exact wpAny_execs_nil (done ln acc h' tk' (.inl g) ⟨n, tl, ta, chv, F', N'⟩)
    | cons q r =>
      obtain ⟨c, t⟩ := q
      have gl := hG _ _ _ g
      refine cit_cons (s := { s with heap := h, toks := tk }) B F X N T hk C hd hu ok i1 i2 hc hs hl hI gl.tail.1 (gl.ne (.head _)) ?_
      intro tl' h' tk' F' N'
      refine wpAny_assign_Name (wpAny_storeName_local hch F'.ns (fun h'' hn hsb => ?_) (by show (cs.kind == .class || (cs.kind == .module && L != mainGlobals)) = false; rw [hk]; rfl))
      have F'' := fr_cast (F'.set hn hsb) (m' := gm x.lx I (some (.str c t)) acc ta) (fun y => by unfold gm; by_cases e : y = Str.ofString "ch" <;> simp [e])
      refine wpAny_mono (turn c t r ln acc h'' (tk' + 1) (n + 1) tl' ta g F'' (N'.set hsb)) (fun f s₃ hf => ?_) (fun _ _ e => e.elim)
      cases f with
      | ret v => exact hf
      | brk => exact hf.elim
      | next =>
        obtain ⟨h3, tk3, rfl, hst⟩ := hf
        rcases hst with ⟨l', ln', acc', hlen, g', st'⟩ | ⟨ln', acc', g', st'⟩
        · exact ⟨l'.length + 1, by simp only [List.length_cons]; omega, h3, tk3, rfl, .inl ⟨l', ln', acc', rfl, g', st'⟩⟩
        · exact ⟨0, by omega, h3, tk3, rfl, .inr ⟨ln', acc', rfl, g', st'⟩⟩
      | cont =>
        obtain ⟨h3, tk3, rfl, hst⟩ := hf
        rcases hst with ⟨l', ln', acc', hlen, g', st'⟩ | ⟨ln', acc', g', st'⟩
        · exact ⟨l'.length + 1, by simp only [List.length_cons]; omega, h3, tk3, rfl, .inl ⟨l', ln', acc', rfl, g', st'⟩⟩
        · exact ⟨0, by omega, h3, tk3, rfl, .inr ⟨ln', acc', rfl, g', st'⟩⟩
  · refine pyNext_cit_ended (s := { s with heap := h, toks := tk }) rfl (N.get (List.mem_append_right _ (.head _))) ?_
    intro h' hk'
    refine wpAny_execs_nil (done ln acc h' tk (.inr g) ⟨n, tl, ta, chv, ⟨F.ns.keeps hk', fun b o e => hk' b o (F.keep b o e), F.above⟩, fun q hq => ⟨hk' _ _ (N q hq).1, (N q hq).2⟩⟩)
end

end S_P11_0
section S_P12_0
def hdS : List (Str × Tok) → Str
  | [] => Str.ofString ""
  | q :: _ => q.1
def qrun : List (Str × Tok) → Int → Str → Str × List (Str × Tok) × Int
  | [], ln, acc => (acc, [], ln)
  | (c, _) :: r, ln, acc =>
    if (c == Str.ofString "\"") = true then (acc, r, lnNext c ln)
    else if (c == Str.ofString "\\") = true then
      match r with
      | [] => (acc ++ Str.ofString "", [], lnNext (Str.ofString "") (lnNext c ln))
      | (d, _) :: r' => qrun r' (lnNext d (lnNext c ln)) (acc ++ d)
    else qrun r (lnNext c ln) (acc ++ c)
def prun : List (Str × Tok) → Int → Str → Str × List (Str × Tok) × Int
  | [], ln, acc => (acc, [], ln)
  | (c, _) :: r, ln, acc =>
    if (c == Str.ofString "/") = true then (acc, r, lnNext c ln)
    else if (c == Str.ofString "\\") = true then
      match r with
      | [] => (acc ++ Str.ofString "", [], lnNext (Str.ofString "") (lnNext c ln))
      | (d, _) :: r' => prun r' (lnNext d (lnNext c ln)) (acc ++ d)
    else prun r (lnNext c ln) (acc ++ c)
def tokrun : List (Str × Tok) → Int → Str × List (Str × Tok) × Int
  | [], ln => (Str.ofString "", [], ln)
  | (c, _) :: r, ln =>
    if (c == Str.ofString "/") = true then tokrun r (lnNext c ln)
    else if (c == Str.ofString "\"") = true then qrun r (lnNext c ln) (Str.ofString "")
    else if (c == Str.ofString "\\") = true then prun r.tail (lnNext (hdS r) (lnNext c ln)) (Str.ofString "" ++ hdS r)
    else prun r (lnNext c ln) (Str.ofString "" ++ c)
theorem qrun_esc {c : Str} {t : Tok} {r : List (Str × Tok)} {ln : Int} {acc : Str} (h1 : (c == Str.ofString "\"") = false) (h2 : (c == Str.ofString "\\") = true) :
    qrun ((c, t) :: r) ln acc = qrun r.tail (lnNext (hdS r) (lnNext c ln)) (acc ++ hdS r) := by
  cases r <;> (rw [qrun]; simp only [h1, h2, if_true, if_false, Bool.false_eq_true]; rfl)
theorem prun_esc {c : Str} {t : Tok} {r : List (Str × Tok)} {ln : Int} {acc : Str} (h1 : (c == Str.ofString "/") = false) (h2 : (c == Str.ofString "\\") = true) :
    prun ((c, t) :: r) ln acc = prun r.tail (lnNext (hdS r) (lnNext c ln)) (acc ++ hdS r) := by
  cases r <;> (rw [prun]; simp only [h1, h2, if_true, if_false, Bool.false_eq_true]; rfl)
theorem qrun_end {c : Str} {t : Tok} {r : List (Str × Tok)} {ln : Int} {acc : Str} (h1 : (c == Str.ofString "\"") = true) :
    qrun ((c, t) :: r) ln acc = (acc, r, lnNext c ln) := by
  cases r <;> simp only [qrun, h1, if_true]
theorem qrun_go {c : Str} {t : Tok} {r : List (Str × Tok)} {ln : Int} {acc : Str} (h1 : (c == Str.ofString "\"") = false) (h2 : (c == Str.ofString "\\") = false) :
    qrun ((c, t) :: r) ln acc = qrun r (lnNext c ln) (acc ++ c) := by
  cases r <;> simp only [qrun, h1, h2, if_false, Bool.false_eq_true]
theorem prun_end {c : Str} {t : Tok} {r : List (Str × Tok)} {ln : Int} {acc : Str} (h1 : (c == Str.ofString "/") = true) :
    prun ((c, t) :: r) ln acc = (acc, r, lnNext c ln) := by
  cases r <;> simp only [prun, h1, if_true]
theorem prun_go {c : Str} {t : Tok} {r : List (Str × Tok)} {ln : Int} {acc : Str} (h1 : (c == Str.ofString "/") = false) (h2 : (c == Str.ofString "\\") = false) :
    prun ((c, t) :: r) ln acc = prun r (lnNext c ln) (acc ++ c) := by
  cases r <;> simp only [prun, h1, h2, if_false, Bool.false_eq_true]
theorem occ_slash {c : Str} (h : c.length = 1) : (Builtin.Str.occurrences (Str.ofString "/") c 0 (Str.ofString "/").length 1).isEmpty = !(c == Str.ofString "/") := by
  obtain ⟨cps⟩ := c
  obtain ⟨l⟩ := cps
  match l, h with
  | [k], _ =>
    have := StrLaws.found_one (Str.ofString "/") k
    rw [← Bool.not_not (b := List.isEmpty _), this]
    congr 1
    rw [Bool.eq_iff_iff, decide_eq_true_eq, beq_iff_eq]
    rw [show Str.ofString "/" = ⟨#[47]⟩ by decide +kernel]
    simp
theorem read_any_len (l : List (Str × Tok)) (g : GoodL l) : (hdS l).length ≤ 1 := by
  cases l with
  | nil => decide +kernel
  | cons q r => exact Nat.le_of_eq (g.2 q (.head _))
theorem hdS_len (r : List (Str × Tok)) (g : GoodL r) : (hdS r).length + r.tail.length ≤ r.length ∧ (hdS r).length ≤ 1 := by
  cases r with
  | nil => decide +kernel
  | cons q r =>
    have := g.2 q (.head _)
    simp only [hdS, List.tail_cons, List.length_cons]; omega
theorem GoodL.tl {r : List (Str × Tok)} (h : GoodL r) : GoodL r.tail := by
  cases r with
  | nil => exact h
  | cons q r => exact h.tail
theorem live_of {w : World} {h₀ : Heap} {L : Addr} {x : LexP} {I bm : Nat} {t0 : Tok} {news : List (Addr × Obj)} {h : Heap} {l : List (Str × Tok)} {ln : Int} {acc : Str} {ta tl : Tok} {n : Nat} {m' : Str → Option Value}
    (F : Fr h₀ L h m') (N : News h₀ L h (gtLed w x I bm (citObj bm t0) ln tl l n news)) (hm : ∀ y, m' y = gm x.lx I (m' (Str.ofString "ch")) acc ta y) : Live w h₀ L x I bm t0 news h l ln acc :=
  ⟨n, tl, ta, m' (Str.ofString "ch"), fr_cast F hm, N⟩
theorem dead_of {w : World} {h₀ : Heap} {L : Addr} {x : LexP} {I bm : Nat} {news : List (Addr × Obj)} {h : Heap} {ln : Int} {acc : Str} {ta tl : Tok} {n : Nat} {m' : Str → Option Value}
    (F : Fr h₀ L h m') (N : News h₀ L h (gtLed w x I bm citEnd ln tl [] n news)) (hm : ∀ y, m' y = gm x.lx I (m' (Str.ofString "ch")) acc ta y) : Dead w h₀ L x I bm news h ln acc :=
  ⟨n, tl, ta, m' (Str.ofString "ch"), fr_cast F hm, N⟩
section
variable {w : World} {p : Program} {loose : List Str} {mean : ExcName → Option Value} {mg mb : Str → Option Value} {dp un : Nat} {gd : Option (List Code)} {cn : Str} {cs : Scope} {a : Addr} {ccd : Value} {cl : List (Str × Addr)} {outer : List Env} {A₀ : Around} {base h₀ : Heap} {L : Addr} {m : Str → Option Value} {news : List (Addr × Obj)} {s : Shared} {Q E : Value → Shared → Prop}
theorem read_any {x : LexP} {ln : Int} {tl : Tok} {n : Nat} {r : List (Str × Tok)}
    (B : Below A₀ base outer h₀) (F : Fr h₀ L s.heap m) (X : (hd.heap_39 w.params).In h₀) (N : News h₀ L s.heap (lexLed w x ln tl r n ++ news)) (T : Top p loose mean mg mb h₀) (hk : cs.kind = .function) (C : CodeHd base 184 180)
    (hd : dp + 20 < recursionLimit) (hu : un + 200 < cLine) (ok : LexOk x) (hs : ∀ q ∈ news, q.1 ≠ x.sg) (hl : ∀ q ∈ news, q.1 ≠ x.dl) (hr : GoodL r)
    (hret : ∀ t tl' n' h' tk', (hdS r).length ≤ 1 → Fr h₀ L h' m → News h₀ L h' (lexLed w x (lnNext (hdS r) ln) tl' r.tail n' ++ news) → Q (.str (hdS r) t) { s with heap := h', toks := tk' }) :
    wpAny (model pw w) (ktrTop dp un gd cn cs L a ccd cl outer) (call (.ref 157) [.ref x.lx]) Q E s := by
  refine wpAny_call ?_
  cases r with
  | nil => exact read_nil B F X N T hk C hd hu ok hs hl fun t h' tk' F' N' => hret t _ _ h' tk' (read_any_len _ hr) F' N'
  | cons q r => exact read_cons B F X N T hk C hd hu ok hs hl hr.tail.1 fun tl' h' tk' F' N' => hret _ _ _ h' tk' (read_any_len _ hr) F' N'
end

end S_P12_0
local macro_rules | `(tactic| walk_at "call ref") => `(tactic| (k_here; (first | (with_reducible show wpAny _ _ (call (Value.ref 157) [Value.ref _]) _ _ _) | k_dflt (show wpAny _ _ (call (Value.ref 157) [Value.ref _]) _ _ _)); k_dflt (refine' read_any ?k1 ?k2 ?k3 ?k4 ?k5 ?kK ?kC ?kd ?ku ?ko ?ks ?kl ?kr ?_; (case k1 => k_asm); (case k2 => k_asm); (case k3 => k_asm); (case k4 => k_asm); (case k5 => k_asm); (case kK => first | exact rfl | assumption); (case kC => first | assumption | kn_code); (case kd => ktr_room); (case ku => ktr_units); (case ko => assumption); (case ks => assumption); (case kl => assumption); (case kr => assumption); k_whole); intro t' tl' n' h' tk' z' F' N'; (try k_sweep)))

section S_N03_0
def retok (l : List (Str × Tok)) : List (Str × Tok) := l.map fun q => (q.1, 0)
theorem retok_fst (l : List (Str × Tok)) : (retok l).map (·.1) = l.map (·.1) := by unfold retok; rw [List.map_map]; rfl
theorem qrun_retok : ∀ (n : Nat) (l : List (Str × Tok)) (ln : Int) (acc : Str), l.length ≤ n → qrun (retok l) ln acc = ((qrun l ln acc).1, retok (qrun l ln acc).2.1, (qrun l ln acc).2.2)
  | _, [], ln, acc, _ => rfl
  | 0, q :: r, _, _, h => by simp at h
  | n + 1, (c, t) :: r, ln, acc, h => by
    have hr : r.length ≤ n := by simp at h; omega
    show qrun ((c, 0) :: retok r) ln acc = _
    cases h1 : c == Str.ofString "\"" with
    | true => rw [qrun_end h1, qrun_end h1]
    | false =>
      cases h2 : c == Str.ofString "\\" with
      | false => rw [qrun_go h1 h2, qrun_go h1 h2]; exact qrun_retok n r _ _ hr
      | true =>
        rw [qrun_esc h1 h2, qrun_esc h1 h2]
        have e1 : (retok r).tail = retok r.tail := by cases r <;> rfl
        have e2 : hdS (retok r) = hdS r := by cases r <;> rfl
        rw [e1, e2]
        exact qrun_retok n r.tail _ _ (by rw [List.length_tail]; omega)
theorem prun_retok : ∀ (n : Nat) (l : List (Str × Tok)) (ln : Int) (acc : Str), l.length ≤ n → prun (retok l) ln acc = ((prun l ln acc).1, retok (prun l ln acc).2.1, (prun l ln acc).2.2)
  | _, [], ln, acc, _ => rfl
  | 0, q :: r, _, _, h => by simp at h
  | n + 1, (c, t) :: r, ln, acc, h => by
    have hr : r.length ≤ n := by simp at h; omega
    show prun ((c, 0) :: retok r) ln acc = _
    cases h1 : c == Str.ofString "/" with
    | true => rw [prun_end h1, prun_end h1]
    | false =>
      cases h2 : c == Str.ofString "\\" with
      | false => rw [prun_go h1 h2, prun_go h1 h2]; exact prun_retok n r _ _ hr
      | true =>
        rw [prun_esc h1 h2, prun_esc h1 h2]
        have e1 : (retok r).tail = retok r.tail := by cases r <;> rfl
        have e2 : hdS (retok r) = hdS r := by cases r <;> rfl
        rw [e1, e2]
        exact prun_retok n r.tail _ _ (by rw [List.length_tail]; omega)
theorem tokrun_retok : ∀ (l : List (Str × Tok)) (ln : Int), tokrun (retok l) ln = ((tokrun l ln).1, retok (tokrun l ln).2.1, (tokrun l ln).2.2)
  | [], ln => rfl
  | (c, t) :: r, ln => by
    show tokrun ((c, 0) :: retok r) ln = _
    have e1 : (retok r).tail = retok r.tail := by cases r <;> rfl
    have e2 : hdS (retok r) = hdS r := by cases r <;> rfl
    rw [tokrun, tokrun]
    split
    · exact tokrun_retok r _
    split
    · exact qrun_retok _ r _ _ (Nat.le_refl _)
    split
    · rw [e1, e2]; exact prun_retok _ r.tail _ _ (Nat.le_refl _)
    · exact prun_retok _ r _ _ (Nat.le_refl _)
def tok0 (l : List Str) : List (Str × Tok) := l.map fun c => (c, 0)
theorem retok_eq (l : List (Str × Tok)) : retok l = tok0 (l.map (·.1)) := by unfold retok tok0; rw [List.map_map]; rfl
def tokS (l : List Str) (ln : Int) : Str × List Str × Int := ((tokrun (tok0 l) ln).1, (tokrun (tok0 l) ln).2.1.map (·.1), (tokrun (tok0 l) ln).2.2)
theorem tokrun_tokS (l : List (Str × Tok)) (ln : Int) : tokS (l.map (·.1)) ln = ((tokrun l ln).1, (tokrun l ln).2.1.map (·.1), (tokrun l ln).2.2) := by
  unfold tokS
  rw [← retok_eq, tokrun_retok]
  simp only [retok_fst]
theorem goodL_signs {l : List (Str × Tok)} {y : Str} (h : l.map (·.1) = PyProof.Rows.signs y) (hy : y.length ≤ 1000000) : GoodL l := by
  refine ⟨?_, fun q hq => ?_⟩
  · have := congrArg List.length h
    rw [List.length_map, PyProof.Rows.signs_length] at this; omega
  · have : q.1 ∈ PyProof.Rows.signs y := by rw [← h]; exact List.mem_map_of_mem hq
    unfold PyProof.Rows.signs at this
    obtain ⟨k, _, e⟩ := List.mem_map.mp this
    rw [← e]; rfl
theorem rstrip_le (x y : Str) : (Txt.rstripChars x y).length ≤ x.length := by
  unfold Txt.rstripChars Txt.stripBy
  split
  · exact Nat.le_refl _
  · unfold PySem.stripped Builtin.Str.strSub
    simp only [Str.length, Array.size_extract]
    omega
def climbRun : Nat → Str → List Str → Option (Str × List Str)
  | 0, _, _ => none
  | n + 1, y, ns => if splitTail y = Str.ofString "" then some (splitHead y, ns) else climbRun n (splitHead y) ((tokS (PyProof.Rows.signs (splitTail y)) 1).1 :: ns)
theorem splitTail_le (x : Str) : (splitTail x).length ≤ x.length := Txt.slice_le _ _ _
theorem splitHead_le (x : Str) : (splitHead x).length ≤ x.length := by
  have h := Txt.slice_le x none (some (Txt.rfind x (Str.ofString "/") + 1))
  unfold splitHead
  split
  · exact h
  split
  · exact Nat.le_trans (rstrip_le _ _) h
  · exact h

end S_N03_0
section S_N04_0
theorem qrun_good : ∀ (n : Nat) (l : List (Str × Tok)) (ln : Int) (acc : Str), l.length ≤ n → GoodL l → GoodL (qrun l ln acc).2.1
  | _, [], ln, acc, _, g => g
  | 0, q :: r, _, _, h, _ => by simp at h
  | n + 1, (c, t) :: r, ln, acc, h, g => by
    have hr : r.length ≤ n := by simp at h; omega
    cases h1 : c == Str.ofString "\"" with
    | true => rw [qrun_end h1]; exact g.tail
    | false =>
      cases h2 : c == Str.ofString "\\" with
      | false => rw [qrun_go h1 h2]; exact qrun_good n r _ _ hr g.tail
      | true => rw [qrun_esc h1 h2]; exact qrun_good n r.tail _ _ (by rw [List.length_tail]; omega) g.tail.tl
theorem prun_good : ∀ (n : Nat) (l : List (Str × Tok)) (ln : Int) (acc : Str), l.length ≤ n → GoodL l → GoodL (prun l ln acc).2.1
  | _, [], ln, acc, _, g => g
  | 0, q :: r, _, _, h, _ => by simp at h
  | n + 1, (c, t) :: r, ln, acc, h, g => by
    have hr : r.length ≤ n := by simp at h; omega
    cases h1 : c == Str.ofString "/" with
    | true => rw [prun_end h1]; exact g.tail
    | false =>
      cases h2 : c == Str.ofString "\\" with
      | false => rw [prun_go h1 h2]; exact prun_good n r _ _ hr g.tail
      | true => rw [prun_esc h1 h2]; exact prun_good n r.tail _ _ (by rw [List.length_tail]; omega) g.tail.tl
theorem tokrun_good : ∀ (l : List (Str × Tok)) (ln : Int), GoodL l → GoodL (tokrun l ln).2.1
  | [], ln, g => g
  | (c, t) :: r, ln, g => by
    rw [tokrun]
    split
    · exact tokrun_good r _ g.tail
    split
    · exact qrun_good _ r _ _ (Nat.le_refl _) g.tail
    split
    · exact prun_good _ r.tail _ _ (Nat.le_refl _) g.tail.tl
    · exact prun_good _ r _ _ (Nat.le_refl _) g.tail
/-- n tokens, one after the other -/
def tokN : Nat → List Str → Int → List Str × List Str × Int
  | 0, l, ln => ([], l, ln)
  | n + 1, l, ln => ((tokS l ln).1 :: (tokN n (tokS l ln).2.1 (tokS l ln).2.2).1, (tokN n (tokS l ln).2.1 (tokS l ln).2.2).2)
theorem tokN_step {n : Nat} {l : List (Str × Tok)} {ln : Int} {pre : List Str} {res : List Str × List Str × Int}
    (h : pre ++ (tokN (n + 1) (l.map (·.1)) ln).1 = res.1) (h2 : (tokN (n + 1) (l.map (·.1)) ln).2 = res.2) :
    (pre ++ [(tokrun l ln).1]) ++ (tokN n ((tokrun l ln).2.1.map (·.1)) (tokrun l ln).2.2).1 = res.1 ∧ (tokN n ((tokrun l ln).2.1.map (·.1)) (tokrun l ln).2.2).2 = res.2 := by
  rw [tokN, tokrun_tokS] at h h2
  exact ⟨by rw [List.append_assoc]; exact h, h2⟩

end S_N04_0
section S_N07_0
/-- what _law_reads answers -/
def readsOf (x : Str) (ws : List Str) : Bool :=
  decide ((tokN (ws.length + 2) (PyProof.Rows.signs x) 1).1 = ws ++ [Str.ofString "", Str.ofString ""]) && decide ((tokN (ws.length + 2) (PyProof.Rows.signs x) 1).2.2 = 1 + (ws.map fun y => Txt.count y (Str.ofString "\n")).sum)
theorem readsOf_no {x : Str} {ws : List Str} {b : Bool} (h : decide ((tokN (ws.length + 2) (PyProof.Rows.signs x) 1).1 = ws ++ [Str.ofString "", Str.ofString ""]) = b) (hb : b = false) : readsOf x ws = false := by
  unfold readsOf; rw [h, hb]; rfl
theorem readsOf_yes {x : Str} {ws : List Str} {b : Bool} (h : decide ((tokN (ws.length + 2) (PyProof.Rows.signs x) 1).1 = ws ++ [Str.ofString "", Str.ofString ""]) = b) (hb : b = true) : readsOf x ws = decide ((tokN (ws.length + 2) (PyProof.Rows.signs x) 1).2.2 = 1 + (ws.map fun y => Txt.count y (Str.ofString "\n")).sum) := by
  unfold readsOf; rw [h, hb]; rfl
theorem count_le (y z : Str) : Txt.count y z ≤ y.length + 1 := by
  have := StrLaws.occ_length_le y z 0 y.length (y.length + 1)
  unfold Txt.count; omega
theorem count_pos (y z : Str) : 0 ≤ Txt.count y z := by unfold Txt.count; omega
theorem counts_le (z : Str) : ∀ ws : List Str, (ws.map fun y => Txt.count y z).sum ≤ lsum ws + ws.length ∧ 0 ≤ (ws.map fun y => Txt.count y z).sum
  | [] => by simp [lsum]
  | y :: ws => by
    have h := counts_le z ws
    have h1 := count_le y z
    have h2 := count_pos y z
    rw [List.map_cons, List.sum_cons, lsum_cons, List.length_cons]; omega
theorem tokN_len : ∀ (n : Nat) (l : List Str) (ln : Int), (tokN n l ln).1.length = n
  | 0, _, _ => rfl
  | n + 1, l, ln => by rw [tokN]; simp only [List.length_cons, tokN_len n]

end S_N07_0
section S_N05_0
theorem SL_eq : Str.ofString "/" = ⟨#[47]⟩ := by decide +kernel
theorem E_eq : Str.ofString "" = Str.empty := by decide +kernel
def codes (x : Str) : List Nat := x.cps.toList
theorem codes_inj {a b : Str} (h : codes a = codes b) : a = b := Str.ext' (by unfold codes at h; exact Array.toList_inj.mp h)
theorem codes_app (a b : Str) : codes (a ++ b) = codes a ++ codes b := by unfold codes; rw [Str.cps_append]; simp
theorem codes_mk (l : List Nat) : codes ⟨l.toArray⟩ = l := rfl
theorem codes_SL : codes (Str.ofString "/") = [47] := by decide +kernel
theorem codes_E : codes (Str.ofString "") = [] := by decide +kernel
theorem codes_len (x : Str) : (codes x).length = x.length := by unfold codes Str.length; simp
theorem codes_nil {x : Str} : codes x = [] ↔ x = Str.ofString "" := ⟨fun h => codes_inj (by rw [h, codes_E]), fun h => by rw [h, codes_E]⟩
theorem len_zero {x : Str} : x.length = 0 ↔ x = Str.ofString "" := by rw [← codes_nil, ← codes_len, List.length_eq_zero_iff]
def Free (x : Str) : Prop := 47 ∉ codes x
theorem app_assoc (a b c : Str) : a ++ b ++ c = a ++ (b ++ c) := Str.append_assoc a b c
theorem E_app (a : Str) : Str.ofString "" ++ a = a := by rw [E_eq]; exact Str.empty_append a
theorem app_E (a : Str) : a ++ Str.ofString "" = a := by rw [E_eq]; exact Str.append_empty a
/-- the texts with slashes between -/
def jn (l : List Str) : Str := Str.join (Str.ofString "/") l
theorem jn_nil : jn [] = Str.ofString "" := by rw [E_eq]; rfl
theorem jn_one (a : Str) : jn [a] = a := rfl
theorem jn_cons (a b : Str) (r : List Str) : jn (a :: b :: r) = a ++ (Str.ofString "/" ++ jn (b :: r)) := by
  show a ++ Str.ofString "/" ++ Str.join _ (b :: r) = _
  rw [app_assoc]; rfl
theorem txt_join (l : List Str) : Txt.join (Str.ofString "/") l = jn l := StrLaws.glued_eq_join _ _
theorem jn_snoc : ∀ (l : List Str) (a : Str), l ≠ [] → jn (l ++ [a]) = jn l ++ (Str.ofString "/" ++ a)
  | [], _, h => absurd rfl h
  | [x], a, _ => by show jn (x :: a :: []) = _; rw [jn_cons, jn_one, jn_one]
  | x :: y :: r, a, _ => by
    show jn (x :: y :: (r ++ [a])) = _
    rw [jn_cons, show y :: (r ++ [a]) = (y :: r) ++ [a] from rfl, jn_snoc (y :: r) a (by simp), jn_cons, app_assoc, app_assoc]
theorem jn_app_last (l : List Str) (a b : Str) : jn (l ++ [a]) ++ b = jn (l ++ [a ++ b]) := by
  by_cases h : l = []
  · subst h; rfl
  · rw [jn_snoc _ _ h, jn_snoc _ _ h, app_assoc, app_assoc]
theorem free_cut : ∀ (a b u v : List Nat), 47 ∉ a → 47 ∉ b → a ++ 47 :: u = b ++ 47 :: v → a = b ∧ u = v
  | [], [], u, v, _, _, h => ⟨rfl, by simpa using h⟩
  | [], y :: b, u, v, _, hb, h => by simp at h; exact absurd h.1 (by intro e; exact hb (by simp [e]))
  | x :: a, [], u, v, ha, _, h => by simp at h; exact absurd h.1 (by intro e; exact ha (by simp [e]))
  | x :: a, y :: b, u, v, ha, hb, h => by
    simp only [List.cons_append, List.cons.injEq] at h
    obtain ⟨e1, e2⟩ := free_cut a b u v (fun m => ha (.tail _ m)) (fun m => hb (.tail _ m)) h.2
    exact ⟨by rw [h.1, e1], e2⟩
theorem jn_inj : ∀ (l l' : List Str), l ≠ [] → l' ≠ [] → (∀ p ∈ l, Free p) → (∀ p ∈ l', Free p) → jn l = jn l' → l = l'
  | [], _, h, _, _, _, _ => absurd rfl h
  | _, [], _, h, _, _, _ => absurd rfl h
  | [x], [y], _, _, _, _, e => by rw [jn_one, jn_one] at e; rw [e]
  | [x], y :: z :: r, _, _, hx, _, e => by
    rw [jn_one, jn_cons] at e
    exact absurd (show 47 ∈ codes x by rw [e, codes_app, codes_app, codes_SL]; simp) (hx x (.head _))
  | x :: z :: r, [y], _, _, _, hy, e => by
    rw [jn_one, jn_cons] at e
    exact absurd (show 47 ∈ codes y by rw [← e, codes_app, codes_app, codes_SL]; simp) (hy y (.head _))
  | x :: z :: r, y :: z' :: r', _, _, hx, hy, e => by
    rw [jn_cons, jn_cons] at e
    have e2 := congrArg codes e
    rw [codes_app, codes_app, codes_app, codes_app, codes_SL] at e2
    obtain ⟨e3, e4⟩ := free_cut _ _ _ _ (hx x (.head _)) (hy y (.head _)) e2
    rw [codes_inj e3, jn_inj (z :: r) (z' :: r') (by simp) (by simp) (fun p h => hx p (.tail _ h)) (fun p h => hy p (.tail _ h)) (codes_inj e4)]
theorem split_ne (x y : Str) : Txt.split x y ≠ [] := by
  unfold Txt.split
  split
  · simp
  split
  · simp
  · unfold Builtin.Str.partsBetween
    intro h
    have := congrArg List.length h
    simp at this
theorem split_jn (l : List Str) (h : l ≠ []) (hf : ∀ p ∈ l, Free p) : Txt.split (jn l) (Str.ofString "/") = l := by
  refine jn_inj _ _ (split_ne _ _) h ?_ hf ?_
  · intro p hp
    rw [SL_eq] at hp
    exact StrLaws.split_free _ _ p hp
  · exact StrLaws.join_split _ _
theorem startswith_SL (x : Str) : Txt.startswith x (Str.ofString "/") = decide ((codes x).head? = some 47) := by
  unfold Txt.startswith
  rw [SL_eq]
  have h := StrLaws.subAt_one x 47 0
  rw [Bool.eq_iff_iff, Bool.and_eq_true, decide_eq_true_eq, decide_eq_true_eq, h]
  show x.cps.toList[0]? = some 47 ↔ (codes x).head? = some 47
  rw [List.head?_eq_getElem?]; rfl
theorem endswith_SL (x : Str) : Txt.endswith x (Str.ofString "/") = decide ((codes x).getLast? = some 47) := by
  unfold Txt.endswith
  rw [SL_eq]
  rw [Bool.eq_iff_iff, Bool.and_eq_true, decide_eq_true_eq, decide_eq_true_eq]
  have h := StrLaws.subAt_one x 47 (x.length - 1)
  have hl := codes_len x
  show (0 + 1 ≤ x.length ∧ Builtin.Str.subAt x ⟨#[47]⟩ (x.length - 1) = true) ↔ _
  rw [List.getLast?_eq_getElem?, hl]
  have h' : (x.length - 1 + 1 ≤ x.length ∧ Builtin.Str.subAt x ⟨#[47]⟩ (x.length - 1) = true) ↔ (codes x)[x.length - 1]? = some 47 := h
  constructor
  · rintro ⟨h1, h2⟩
    exact h'.mp ⟨by omega, h2⟩
  · intro e
    obtain ⟨h1, h2⟩ := h'.mpr e
    exact ⟨by omega, h2⟩
theorem free_start {x : Str} (h : Free x) : Txt.startswith x (Str.ofString "/") = false := by
  rw [startswith_SL, decide_eq_false_iff_not]
  intro e
  exact h (List.mem_of_mem_head? e)
theorem last_app (a b : List Nat) : (a ++ b).getLast? = if b = [] then a.getLast? else b.getLast? := by
  by_cases h : b = []
  · simp [h]
  · rw [if_neg h, List.getLast?_append]
    cases e : b.getLast? with
    | none => exact absurd (List.getLast?_eq_none_iff.mp e) h
    | some v => rfl
/-- a row of n slashes -/
def slashes (n : Nat) : Str := ⟨(List.replicate n 47).toArray⟩
theorem codes_slashes (n : Nat) : codes (slashes n) = List.replicate n 47 := rfl
def ne (c : Str) : Bool := c != Str.ofString ""
/-- a good row of parts -/
structure Good (cs : List Str) : Prop where
  nonil : cs ≠ []
  free : ∀ c ∈ cs, Free c
  first : cs.head? = Option.some (Str.ofString "") → cs = [Str.ofString ""]
theorem step_good {n : Nat} {cs : List Str} {b : Str} (g : Good cs) (hb : Free b) :
    ∃ cs', joinStep (slashes n ++ jn cs) b = slashes n ++ jn cs' ∧ Good cs' ∧ cs'.filter ne = cs.filter ne ++ [b].filter ne := by
  obtain ⟨c0, c, rfl⟩ : ∃ c0 c, cs = c0 ++ [c] := by
    rcases List.eq_nil_or_concat cs with h | ⟨c0, c, h⟩
    · exact absurd h g.nonil
    · exact ⟨c0, c, by rw [h, List.concat_eq_append]⟩
  have hne : ne (Str.ofString "") = false := by decide +kernel
  have repl : ∀ hc : c = Str.ofString "", ∃ cs', (slashes n ++ jn (c0 ++ [c])) ++ b = slashes n ++ jn cs' ∧ Good cs' ∧ cs'.filter ne = (c0 ++ [c]).filter ne ++ [b].filter ne := by
    rintro rfl
    refine ⟨c0 ++ [b], ?_, ⟨by simp, ?_, ?_⟩, ?_⟩
    · rw [app_assoc, jn_app_last, E_app]
    · intro q hq
      rcases List.mem_append.mp hq with hq | hq
      · exact g.free q (List.mem_append_left _ hq)
      · rw [List.mem_singleton.mp hq]; exact hb
    · cases c0 with
      | nil => intro h; simp at h; rw [h]; rfl
      | cons z r =>
        intro h
        have := g.first (by simpa using h)
        simp at this
    · rw [List.filter_append, List.filter_append]
      have : [Str.ofString ""].filter ne = [] := by rw [List.filter_cons_of_neg (by rw [hne]; decide)]; rfl
      rw [this, List.append_nil]
  by_cases h1 : (slashes n ++ jn (c0 ++ [c])).length = 0
  · rw [js2 (free_start hb) (by rw [h1]; rfl)]
    have h2 : c = Str.ofString "" := by
      rw [← codes_nil]
      rw [← codes_len, codes_app, List.length_append] at h1
      have : (codes (jn (c0 ++ [c]))).length = 0 := by omega
      by_cases h3 : c0 = []
      · subst h3; exact List.length_eq_zero_iff.mp this
      · rw [jn_snoc _ _ h3, codes_app, codes_app, codes_SL] at this; simp at this
    obtain ⟨cs', e, r⟩ := repl h2
    refine ⟨cs', ?_, r⟩
    rw [← e, len_zero.mp h1, E_app]
  · cases h2 : Txt.endswith (slashes n ++ jn (c0 ++ [c])) (Str.ofString "/") with
    | true =>
      rw [js3 (free_start hb) (by omega) h2]
      refine repl ?_
      rw [← codes_nil]
      rw [endswith_SL, decide_eq_true_eq] at h2
      by_cases h4 : codes c = []
      · exact h4
      · exfalso
        have h5 : (codes (slashes n ++ jn (c0 ++ [c]))).getLast? = (codes c).getLast? := by
          by_cases h3 : c0 = []
          · subst h3; rw [codes_app]; show (_ ++ codes c).getLast? = _; rw [last_app, if_neg h4]
          · rw [jn_snoc _ _ h3, codes_app, codes_app, codes_app, last_app, if_neg (by simp [codes_SL]), last_app, if_neg (by simp [codes_SL]), last_app, if_neg h4]
        rw [h5] at h2
        exact g.free c (by simp) (List.mem_of_getLast? h2)
    | false =>
      rw [js4 (free_start hb) (by omega) h2]
      refine ⟨(c0 ++ [c]) ++ [b], ?_, ⟨by simp, ?_, ?_⟩, by rw [List.filter_append]⟩
      · rw [jn_snoc _ _ g.nonil, app_assoc]
      · intro q hq
        rcases List.mem_append.mp hq with hq | hq
        · exact g.free q hq
        · rw [List.mem_singleton.mp hq]; exact hb
      · intro h
        exfalso
        replace h : (c0 ++ [c]).head? = some (Str.ofString "") := by
          cases c0 <;> exact h
        rw [g.first h, jn_one] at h1 h2
        rw [app_E] at h1 h2
        rw [endswith_SL, decide_eq_false_iff_not, codes_slashes] at h2
        cases n with
        | zero => exact h1 rfl
        | succ n => exact h2 (by rw [List.replicate_succ', List.getLast?_append]; rfl)
theorem run_good {n : Nat} : ∀ (ws cs : List Str), Good cs → (∀ b ∈ ws, Free b) → ∃ cs', joinRun (slashes n ++ jn cs) ws = slashes n ++ jn cs' ∧ Good cs' ∧ cs'.filter ne = cs.filter ne ++ ws.filter ne
  | [], cs, g, _ => ⟨cs, rfl, g, by simp⟩
  | b :: ws, cs, g, h => by
    obtain ⟨c1, e1, g1, f1⟩ := step_good (n := n) g (h b (.head _))
    obtain ⟨c2, e2, g2, f2⟩ := run_good ws c1 g1 (fun q hq => h q (.tail _ hq))
    refine ⟨c2, ?_, g2, ?_⟩
    · rw [← e2, ← e1]; rfl
    · rw [f2, f1, List.append_assoc, ← List.filter_append]; rfl
theorem run_slashes {n : Nat} {ws : List Str} (h : ∀ b ∈ ws, Free b) : ∃ cs, joinRun (slashes n) ws = slashes n ++ jn cs ∧ Good cs ∧ cs.filter ne = ws.filter ne := by
  have g0 : Good [Str.ofString ""] := ⟨by simp, fun c hc => by rw [List.mem_singleton.mp hc]; unfold Free; rw [codes_E]; simp, fun _ => rfl⟩
  obtain ⟨cs, e, g, f⟩ := run_good (n := n) ws _ g0 h
  refine ⟨cs, ?_, g, ?_⟩
  · rw [← e, jn_one, app_E]
  · rw [f]
    have : [Str.ofString ""].filter ne = [] := by decide +kernel
    rw [this, List.nil_append]

end S_N05_0
section S_N06_0
theorem idx_min (a b len : Nat) : Builtin.Str.strSliceIndices (some (a : Int)) (some (b : Int)) 1 len = Builtin.Str.strSliceIndices (some ((min a len : Nat) : Int)) (some ((min b len : Nat) : Int)) 1 len := by
  unfold Builtin.Str.strSliceIndices
  have e1 : ¬ ((a : Int) < 0) := by omega
  have e2 : ¬ ((b : Int) < 0) := by omega
  have e3 : ¬ (((min a len : Nat) : Int) < 0) := by omega
  have e4 : ¬ (((min b len : Nat) : Int) < 0) := by omega
  simp only [e1, e2, e3, e4, if_false, show (1 : Int) > 0 by decide, if_true]
  congr 1 <;> omega
theorem codes_slice (x : Str) {a b : Nat} (h : a ≤ b) : codes (Txt.slice x (some (a : Int)) (some (b : Int))) = ((codes x).drop a).take (b - a) := by
  have e : Txt.slice x (some (a : Int)) (some (b : Int)) = StrLaws.sliceText x (some ((min a x.length : Nat) : Int)) (some ((min b x.length : Nat) : Int)) := by
    unfold Txt.slice StrLaws.sliceText
    rw [idx_min]
  rw [e, StrLaws.sliceText_nat x (by omega) (by omega), codes_mk]
  have hl := codes_len x
  show List.take _ (List.drop _ (codes x)) = _
  by_cases h1 : x.length ≤ a
  · rw [List.drop_of_length_le (by omega), List.drop_of_length_le (by omega)]; simp
  · rw [show min a x.length = a by omega]
    by_cases h2 : x.length ≤ b
    · rw [List.take_of_length_le (by rw [List.length_drop]; omega), List.take_of_length_le (by rw [List.length_drop]; omega)]
    · rw [show min b x.length = b by omega]
theorem codes_slice_to (x : Str) (b : Nat) : codes (Txt.slice x none (some (b : Int))) = (codes x).take b := by
  have e : Txt.slice x none (some (b : Int)) = Txt.slice x (some ((0 : Nat) : Int)) (some (b : Int)) := by
    unfold Txt.slice
    rw [StrLaws.sliceIdx_none_lo]; rfl
  rw [e, codes_slice x (Nat.zero_le _), List.drop_zero, Nat.sub_zero]
theorem codes_slice_from (x : Str) (a : Nat) : codes (Txt.slice x (some (a : Int)) none) = (codes x).drop a := by
  have hl := codes_len x
  by_cases h : a ≤ x.length
  · have e : Txt.slice x (some (a : Int)) none = Txt.slice x (some (a : Int)) (some (x.length : Int)) := by
      unfold Txt.slice
      rw [StrLaws.sliceIdx_none_hi]
    rw [e, codes_slice x h, List.take_of_length_le (by rw [List.length_drop]; omega)]
  · have e : Txt.slice x (some (a : Int)) none = Txt.slice x (some (a : Int)) (some ((a : Nat) : Int)) := by
      unfold Txt.slice
      rw [StrLaws.sliceIdx_none_hi, idx_min a x.length, idx_min a a, show min x.length x.length = min a x.length by omega]
    rw [e, codes_slice x (Nat.le_refl _), List.drop_of_length_le (by omega)]; simp
def SLs : Str := Str.ofString "/"
theorem ne_SL {x : Str} {l : List Nat} (h : codes x = l) : (x != Str.ofString "/") = decide (l ≠ [47]) := by
  rw [Bool.eq_iff_iff, bne_iff_ne, decide_eq_true_eq, ← h]
  exact ⟨fun k e => k (codes_inj (by rw [e, codes_SL])), fun k e => k (by rw [e, codes_SL])⟩
theorem eq_SL {x : Str} {l : List Nat} (h : codes x = l) : (x == Str.ofString "/") = decide (l = [47]) := by
  rw [Bool.eq_iff_iff, beq_iff_eq, decide_eq_true_eq, ← h]
  exact ⟨fun e => by rw [e, codes_SL], fun e => codes_inj (by rw [e, codes_SL])⟩
theorem root_parts (x : Str) : codes (Txt.slice x none (some 1)) = (codes x).take 1 ∧ codes (Txt.slice x (some 1) (some 2)) = ((codes x).drop 1).take 1 ∧ codes (Txt.slice x (some 2) (some 3)) = ((codes x).drop 2).take 1 ∧ codes (Txt.slice x none (some 2)) = (codes x).take 2 ∧ codes (Txt.slice x (some 1) none) = (codes x).drop 1 ∧ codes (Txt.slice x (some 2) none) = (codes x).drop 2 :=
  ⟨codes_slice_to x 1, codes_slice (a := 1) (b := 2) x (by decide), codes_slice (a := 2) (b := 3) x (by decide), codes_slice_to x 2, codes_slice_from x 1, codes_slice_from x 2⟩
/-- the root that normpath keeps of n slashes -/
def keptRoot (n : Nat) : Str := if n = 0 then Str.ofString "" else if n = 2 then Str.ofString "//" else Str.ofString "/"
theorem head_take {l : List Nat} (h : l.head? ≠ some 47) : l.take 1 ≠ [47] := by
  cases l with
  | nil => simp
  | cons a r => intro e; simp at e; exact h (by rw [e]; rfl)
theorem root_zero {x : Str} (h : (codes x).head? ≠ some 47) : rootOf x = Str.ofString "" ∧ restOf x = x := by
  obtain ⟨e1, e2, e3, e4, e5, e6⟩ := root_parts x
  have q1 : (Txt.slice x none (some 1) != Str.ofString "/") = true := by rw [ne_SL e1]; exact decide_eq_true (head_take h)
  unfold rootOf restOf
  simp only [q1, if_true]
  exact ⟨trivial, trivial⟩
theorem root_one {x y : Str} (h : (codes y).head? ≠ some 47) (e : x = slashes 1 ++ y) : rootOf x = Str.ofString "/" ∧ restOf x = y := by
  have ex : codes x = 47 :: codes y := by rw [e, codes_app, codes_slashes]; rfl
  obtain ⟨e1, e2, e3, e4, e5, e6⟩ := root_parts x
  rw [ex] at e1 e2 e3 e4 e5 e6
  have q1 : (Txt.slice x none (some 1) != Str.ofString "/") = false := by rw [ne_SL e1]; exact decide_eq_false (fun k => k rfl)
  have q2 : (Txt.slice x (some 1) (some 2) != Str.ofString "/") = true := by rw [ne_SL e2]; exact decide_eq_true (head_take h)
  unfold rootOf restOf
  simp only [q1, q2, if_true, if_false, Bool.false_eq_true]
  exact ⟨trivial, codes_inj (by rw [e5]; rfl)⟩
theorem root_two {x y : Str} (h : (codes y).head? ≠ some 47) (e : x = slashes 2 ++ y) : rootOf x = Str.ofString "//" ∧ restOf x = y := by
  have ex : codes x = 47 :: 47 :: codes y := by rw [e, codes_app, codes_slashes]; rfl
  obtain ⟨e1, e2, e3, e4, e5, e6⟩ := root_parts x
  rw [ex] at e1 e2 e3 e4 e5 e6
  have q1 : (Txt.slice x none (some 1) != Str.ofString "/") = false := by rw [ne_SL e1]; exact decide_eq_false (fun k => k rfl)
  have q2 : (Txt.slice x (some 1) (some 2) != Str.ofString "/") = false := by rw [ne_SL e2]; exact decide_eq_false (fun k => k rfl)
  have q3 : (Txt.slice x (some 2) (some 3) == Str.ofString "/") = false := by rw [eq_SL e3]; exact decide_eq_false (head_take h)
  unfold rootOf restOf
  simp only [q1, q2, q3, if_false, Bool.false_eq_true]
  exact ⟨codes_inj (by rw [e4, show codes (Str.ofString "//") = [47, 47] by decide +kernel]; rfl), codes_inj (by rw [e6]; rfl)⟩
theorem root_more {x y : Str} {n : Nat} (e : x = slashes (n + 3) ++ y) : rootOf x = Str.ofString "/" ∧ restOf x = slashes (n + 2) ++ y := by
  have ex : codes x = 47 :: 47 :: 47 :: (List.replicate n 47 ++ codes y) := by rw [e, codes_app, codes_slashes]; rfl
  obtain ⟨e1, e2, e3, e4, e5, e6⟩ := root_parts x
  rw [ex] at e1 e2 e3 e4 e5 e6
  have q1 : (Txt.slice x none (some 1) != Str.ofString "/") = false := by rw [ne_SL e1]; exact decide_eq_false (fun k => k rfl)
  have q2 : (Txt.slice x (some 1) (some 2) != Str.ofString "/") = false := by rw [ne_SL e2]; exact decide_eq_false (fun k => k rfl)
  have q3 : (Txt.slice x (some 2) (some 3) == Str.ofString "/") = true := by rw [eq_SL e3]; exact decide_eq_true rfl
  unfold rootOf restOf
  simp only [q1, q2, q3, if_true, if_false, Bool.false_eq_true]
  exact ⟨trivial, codes_inj (by rw [e5, codes_app, codes_slashes]; rfl)⟩
theorem slashes_jn : ∀ (n : Nat) (cs : List Str), cs ≠ [] → slashes n ++ jn cs = jn (List.replicate n (Str.ofString "") ++ cs)
  | 0, cs, _ => by
    show (⟨#[]⟩ : Str) ++ jn cs = jn cs
    exact Str.empty_append _
  | n + 1, cs, h => by
    have ih := slashes_jn n cs h
    obtain ⟨z, r, hz⟩ : ∃ z r, List.replicate n (Str.ofString "") ++ cs = z :: r := by
      cases e : List.replicate n (Str.ofString "") ++ cs with
      | nil => simp at e; exact absurd e.2 h
      | cons z r => exact ⟨z, r, rfl⟩
    rw [List.replicate_succ, List.cons_append, hz, jn_cons, ← hz, ← ih, E_app, ← app_assoc]
    exact congrArg (· ++ jn cs) (codes_inj (by rw [codes_app, codes_SL, codes_slashes, codes_slashes, List.replicate_succ]; rfl))
theorem Good.head {cs : List Str} (g : Good cs) : (codes (jn cs)).head? ≠ some 47 := by
  obtain ⟨s, f, h⟩ := g
  match cs, s with
  | [c], _ =>
    intro e
    exact f c (.head _) (List.mem_of_mem_head? e)
  | c :: d :: r, _ =>
    intro e
    rw [jn_cons, codes_app] at e
    cases hc : codes c with
    | nil =>
      have := h (by rw [codes_nil.mp hc]; rfl)
      simp at this
    | cons a l =>
      rw [hc] at e
      simp at e
      exact f c (.head _) (by rw [hc, e]; exact .head _)
theorem ne_filter_rep (n : Nat) (cs : List Str) : (List.replicate n (Str.ofString "") ++ cs).filter ne = cs.filter ne := by
  rw [List.filter_append]
  have : (List.replicate n (Str.ofString "")).filter ne = [] := by
    rw [List.filter_eq_nil_iff]
    intro a ha
    rw [(List.mem_replicate.mp ha).2]
    decide +kernel
  rw [this, List.nil_append]
theorem root_rest {n : Nat} {cs : List Str} (g : Good cs) : rootOf (slashes n ++ jn cs) = keptRoot n ∧ ∃ ds, ds ≠ [] ∧ (∀ d ∈ ds, Free d) ∧ restOf (slashes n ++ jn cs) = jn ds ∧ ds.filter ne = cs.filter ne := by
  match n with
  | 0 =>
    have e : slashes 0 ++ jn cs = jn cs := Str.empty_append _
    rw [e]
    obtain ⟨h1, h2⟩ := root_zero g.head
    exact ⟨h1, cs, g.nonil, g.free, h2, rfl⟩
  | 1 =>
    obtain ⟨h1, h2⟩ := root_one g.head (x := slashes 1 ++ jn cs) rfl
    exact ⟨h1, cs, g.nonil, g.free, h2, rfl⟩
  | 2 =>
    obtain ⟨h1, h2⟩ := root_two g.head (x := slashes 2 ++ jn cs) rfl
    exact ⟨h1, cs, g.nonil, g.free, h2, rfl⟩
  | n + 3 =>
    obtain ⟨h1, h2⟩ := root_more (n := n) (y := jn cs) (x := slashes (n + 3) ++ jn cs) rfl
    refine ⟨?_, List.replicate (n + 2) (Str.ofString "") ++ cs, by simp [g.nonil], ?_, ?_, ne_filter_rep _ _⟩
    · rw [h1]; unfold keptRoot; rw [if_neg (by omega), if_neg (by omega)]
    · intro d hd
      rcases List.mem_append.mp hd with hd | hd
      · rw [(List.mem_replicate.mp hd).2]; unfold Free; rw [codes_E]; simp
      · exact g.free d hd
    · rw [h2, slashes_jn _ _ g.nonil]
theorem normRun_ne (r : Str) : ∀ (cs k : List Str), cs.foldl (normStep r) k = (cs.filter ne).foldl (normStep r) k
  | [], _ => rfl
  | c :: cs, k => by
    by_cases h : c = Str.ofString ""
    · rw [List.filter_cons_of_neg (by rw [h]; decide +kernel), List.foldl_cons, ns_skip1 (by rw [h]; decide +kernel)]
      exact normRun_ne r cs k
    · rw [List.filter_cons_of_pos (by unfold ne; rw [bne_iff_ne]; exact h), List.foldl_cons, List.foldl_cons]
      exact normRun_ne r cs _
theorem normCat_eq {n : Nat} {cs : List Str} (g : Good cs) : normCat (slashes n ++ jn cs) = keptRoot n ++ jn (normRun (keptRoot n) (cs.filter ne)) := by
  obtain ⟨h1, ds, d1, d2, h2, h3⟩ := root_rest (n := n) g
  unfold normCat
  rw [h1, h2, split_jn ds d1 d2, txt_join]
  unfold normRun
  rw [normRun_ne, h3]
theorem normOf_cat (x : Str) : normOf x = if (normCat x).length = 0 then Str.ofString "." else normCat x := by
  unfold normOf
  by_cases h : x.length = 0
  · rw [if_pos h, len_zero.mp h, if_pos (by decide +kernel)]
  · rw [if_neg h]

end S_N06_0
section S_N08_0
open PyProof.Rows in
theorem signs_codes (x : Str) : signs x = (codes x).map fun n => (⟨#[n]⟩ : Str) := rfl
open PyProof.Rows in
theorem signs_app (a b : Str) : signs (a ++ b) = signs a ++ signs b := by rw [signs_codes, signs_codes, signs_codes, codes_app, List.map_append]
open PyProof.Rows in
theorem signs_SL : signs (Str.ofString "/") = [Str.ofString "/"] := by rw [signs_codes, codes_SL, SL_eq]; rfl
open PyProof.Rows in
theorem signs_E : signs (Str.ofString "") = [] := by rw [signs_codes, codes_E]; rfl
theorem tok0_app (a b : List Str) : tok0 (a ++ b) = tok0 a ++ tok0 b := by unfold tok0; rw [List.map_append]
theorem tok0_fst (l : List Str) : (tok0 l).map (·.1) = l := by unfold tok0; rw [List.map_map]; exact List.map_id' l
def cntNl (w : Str) : Int := Txt.count w (Str.ofString "\n")
open PyProof.Rows in
/-- the lexer reads the word w where u stands, up to the next slash or the end -/
structure Seg (w u : Str) : Prop where
  last : ∀ ln, tokrun (tok0 (signs u)) ln = (w, [], ln + cntNl w)
  more : (∀ r ln, tokrun (tok0 (signs u) ++ (Str.ofString "/", 0) :: r) ln = (w, r, ln + cntNl w)) ∨ ∀ r ln, tokrun (tok0 (signs u) ++ (Str.ofString "/", 0) :: r) ln = (w, (Str.ofString "/", 0) :: r, ln + cntNl w)
  free : Free u
  some : u ≠ Str.ofString ""
  ok : PyData.strOk w = true
  lw : w.length ≤ 10
  lu : u.length ≤ 10
open PyProof.Rows in
theorem Seg.plain {w u : Str} (h0 : cntNl w = 0) (h1 : ∀ ln, tokrun (tok0 (signs u)) ln = (w, [], ln)) (h2 : ∀ r ln, tokrun (tok0 (signs u) ++ (Str.ofString "/", 0) :: r) ln = (w, r, ln))
    (h3 : ((!(codes u).contains 47) && (u != Str.ofString "") && PyData.strOk w && decide (w.length ≤ 10) && decide (u.length ≤ 10)) = true) : Seg w u := by
  simp only [Bool.and_eq_true, Bool.not_eq_true', decide_eq_true_eq, bne_iff_ne] at h3
  obtain ⟨⟨⟨⟨a, b⟩, c⟩, d⟩, e⟩ := h3
  exact ⟨fun ln => by rw [h0, Int.add_zero]; exact h1 ln, .inl fun r ln => by rw [h0, Int.add_zero]; exact h2 r ln, (by unfold Free; intro m; rw [List.contains_iff_mem.mpr m] at a; cases a), b, c, d, e⟩
open PyProof.Rows in
theorem Seg.quoted {w u : Str} (h0 : cntNl w = 0) (h1 : ∀ ln, tokrun (tok0 (signs u)) ln = (w, [], ln)) (h2 : ∀ r ln, tokrun (tok0 (signs u) ++ (Str.ofString "/", 0) :: r) ln = (w, (Str.ofString "/", 0) :: r, ln))
    (h3 : ((!(codes u).contains 47) && (u != Str.ofString "") && PyData.strOk w && decide (w.length ≤ 10) && decide (u.length ≤ 10)) = true) : Seg w u := by
  simp only [Bool.and_eq_true, Bool.not_eq_true', decide_eq_true_eq, bne_iff_ne] at h3
  obtain ⟨⟨⟨⟨a, b⟩, c⟩, d⟩, e⟩ := h3
  exact ⟨fun ln => by rw [h0, Int.add_zero]; exact h1 ln, .inr fun r ln => by rw [h0, Int.add_zero]; exact h2 r ln, (by unfold Free; intro m; rw [List.contains_iff_mem.mpr m] at a; cases a), b, c, d, e⟩
theorem seg_dot : Seg (Str.ofString ".") (Str.ofString ".") := .plain (by decide +kernel) (fun _ => by kernel_rfl) (fun _ _ => by kernel_rfl) (by decide +kernel)
theorem seg_up : Seg (Str.ofString "..") (Str.ofString "..") := .plain (by decide +kernel) (fun _ => by kernel_rfl) (fun _ _ => by kernel_rfl) (by decide +kernel)
theorem seg_p0 : Seg (Str.ofString ".") (shield (Str.ofString ".") false) := .plain (by decide +kernel) (fun _ => by kernel_rfl) (fun _ _ => by kernel_rfl) (by decide +kernel)
theorem seg_p1 : Seg (Str.ofString "..") (shield (Str.ofString "..") false) := .plain (by decide +kernel) (fun _ => by kernel_rfl) (fun _ _ => by kernel_rfl) (by decide +kernel)
theorem seg_p2 : Seg (Str.ofString "") (shield (Str.ofString "") false) := .quoted (by decide +kernel) (fun _ => by kernel_rfl) (fun _ _ => by kernel_rfl) (by decide +kernel)
theorem seg_p3 : Seg (Str.ofString "a") (shield (Str.ofString "a") false) := .plain (by decide +kernel) (fun _ => by kernel_rfl) (fun _ _ => by kernel_rfl) (by decide +kernel)
theorem seg_p5 : Seg (Str.ofString "\"") (shield (Str.ofString "\"") false) := .plain (by decide +kernel) (fun _ => by kernel_rfl) (fun _ _ => by kernel_rfl) (by decide +kernel)
theorem seg_p6 : Seg (Str.ofString "\\") (shield (Str.ofString "\\") false) := .plain (by decide +kernel) (fun _ => by kernel_rfl) (fun _ _ => by kernel_rfl) (by decide +kernel)
theorem seg_p7 : Seg (Str.ofString "..a") (shield (Str.ofString "..a") false) := .plain (by decide +kernel) (fun _ => by kernel_rfl) (fun _ _ => by kernel_rfl) (by decide +kernel)
theorem seg_q0 : Seg (Str.ofString ".") (shield (Str.ofString ".") true) := .quoted (by decide +kernel) (fun _ => by kernel_rfl) (fun _ _ => by kernel_rfl) (by decide +kernel)
theorem seg_q1 : Seg (Str.ofString "..") (shield (Str.ofString "..") true) := .quoted (by decide +kernel) (fun _ => by kernel_rfl) (fun _ _ => by kernel_rfl) (by decide +kernel)
theorem seg_q2 : Seg (Str.ofString "") (shield (Str.ofString "") true) := .quoted (by decide +kernel) (fun _ => by kernel_rfl) (fun _ _ => by kernel_rfl) (by decide +kernel)
theorem seg_q3 : Seg (Str.ofString "a") (shield (Str.ofString "a") true) := .quoted (by decide +kernel) (fun _ => by kernel_rfl) (fun _ _ => by kernel_rfl) (by decide +kernel)
theorem seg_q5 : Seg (Str.ofString "\"") (shield (Str.ofString "\"") true) := .quoted (by decide +kernel) (fun _ => by kernel_rfl) (fun _ _ => by kernel_rfl) (by decide +kernel)
theorem seg_q6 : Seg (Str.ofString "\\") (shield (Str.ofString "\\") true) := .quoted (by decide +kernel) (fun _ => by kernel_rfl) (fun _ _ => by kernel_rfl) (by decide +kernel)
theorem seg_q7 : Seg (Str.ofString "..a") (shield (Str.ofString "..a") true) := .quoted (by decide +kernel) (fun _ => by kernel_rfl) (fun _ _ => by kernel_rfl) (by decide +kernel)
theorem free_bn (q : Bool) : Free (shield (Str.ofString "b \n") q) := by cases q <;> (unfold Free; decide +kernel)
theorem seg_p4 : Seg (Str.ofString "b \n") (shield (Str.ofString "b \n") false) :=
  have h : cntNl (Str.ofString "b \n") = 1 := by decide +kernel
  ⟨fun ln => by rw [h]; kernel_rfl, .inl fun r ln => by rw [h]; kernel_rfl, free_bn _, by decide +kernel, by decide +kernel, by decide +kernel, by decide +kernel⟩
theorem seg_q4 : Seg (Str.ofString "b \n") (shield (Str.ofString "b \n") true) :=
  have h : cntNl (Str.ofString "b \n") = 1 := by decide +kernel
  ⟨fun ln => by rw [h]; kernel_rfl, .inr fun r ln => by rw [h]; kernel_rfl, free_bn _, by decide +kernel, by decide +kernel, by decide +kernel, by decide +kernel⟩
open PyProof.Rows in
theorem Seg.tail {w u : Str} (g : Seg w u) (ln : Int) : tokS (signs u) ln = (w, [], ln + cntNl w) := by
  unfold tokS; rw [g.last]; rfl
open PyProof.Rows in
theorem Seg.go {w u : Str} (g : Seg w u) (r : List Str) (ln : Int) : ∃ r2, (r2 = r ∨ r2 = Str.ofString "/" :: r) ∧ tokS (signs u ++ Str.ofString "/" :: r) ln = (w, r2, ln + cntNl w) := by
  have e : tok0 (signs u ++ Str.ofString "/" :: r) = tok0 (signs u) ++ (Str.ofString "/", 0) :: tok0 r := by rw [tok0_app]; rfl
  rcases g.more with h | h
  · refine ⟨r, .inl rfl, ?_⟩
    unfold tokS; rw [e, h, tok0_fst]
  · refine ⟨Str.ofString "/" :: r, .inr rfl, ?_⟩
    unfold tokS; rw [e, h, List.map_cons, tok0_fst]
theorem tokS_SL (r : List Str) (ln : Int) : tokS (Str.ofString "/" :: r) ln = tokS r ln := by
  have h : tokrun (tok0 (Str.ofString "/" :: r)) ln = tokrun (tok0 r) ln := by
    show tokrun ((Str.ofString "/", 0) :: tok0 r) ln = _
    rw [tokrun, if_pos (beq_self_eq_true _), show lnNext (Str.ofString "/") ln = ln from if_neg (by decide +kernel)]
  unfold tokS; rw [h]
theorem tokN_SL (n : Nat) (r : List Str) (ln : Int) : tokN (n + 1) (Str.ofString "/" :: r) ln = tokN (n + 1) r ln := by rw [tokN, tokN, tokS_SL]
theorem tokN_step2 {n : Nat} {l r : List Str} {ln ln' : Int} {w : Str} (h : tokS l ln = (w, r, ln')) : tokN (n + 1) l ln = (w :: (tokN n r ln').1, (tokN n r ln').2) := by rw [tokN, h]
open PyProof.Rows in
theorem tokN_end (n : Nat) (ln : Int) : tokN n [] ln = (List.replicate n (Str.ofString ""), [], ln) := by
  induction n with
  | zero => rfl
  | succ n ih => rw [tokN_step2 (w := Str.ofString "") (r := []) (ln' := ln) rfl, ih]; rfl
theorem ne_true {c : Str} (h : c ≠ Str.ofString "") : ne c = true := bne_iff_ne.mpr h
theorem ne_false {c : Str} (h : c = Str.ofString "") : ne c = false := by rw [h]; decide +kernel
open PyProof.Rows in
theorem reads_jn : ∀ (cs : List Str) (ks : List (Str × Str)) (ln : Int), cs.filter ne = ks.map (·.2) → (∀ k ∈ ks, Seg k.1 k.2) →
    tokN (ks.length + 2) (signs (jn cs)) ln = (ks.map (·.1) ++ [Str.ofString "", Str.ofString ""], [], ln + (ks.map fun k => cntNl k.1).sum)
  | [], ks, ln, h, _ => by
    have : ks = [] := List.map_eq_nil_iff.mp h.symm
    subst this
    rw [jn_nil, signs_E]
    exact (tokN_end 2 ln).trans (congrArg (fun z : Int => (List.replicate 2 (Str.ofString ""), ([] : List Str), z)) (Int.add_zero ln).symm)
  | [c], ks, ln, h, hs => by
    by_cases e : c = Str.ofString ""
    · rw [List.filter_cons_of_neg (by rw [ne_false e]; decide)] at h
      have : ks = [] := List.map_eq_nil_iff.mp h.symm
      subst this
      rw [jn_one, e, signs_E]
      exact (tokN_end 2 ln).trans (congrArg (fun z : Int => (List.replicate 2 (Str.ofString ""), ([] : List Str), z)) (Int.add_zero ln).symm)
    · rw [List.filter_cons_of_pos (ne_true e)] at h
      match ks, h with
      | [k], h =>
        have ek : k.2 = c := by simp at h; exact h.symm
        have g := hs k (.head _)
        rw [ek] at g
        show tokN (2 + 1) (signs c) ln = _
        rw [tokN_step2 (g.tail ln), tokN_end 2]
        rw [List.map_cons, List.map_cons, List.map_nil, List.map_nil, List.sum_cons, List.sum_nil, Int.add_zero]; rfl
      | k :: k' :: r, h => simp at h
  | c :: d :: r, ks, ln, h, hs => by
    have es : signs (jn (c :: d :: r)) = signs c ++ Str.ofString "/" :: signs (jn (d :: r)) := by rw [jn_cons, signs_app, signs_app, signs_SL]; rfl
    rw [es]
    by_cases e : c = Str.ofString ""
    · rw [List.filter_cons_of_neg (by rw [ne_false e]; decide)] at h
      rw [e, signs_E, List.nil_append]
      rw [tokN_SL]
      exact reads_jn (d :: r) ks ln h hs
    · rw [List.filter_cons_of_pos (ne_true e)] at h
      match ks, h with
      | k :: ks, h =>
        rw [List.map_cons] at h
        obtain ⟨e1, e2⟩ := List.cons.inj h
        have g := hs k (.head _)
        rw [← e1] at g
        obtain ⟨r2, h2, h3⟩ := g.go (signs (jn (d :: r))) ln
        show tokN (ks.length + 2 + 1) _ ln = _
        rw [tokN_step2 h3]
        have e4 : tokN (ks.length + 2) r2 (ln + cntNl k.1) = tokN (ks.length + 2) (signs (jn (d :: r))) (ln + cntNl k.1) := by
          rcases h2 with rfl | rfl
          · rfl
          · rw [tokN_SL]
        rw [e4, reads_jn (d :: r) ks _ e2 (fun q hq => hs q (.tail _ hq)), List.map_cons, List.map_cons, List.sum_cons, Int.add_assoc]; rfl
open PyProof.Rows in
theorem signs_slashes (n : Nat) (x : Str) : signs (slashes n ++ x) = List.replicate n (Str.ofString "/") ++ signs x := by
  rw [signs_app]
  congr 1
  rw [signs_codes, codes_slashes, List.map_replicate, SL_eq]
theorem tokN_rep (m : Nat) (l : List Str) (ln : Int) : ∀ n, tokN (m + 1) (List.replicate n (Str.ofString "/") ++ l) ln = tokN (m + 1) l ln
  | 0 => rfl
  | n + 1 => by rw [List.replicate_succ, List.cons_append, tokN_SL, tokN_rep m l ln n]
open PyProof.Rows in
theorem reads_all {n : Nat} {cs : List Str} {ks : List (Str × Str)} (h : cs.filter ne = ks.map (·.2)) (hs : ∀ k ∈ ks, Seg k.1 k.2) :
    tokN ((ks.map (·.1)).length + 2) (signs (slashes n ++ jn cs)) 1 = (ks.map (·.1) ++ [Str.ofString "", Str.ofString ""], [], 1 + (ks.map fun k => cntNl k.1).sum) := by
  rw [signs_slashes, tokN_rep, List.length_map, reads_jn cs ks 1 h hs]
theorem readsOf_true {n : Nat} {cs : List Str} {ks : List (Str × Str)} (h : cs.filter ne = ks.map (·.2)) (hs : ∀ k ∈ ks, Seg k.1 k.2) : readsOf (slashes n ++ jn cs) (ks.map (·.1)) = true := by
  unfold readsOf
  rw [reads_all h hs, List.map_map]
  show (decide (_ = _) && decide (1 + _ = 1 + _)) = true
  rw [decide_eq_true rfl, Bool.true_and]
  exact decide_eq_true rfl

end S_N08_0
section S_N09_0
theorem at_SL (x : Str) (i : Nat) : StrLaws.At x (Str.ofString "/") x.length i ↔ (codes x)[i]? = some 47 := by
  rw [SL_eq]; exact StrLaws.subAt_one x 47 i
theorem rfind_free {x : Str} (h : Free x) : Txt.rfind x (Str.ofString "/") = -1 := by
  unfold Txt.rfind
  rcases StrLaws.last_spec x (Str.ofString "/") with ⟨e, _⟩ | ⟨i, _, hi, _⟩
  · rw [e]
  · exact absurd (List.mem_of_getElem? ((at_SL x i).mp hi)) h
theorem rfind_app {a w : Str} (h : Free w) : Txt.rfind (a ++ (Str.ofString "/" ++ w)) (Str.ofString "/") = (a.length : Int) := by
  have ec : codes (a ++ (Str.ofString "/" ++ w)) = codes a ++ 47 :: codes w := by rw [codes_app, codes_app, codes_SL]; rfl
  have hl := codes_len a
  have h0 : (codes (a ++ (Str.ofString "/" ++ w)))[a.length]? = some 47 := by
    rw [ec, List.getElem?_append_right (by omega), hl, Nat.sub_self]; rfl
  unfold Txt.rfind
  rcases StrLaws.last_spec (a ++ (Str.ofString "/" ++ w)) (Str.ofString "/") with ⟨_, e⟩ | ⟨i, e, hi, hj⟩
  · exact absurd ((at_SL _ _).mpr h0) (e _)
  · rw [e]
    have h1 := (at_SL _ _).mp hi
    have h2 : ¬ i < a.length := fun q => hj _ q ((at_SL _ _).mpr h0)
    have h3 : ¬ a.length < i := fun q => by
      rw [ec, List.getElem?_append_right (by omega)] at h1
      obtain ⟨k, hk⟩ : ∃ k, i - (codes a).length = k + 1 := ⟨i - (codes a).length - 1, by omega⟩
      rw [hk, List.getElem?_cons_succ] at h1
      exact h (List.mem_of_getElem? h1)
    show (i : Int) = _
    rw [show i = a.length by omega]
theorem mul_SL (n : Nat) : Txt.mul (Str.ofString "/") (n : Int) = slashes n := by
  have h := PyProof.Rows.signs_mul_one 47 (n : Int)
  rw [← SL_eq] at h
  apply codes_inj
  have h2 := congrArg (fun l : List Str => l.map fun c => c.cps.toList.headD 0) h
  rw [signs_codes, List.map_map, List.map_replicate] at h2
  have e : ((fun c : Str => c.cps.toList.headD 0) ∘ fun n => (⟨#[n]⟩ : Str)) = id := rfl
  rw [e, List.map_id] at h2
  rw [h2, codes_slashes, SL_eq]; rfl
theorem rstrip_SL {y : Str} (h : (codes y).getLast? ≠ some 47) : Txt.rstripChars (y ++ Str.ofString "/") (Str.ofString "/") = y := by
  have ec : codes (y ++ Str.ofString "/") = codes y ++ [47] := by rw [codes_app, codes_SL]
  have hl := codes_len y
  have hr : ((codes (y ++ Str.ofString "/")).reverse.takeWhile (Str.ofString "/").cps.contains).length = 1 := by
    rw [ec, List.reverse_append]
    show (List.takeWhile _ (47 :: (codes y).reverse)).length = 1
    rw [List.takeWhile_cons_of_pos (by decide +kernel)]
    have : List.takeWhile (Str.ofString "/").cps.contains (codes y).reverse = [] := by
      cases e : (codes y).reverse with
      | nil => rfl
      | cons a r =>
        refine List.takeWhile_cons_of_neg (fun hc => h ?_)
        rw [SL_eq] at hc
        have : a = 47 := by simpa using hc
        rw [← List.head?_reverse, e, this]; rfl
    rw [this]; rfl
  unfold Txt.rstripChars
  rw [PyProof.Rows.stripBy_eq]
  apply codes_inj
  have e1 : stripLo (Str.ofString "/").cps.contains false (y ++ Str.ofString "/") = 0 := rfl
  have e2 : stripHi (Str.ofString "/").cps.contains true (y ++ Str.ofString "/") 0 = y.length := by
    show (y ++ Str.ofString "/").length - (((codes (y ++ Str.ofString "/")).drop 0).reverse.takeWhile _).length = _
    rw [List.drop_zero, hr, ← codes_len, ec, List.length_append, hl]; rfl
  rw [e1, e2]
  show (Builtin.Str.strSub _ _ _).cps.toList = _
  rw [StrLaws.strSub_toList]
  show List.take _ (List.drop 0 (codes (y ++ Str.ofString "/"))) = _
  rw [ec, List.drop_zero, Nat.sub_zero, ← hl, List.take_left']
  rfl
theorem split_root {n : Nat} {w : Str} (h : Free w) : splitHead (slashes n ++ w) = slashes n ∧ splitTail (slashes n ++ w) = w := by
  match n with
  | 0 =>
    have e0 : slashes 0 ++ w = w := Str.empty_append w
    rw [e0]
    have e1 : Txt.rfind w (Str.ofString "/") + 1 = ((0 : Nat) : Int) := by rw [rfind_free h]; rfl
    have h1 : codes (Txt.slice w none (some ((0 : Nat) : Int))) = [] := by rw [codes_slice_to]; rfl
    unfold splitHead splitTail
    rw [e1]
    refine ⟨?_, codes_inj (by rw [codes_slice_from]; rfl)⟩
    rw [if_pos (by rw [← codes_len, h1]; rfl)]
    exact codes_inj (by rw [h1]; rfl)
  | m + 1 =>
    have e0 : slashes (m + 1) ++ w = slashes m ++ (Str.ofString "/" ++ w) := codes_inj (by
      rw [codes_app, codes_app, codes_app, codes_SL, codes_slashes, codes_slashes, List.replicate_succ', List.append_assoc])
    have hm : (slashes m).length = m := by rw [← codes_len, codes_slashes, List.length_replicate]
    have e1 : Txt.rfind (slashes (m + 1) ++ w) (Str.ofString "/") + 1 = ((m + 1 : Nat) : Int) := by rw [e0, rfind_app h, hm]; rfl
    have h1 : codes (Txt.slice (slashes (m + 1) ++ w) none (some ((m + 1 : Nat) : Int))) = List.replicate (m + 1) 47 := by
      rw [codes_slice_to, codes_app, codes_slashes, List.take_left' (by rw [List.length_replicate])]
    have h2 : Txt.slice (slashes (m + 1) ++ w) none (some ((m + 1 : Nat) : Int)) = slashes (m + 1) := codes_inj (by rw [h1]; rfl)
    have h3 : (slashes (m + 1)).length = m + 1 := by rw [← codes_len, codes_slashes, List.length_replicate]
    unfold splitHead splitTail
    rw [e1, h2]
    refine ⟨?_, codes_inj (by rw [codes_slice_from, codes_app, codes_slashes, List.drop_left' (by rw [List.length_replicate])])⟩
    rw [if_neg (by rw [h3]; omega), h3, mul_SL, if_neg (by rw [bne_self_eq_false]; decide)]
theorem split_more {y w : Str} (h : Free w) (hy : (codes y).getLast? ≠ some 47) (hn : codes y ≠ []) : splitHead (y ++ (Str.ofString "/" ++ w)) = y ∧ splitTail (y ++ (Str.ofString "/" ++ w)) = w := by
  have hl := codes_len y
  have ec : codes (y ++ (Str.ofString "/" ++ w)) = (codes y ++ [47]) ++ codes w := by rw [codes_app, codes_app, codes_SL, List.append_assoc]
  have el : (codes y ++ [47]).length = y.length + 1 := by rw [List.length_append, hl]; rfl
  have e1 : Txt.rfind (y ++ (Str.ofString "/" ++ w)) (Str.ofString "/") + 1 = ((y.length + 1 : Nat) : Int) := by rw [rfind_app h]; rfl
  have h2 : Txt.slice (y ++ (Str.ofString "/" ++ w)) none (some ((y.length + 1 : Nat) : Int)) = y ++ Str.ofString "/" := codes_inj (by
    rw [codes_slice_to, ec, List.take_left' el, codes_app, codes_SL])
  have h3 : (y ++ Str.ofString "/").length = y.length + 1 := by rw [← codes_len, codes_app, codes_SL, List.length_append, hl]; rfl
  unfold splitHead splitTail
  rw [e1, h2]
  refine ⟨?_, codes_inj (by rw [codes_slice_from, ec, List.drop_left' el])⟩
  rw [if_neg (by rw [h3]; omega), h3, mul_SL, if_pos, rstrip_SL hy]
  rw [bne_iff_ne]
  intro e
  have e2 := congrArg codes e
  rw [codes_app, codes_SL, codes_slashes, List.replicate_succ'] at e2
  have e3 := (List.append_inj' e2 rfl).1
  rw [e3] at hy hn
  cases hz : y.length with
  | zero => rw [hz] at hn; exact hn rfl
  | succ k => rw [hz, List.replicate_succ', List.getLast?_append] at hy; exact hy rfl
open PyProof.Rows in
theorem jn_last : ∀ {l : List Str}, (∀ u ∈ l, Free u ∧ u ≠ Str.ofString "") → l ≠ [] → ∀ x : Str, (codes (x ++ jn l)).getLast? ≠ some 47 ∧ codes (x ++ jn l) ≠ [] := by
  intro l h hn x
  obtain ⟨l0, u, rfl⟩ : ∃ l0 u, l = l0 ++ [u] := by
    rcases List.eq_nil_or_concat l with e | ⟨a, b, e⟩
    · exact absurd e hn
    · exact ⟨a, b, by rw [e, List.concat_eq_append]⟩
  obtain ⟨hf, hne⟩ := h u (by simp)
  have hu : codes u ≠ [] := fun e => hne (codes_nil.mp e)
  have key : ∃ z, codes (x ++ jn (l0 ++ [u])) = z ++ codes u := by
    by_cases e : l0 = []
    · subst e; exact ⟨codes x, by rw [codes_app]; rfl⟩
    · refine ⟨codes x ++ (codes (jn l0) ++ [47]), ?_⟩
      rw [jn_snoc _ _ e, codes_app, codes_app, codes_app, codes_SL, List.append_assoc, List.append_assoc]
  obtain ⟨z, ez⟩ := key
  rw [ez]
  refine ⟨?_, by intro e; exact hu (List.append_eq_nil_iff.mp e).2⟩
  rw [last_app, if_neg hu]
  intro e
  exact hf (List.mem_of_getLast? e)
theorem climb_all (n : Nat) : ∀ (k : Nat) (ks : List (Str × Str)) (ns : List Str), ks.length = k → (∀ q ∈ ks, Seg q.1 q.2) → climbRun (k + 1) (slashes n ++ jn (ks.map (·.2))) ns = some (slashes n, ks.map (·.1) ++ ns)
  | 0, ks, ns, hk, _ => by
    have : ks = [] := List.length_eq_zero_iff.mp hk
    subst this
    obtain ⟨h1, h2⟩ := split_root (n := n) (w := Str.ofString "") (by unfold Free; rw [codes_E]; exact List.not_mem_nil)
    show climbRun 1 (slashes n ++ Str.ofString "") ns = _
    rw [climbRun, h2, if_pos rfl, h1]; rfl
  | k + 1, ks, ns, hk, hs => by
    obtain ⟨k0, q, rfl⟩ : ∃ k0 q, ks = k0 ++ [q] := by
      rcases List.eq_nil_or_concat ks with e | ⟨a, b, e⟩
      · rw [e] at hk; cases hk
      · exact ⟨a, b, by rw [e, List.concat_eq_append]⟩
    have g := hs q (by simp)
    have hk0 : k0.length = k := by rw [List.length_append] at hk; exact Nat.succ.inj hk
    have hs0 : ∀ q ∈ k0, Seg q.1 q.2 := fun z hz => hs z (List.mem_append_left _ hz)
    have key : splitHead (slashes n ++ jn ((k0 ++ [q]).map (·.2))) = slashes n ++ jn (k0.map (·.2)) ∧ splitTail (slashes n ++ jn ((k0 ++ [q]).map (·.2))) = q.2 := by
      rw [List.map_append]
      show splitHead (slashes n ++ jn (k0.map (·.2) ++ [q.2])) = _ ∧ splitTail (slashes n ++ jn (k0.map (·.2) ++ [q.2])) = _
      by_cases e : k0 = []
      · subst e
        have := split_root (n := n) g.free
        rw [List.map_nil, jn_nil, app_E]
        exact this
      · have e' : k0.map (·.2) ≠ [] := fun h => e (List.map_eq_nil_iff.mp h)
        rw [jn_snoc _ _ e', ← app_assoc]
        have hl := jn_last (l := k0.map (·.2)) (fun u hu => by
          obtain ⟨z, hz, rfl⟩ := List.mem_map.mp hu
          exact ⟨(hs0 z hz).free, (hs0 z hz).some⟩) e' (slashes n)
        exact split_more g.free hl.1 hl.2
    rw [climbRun, key.1, key.2, if_neg g.some, g.tail, climb_all n k k0 _ hk0 hs0, List.map_append, List.append_assoc]; rfl

end S_N09_0
section S_N10_0
abbrev Tri := Str × Str × Str
/-- how far the last root stands among the first i pieces, and the root kept -/
def lastRoot (ps : List Tri) : Nat → Nat × Str
  | 0 => (0, Str.ofString "")
  | i + 1 => match ps[i]? with
    | some p => if (p.1 == Str.ofString "root") = true then (i + 1, p.2.1) else lastRoot ps i
    | none => lastRoot ps i
theorem lastRoot_yes {ps : List Tri} {i : Nat} {p : Tri} (h : ps[i]? = some p) (e : (p.1 == Str.ofString "root") = true) : lastRoot ps (i + 1) = (i + 1, p.2.1) := by
  rw [lastRoot, h]; exact if_pos e
theorem lastRoot_no {ps : List Tri} {i : Nat} {p : Tri} (h : ps[i]? = some p) (e : (p.1 == Str.ofString "root") = false) : lastRoot ps (i + 1) = lastRoot ps i := by
  rw [lastRoot, h]; exact if_neg (by rw [e]; exact Bool.false_ne_true)
theorem lastRoot_le (ps : List Tri) : ∀ i, (lastRoot ps i).1 ≤ i
  | 0 => Nat.le_refl _
  | i + 1 => by
    have h := lastRoot_le ps i
    rw [lastRoot]
    cases ps[i]? with
    | none => exact Nat.le_succ_of_le h
    | some p =>
      show (if _ then _ else _ : Nat × Str).1 ≤ _
      split
      · exact Nat.le_refl _
      · exact Nat.le_succ_of_le h
/-- one piece, taken from behind -/
def loStep (p : Tri) (st : Nat × List (Str × Str)) : Nat × List (Str × Str) :=
  if (p.1 == Str.ofString "up") = true then (st.1 + 1, st.2)
  else if (p.1 == Str.ofString "name") = true then (if st.1 = 0 then (0, (p.2.1, p.2.2) :: st.2) else (st.1 - 1, st.2))
  else st
def loRun (ps : List Tri) : Nat × List (Str × Str) := ps.foldr loStep (0, [])
def leftOver (root : Str) (ps : List Tri) : List (Str × Str) :=
  if (root == Str.ofString "") = true then
    (if List.replicate (loRun ps).1 (Str.ofString "..", Str.ofString "..") ++ (loRun ps).2 = [] then [(Str.ofString ".", Str.ofString ".")] else List.replicate (loRun ps).1 (Str.ofString "..", Str.ofString "..") ++ (loRun ps).2)
  else (loRun ps).2
/-- a piece on the heap: its tuple's place, its three texts -/
structure Pc where
  a : Nat
  k : Str
  kt : Tok
  w : Str
  wt : Tok
  u : Str
  ut : Tok
def Pc.tri (q : Pc) : Tri := (q.k, q.w, q.u)
def pcRefs (ps : List Pc) : List Value := ps.map fun q => .ref q.a
def pcVal (ps : List Pc) : List Tri := ps.map Pc.tri
theorem pcVal_get {ps : List Pc} {i : Nat} {q : Pc} (h : ps[i]? = some q) : (pcVal ps)[i]? = some q.tri := by unfold pcVal; rw [List.getElem?_map, h]; rfl
theorem pcRefs_len (ps : List Pc) : (pcRefs ps).length = ps.length := by unfold pcRefs; rw [List.length_map]
theorem pcRefs_drop (ps : List Pc) (n : Nat) : (pcRefs ps).drop n = pcRefs (ps.drop n) := by unfold pcRefs; rw [List.map_drop]
theorem pcRefs_get {ps : List Pc} {i : Nat} {v : Value} (h : (pcRefs ps).toArray[i]? = some v) : ∃ q, v = .ref q.a ∧ ps[i]? = some q := by
  simp only [List.getElem?_toArray, pcRefs, List.getElem?_map, Option.map_eq_some_iff] at h
  obtain ⟨q, h1, h2⟩ := h
  exact ⟨q, h2.symm, h1⟩
theorem pick_from (vs : List Value) (i : Nat) (h : i ≤ vs.length) : (slicePick vs.toArray (some (i : Int)) none none).toList = vs.drop i := by
  have e : sliceBounds (some (i : Int)) none none vs.toArray.size = ((i : Int), ((vs.toArray.size : Nat) : Int), 1) := by
    simp only [sliceBounds, Option.getD_none, show (1 : Int) > 0 by decide, if_true, if_neg (show ¬ ((i : Int) < 0) by omega)]
    congr 1
    have : vs.toArray.size = vs.length := by simp
    omega
  rw [kmk_pick_nat _ e]
  show (vs.drop i).take _ = _
  rw [List.take_of_length_le (by rw [List.length_drop, List.size_toArray]; exact Nat.le_refl _)]

end S_N10_0
section S_N11_0
/-- a pair (word, written) on the heap -/
structure Pr where
  a : Nat
  w : Str
  wt : Tok
  u : Str
  ut : Tok
def prVal (ks : List Pr) : List (Str × Str) := ks.map fun q => (q.w, q.u)
/-- what has been reckoned after i pieces from behind -/
def loAt (bs : List Tri) (i : Nat) : Nat × List (Str × Str) := (bs.reverse.take i).foldl (fun st p => loStep p st) (0, [])
theorem loAt_zero (bs : List Tri) : loAt bs 0 = (0, []) := rfl
theorem loAt_succ {bs : List Tri} {i : Nat} {p : Tri} (h : bs.reverse[i]? = some p) : loAt bs (i + 1) = loStep p (loAt bs i) := by
  unfold loAt
  rw [List.take_add_one, h, List.foldl_append]; rfl
theorem loAt_all (bs : List Tri) {n : Nat} (h : bs.length ≤ n) : loAt bs n = loRun bs := by
  unfold loAt loRun
  rw [List.take_of_length_le (by rw [List.length_reverse]; exact h), List.foldl_reverse]
theorem loStep_up {p : Tri} {st : Nat × List (Str × Str)} (h : (p.1 == Str.ofString "up") = true) : loStep p st = (st.1 + 1, st.2) := if_pos h
theorem loStep_pay {p : Tri} {d : Nat} {k : List (Str × Str)} (h : (p.1 == Str.ofString "up") = false) (h2 : (p.1 == Str.ofString "name") = true) (h3 : d ≠ 0) : loStep p (d, k) = (d - 1, k) := by
  unfold loStep; rw [if_neg (by rw [h]; exact Bool.false_ne_true), if_pos h2, if_neg h3]
theorem loStep_keep {p : Tri} {d : Nat} {k : List (Str × Str)} (h : (p.1 == Str.ofString "up") = false) (h2 : (p.1 == Str.ofString "name") = true) (h3 : d = 0) : loStep p (d, k) = (d, (p.2.1, p.2.2) :: k) := by
  unfold loStep; rw [if_neg (by rw [h]; exact Bool.false_ne_true), if_pos h2, if_pos h3, h3]
theorem loStep_still {p : Tri} {st : Nat × List (Str × Str)} (h : (p.1 == Str.ofString "up") = false) (h2 : (p.1 == Str.ofString "name") = false) : loStep p st = st := by
  unfold loStep; rw [if_neg (by rw [h]; exact Bool.false_ne_true), if_neg (by rw [h2]; exact Bool.false_ne_true)]
theorem loAt_le (bs : List Tri) : ∀ i, (loAt bs i).1 + (loAt bs i).2.length ≤ i
  | 0 => Nat.le_refl _
  | i + 1 => by
    have ih := loAt_le bs i
    cases h : bs.reverse[i]? with
    | none =>
      have e : loAt bs (i + 1) = loAt bs i := by
        unfold loAt
        rw [List.take_add_one, h]
        simp
      rw [e]; omega
    | some p =>
      rw [loAt_succ h]
      unfold loStep
      split
      · show (loAt bs i).1 + 1 + (loAt bs i).2.length ≤ _; omega
      split
      · split
        · show 0 + (_ :: (loAt bs i).2).length ≤ _
          rw [List.length_cons]; omega
        · show (loAt bs i).1 - 1 + (loAt bs i).2.length ≤ _; omega
      · omega
theorem leftOver_root {root : Str} {ps : List Tri} (h : (root == Str.ofString "") = false) : leftOver root ps = (loRun ps).2 := if_neg (by rw [h]; exact Bool.false_ne_true)
theorem leftOver_none {root : Str} {ps : List Tri} (h : (root == Str.ofString "") = true) (h2 : List.replicate (loRun ps).1 (Str.ofString "..", Str.ofString "..") ++ (loRun ps).2 = []) : leftOver root ps = [(Str.ofString ".", Str.ofString ".")] := by
  unfold leftOver; rw [if_pos h, if_pos h2]
theorem leftOver_some {root : Str} {ps : List Tri} (h : (root == Str.ofString "") = true) (h2 : List.replicate (loRun ps).1 (Str.ofString "..", Str.ofString "..") ++ (loRun ps).2 ≠ []) : leftOver root ps = List.replicate (loRun ps).1 (Str.ofString "..", Str.ofString "..") ++ (loRun ps).2 := by
  unfold leftOver; rw [if_pos h, if_neg h2]

end S_N11_0
section S_N12_0
inductive PieceOk : Tri → Prop
  | still0 : PieceOk (Str.ofString "still", Str.ofString "", Str.ofString "")
  | still1 : PieceOk (Str.ofString "still", Str.ofString ".", Str.ofString ".")
  | up : PieceOk (Str.ofString "up", Str.ofString "..", Str.ofString "..")
  | root (n : Nat) : 1 ≤ n → n ≤ 4 → PieceOk (Str.ofString "root", keptRoot n, slashes n)
  | name (w u : Str) : Seg w u → u ≠ Str.ofString "." → u ≠ Str.ofString ".." → PieceOk (Str.ofString "name", w, u)
theorem name_ok (i : Nat) (h : i < 8) (q : Bool) : PieceOk (Str.ofString "name", names8.getD i Str.empty, shield (names8.getD i Str.empty) q) := by
  match i, q with
  | 0, false => exact .name _ _ seg_p0 (by decide +kernel) (by decide +kernel)
  | 1, false => exact .name _ _ seg_p1 (by decide +kernel) (by decide +kernel)
  | 2, false => exact .name _ _ seg_p2 (by decide +kernel) (by decide +kernel)
  | 3, false => exact .name _ _ seg_p3 (by decide +kernel) (by decide +kernel)
  | 4, false => exact .name _ _ seg_p4 (by decide +kernel) (by decide +kernel)
  | 5, false => exact .name _ _ seg_p5 (by decide +kernel) (by decide +kernel)
  | 6, false => exact .name _ _ seg_p6 (by decide +kernel) (by decide +kernel)
  | 7, false => exact .name _ _ seg_p7 (by decide +kernel) (by decide +kernel)
  | 0, true => exact .name _ _ seg_q0 (by decide +kernel) (by decide +kernel)
  | 1, true => exact .name _ _ seg_q1 (by decide +kernel) (by decide +kernel)
  | 2, true => exact .name _ _ seg_q2 (by decide +kernel) (by decide +kernel)
  | 3, true => exact .name _ _ seg_q3 (by decide +kernel) (by decide +kernel)
  | 4, true => exact .name _ _ seg_q4 (by decide +kernel) (by decide +kernel)
  | 5, true => exact .name _ _ seg_q5 (by decide +kernel) (by decide +kernel)
  | 6, true => exact .name _ _ seg_q6 (by decide +kernel) (by decide +kernel)
  | 7, true => exact .name _ _ seg_q7 (by decide +kernel) (by decide +kernel)
  | n + 8, _ => omega
theorem root_ok (i : Nat) (h : i < 4) : PieceOk (Str.ofString "root", roots4.getD i Str.empty, Txt.mul (Str.ofString "/") ((i : Int) + 1)) := by
  have e : Txt.mul (Str.ofString "/") ((i : Int) + 1) = slashes (i + 1) := mul_SL (i + 1)
  rw [e]
  match i, h with
  | 0, _ => have h0 : roots4.getD 0 Str.empty = keptRoot 1 := by decide +kernel
            rw [h0]; exact .root 1 (by decide) (by decide)
  | 1, _ => have h0 : roots4.getD 1 Str.empty = keptRoot 2 := by decide +kernel
            rw [h0]; exact .root 2 (by decide) (by decide)
  | 2, _ => have h0 : roots4.getD 2 Str.empty = keptRoot 3 := by decide +kernel
            rw [h0]; exact .root 3 (by decide) (by decide)
  | 3, _ => have h0 : roots4.getD 3 Str.empty = keptRoot 4 := by decide +kernel
            rw [h0]; exact .root 4 (by decide) (by decide)
theorem piece_ok (c : Int) : PieceOk (pieceOf c) := by
  have e8 : (c.fdiv 16).fmod 8 = (c.fdiv 16) % 8 := Int.fmod_eq_emod_of_nonneg _ (by decide)
  have e4 : ((c.fdiv 16).fmod 8).fmod 4 = ((c.fdiv 16).fmod 8) % 4 := Int.fmod_eq_emod_of_nonneg _ (by decide)
  have e16 : c.fmod 16 = c % 16 := Int.fmod_eq_emod_of_nonneg _ (by decide)
  unfold pieceOf
  split
  · rename_i h
    have h2 : c.fmod 16 = 0 ∨ c.fmod 16 = 1 := by omega
    rcases h2 with h2 | h2
    · rw [h2, show Txt.mul (Str.ofString ".") 0 = Str.ofString "" by decide +kernel]; exact .still0
    · rw [h2, show Txt.mul (Str.ofString ".") 1 = Str.ofString "." by decide +kernel]; exact .still1
  split
  · exact .up
  split
  · have h := root_ok (((c.fdiv 16).fmod 8).fmod 4).toNat (by omega)
    rw [Int.toNat_of_nonneg (by omega)] at h
    exact h
  · exact name_ok _ (by omega) _
/-- what a piece that is no root writes -/
theorem PieceOk.free {p : Tri} (h : PieceOk p) (hr : (p.1 == Str.ofString "root") = false) : Free p.2.2 := by
  cases h with
  | still0 => unfold Free; rw [codes_E]; exact List.not_mem_nil
  | still1 => exact seg_dot.free
  | up => exact seg_up.free
  | root n h1 h2 => exact absurd hr (show ¬ ((Str.ofString "root" == Str.ofString "root") = false) by decide +kernel)
  | name w u g => exact g.free
theorem PieceOk.seg {p : Tri} (h : PieceOk p) (hr : (p.1 == Str.ofString "root") = false) (hu : ne p.2.2 = true) : Seg p.2.1 p.2.2 := by
  cases h with
  | still0 => exact absurd hu (by decide +kernel)
  | still1 => exact seg_dot
  | up => exact seg_up
  | root n h1 h2 => exact absurd hr (show ¬ ((Str.ofString "root" == Str.ofString "root") = false) by decide +kernel)
  | name w u g => exact g
theorem keptRoot_len (n : Nat) : (keptRoot n).length ≤ 10 := by
  unfold keptRoot
  split
  · decide +kernel
  split
  · decide +kernel
  · decide +kernel
theorem PieceOk.len {p : Tri} (h : PieceOk p) : p.2.2.length ≤ 10 ∧ p.2.1.length ≤ 10 := by
  cases h with
  | still0 => decide +kernel
  | still1 => decide +kernel
  | up => decide +kernel
  | root n h1 h2 => exact ⟨by rw [← codes_len, codes_slashes, List.length_replicate]; omega, keptRoot_len n⟩
  | name w u g => exact ⟨g.lu, g.lw⟩
theorem join_start (u : Str) (l : List Str) : joinRun u l = joinRun (Str.ofString "") (u :: l) := by
  have : joinStep (Str.ofString "") u = u := by
    by_cases h : Txt.startswith u (Str.ofString "/") = true
    · exact js1 h
    · exact js2 (by simpa using h) (by decide +kernel)
  show _ = joinRun (joinStep (Str.ofString "") u) l
  rw [this]
theorem start_slashes {n : Nat} (h : 1 ≤ n) : Txt.startswith (slashes n) (Str.ofString "/") = true := by
  rw [startswith_SL, codes_slashes]
  obtain ⟨m, rfl⟩ : ∃ m, n = m + 1 := ⟨n - 1, by omega⟩
  exact decide_eq_true rfl
theorem slashes_zero : slashes 0 = Str.ofString "" := by decide +kernel
/-- the root and what stands behind it, after i pieces -/
theorem root_inv (ps : List Tri) (hok : ∀ p ∈ ps, PieceOk p) : ∀ i, i ≤ ps.length → ∃ n, (lastRoot ps i).2 = keptRoot n ∧ joinRun (Str.ofString "") ((ps.take i).map (·.2.2)) = joinRun (slashes n) (((ps.take i).drop (lastRoot ps i).1).map (·.2.2)) ∧ ∀ p ∈ (ps.take i).drop (lastRoot ps i).1, (p.1 == Str.ofString "root") = false
  | 0, _ => ⟨0, by show Str.ofString "" = keptRoot 0; decide +kernel, by rw [slashes_zero]; rfl, fun _ h => by simp [lastRoot] at h⟩
  | i + 1, hi => by
    obtain ⟨n, h1, h2, h3⟩ := root_inv ps hok i (by omega)
    obtain ⟨p, hp⟩ : ∃ p, ps[i]? = some p := ⟨_, List.getElem?_eq_getElem (by omega)⟩
    have hpo := hok p (List.mem_of_getElem? hp)
    have et : ps.take (i + 1) = ps.take i ++ [p] := by rw [List.take_add_one, hp]; rfl
    cases hr : p.1 == Str.ofString "root" with
    | true =>
      rw [lastRoot_yes hp hr]
      obtain ⟨m, hm1, hm2⟩ : ∃ m, 1 ≤ m ∧ p.2.1 = keptRoot m ∧ p.2.2 = slashes m := by
        cases hpo with
        | still0 => exact absurd hr (by decide +kernel)
        | still1 => exact absurd hr (by decide +kernel)
        | up => exact absurd hr (by decide +kernel)
        | root m h1 h2 => exact ⟨m, h1, rfl, rfl⟩
        | name w u g => exact absurd hr (show ¬ ((Str.ofString "name" == Str.ofString "root") = true) by decide +kernel)
      refine ⟨m, hm2.1, ?_, ?_⟩
      · rw [et, List.map_append]
        have e1 : (ps.take i ++ [p]).drop (i + 1) = [] := List.drop_of_length_le (by rw [List.length_append, List.length_take]; show min i ps.length + 1 ≤ _; omega)
        rw [e1]
        unfold joinRun
        rw [List.foldl_append]
        show joinStep _ p.2.2 = slashes m
        rw [hm2.2, js1 (start_slashes hm1)]
      · intro q hq
        rw [List.drop_of_length_le (by rw [List.length_take]; exact Nat.min_le_left _ _)] at hq
        cases hq
    | false =>
      rw [lastRoot_no hp hr]
      have hle := lastRoot_le ps i
      have hlt : (ps.take i).length = i := by rw [List.length_take]; omega
      have ed : (ps.take (i + 1)).drop (lastRoot ps i).1 = (ps.take i).drop (lastRoot ps i).1 ++ [p] := by
        rw [et, List.drop_append_of_le_length (by omega)]
      refine ⟨n, h1, ?_, ?_⟩
      · rw [ed, et, List.map_append, List.map_append]
        unfold joinRun at h2 ⊢
        rw [List.foldl_append, List.foldl_append, h2]
      · intro q hq
        rw [ed] at hq
        rcases List.mem_append.mp hq with hq | hq
        · exact h3 q hq
        · rw [List.mem_singleton.mp hq]; exact hr

end S_N12_0
section S_N13_0
def DD : Str := Str.ofString ".."
/-- the road of normpath over the pieces behind the root, against the reckoning from behind -/
theorem fwd {root : Str} : ∀ (ps : List Tri), (∀ p ∈ ps, PieceOk p ∧ (p.1 == Str.ofString "root") = false) → ∀ (d : Nat) (ns : List Str), (∀ x ∈ ns, x ≠ Str.ofString "..") → (root.length ≠ 0 → d = 0) →
    ((ps.map (·.2.2)).filter ne).foldl (normStep root) (List.replicate d (Str.ofString "..") ++ ns) =
      List.replicate (d + if root.length = 0 then (loRun ps).1 - ns.length else 0) (Str.ofString "..") ++ (ns.take (ns.length - (loRun ps).1) ++ (loRun ps).2.map (·.2))
  | [], _, d, ns, _, _ => by
    have h0 : loRun [] = (0, []) := rfl
    rw [h0]
    show List.replicate d (Str.ofString "..") ++ ns = List.replicate (d + if root.length = 0 then 0 - ns.length else 0) (Str.ofString "..") ++ (ns.take (ns.length - 0) ++ [])
    rw [Nat.zero_sub, ite_self, Nat.add_zero, Nat.sub_zero, List.take_length, List.append_nil]
  | p :: ps, hok, d, ns, hns, hd => by
    have ih := fwd (root := root) ps (fun q hq => hok q (.tail _ hq))
    obtain ⟨hp, hpr⟩ := hok p (.head _)
    have er : loRun (p :: ps) = loStep p (loRun ps) := rfl
    rw [List.map_cons]
    cases hp with
    | still0 =>
      rw [List.filter_cons_of_neg (by decide +kernel), er, loStep_still (by decide +kernel) (by decide +kernel)]
      exact ih d ns hns hd
    | still1 =>
      rw [List.filter_cons_of_pos (by decide +kernel), List.foldl_cons, ns_skip2 (by decide +kernel), er, loStep_still (by decide +kernel) (by decide +kernel)]
      exact ih d ns hns hd
    | root n h1 h2 => exact absurd hpr (show ¬ ((Str.ofString "root" == Str.ofString "root") = false) by decide +kernel)
    | name w u g hu1 hu2 =>
      rw [List.filter_cons_of_pos (ne_true g.some), List.foldl_cons]
      show List.foldl (normStep root) (normStep root _ u) _ = _
      have hl : (u.length : Int) ≠ 0 := by
        intro e
        exact g.some (len_zero.mp (by omega))
      rw [ns_app1 hl (beq_eq_false_iff_ne.mpr hu1) (bne_iff_ne.mpr hu2), List.append_assoc, ih d (ns ++ [u]) (fun x hx => by
        rcases List.mem_append.mp hx with hx | hx
        · exact hns x hx
        · rw [List.mem_singleton.mp hx]; exact hu2) hd, er]
      have hla : (ns ++ [u]).length = ns.length + 1 := by rw [List.length_append]; rfl
      rw [hla]
      by_cases hD : (loRun ps).1 = 0
      · have es : loStep (Str.ofString "name", w, u) (loRun ps) = ((loRun ps).1, (w, u) :: (loRun ps).2) := loStep_keep (p := (Str.ofString "name", w, u)) (show (Str.ofString "name" == Str.ofString "up") = false by decide +kernel) (show (Str.ofString "name" == Str.ofString "name") = true by decide +kernel) hD
        rw [es, hD, Nat.zero_sub, Nat.zero_sub, Nat.sub_zero, Nat.sub_zero, ite_self, Nat.add_zero, List.take_length, ← hla, List.take_length, List.append_assoc]
        rfl
      · have es : loStep (Str.ofString "name", w, u) (loRun ps) = ((loRun ps).1 - 1, (loRun ps).2) := loStep_pay (p := (Str.ofString "name", w, u)) (show (Str.ofString "name" == Str.ofString "up") = false by decide +kernel) (show (Str.ofString "name" == Str.ofString "name") = true by decide +kernel) hD
        rw [es]
        show List.replicate (d + if root.length = 0 then (loRun ps).1 - (ns.length + 1) else 0) _ ++ (List.take (ns.length + 1 - (loRun ps).1) (ns ++ [u]) ++ _) = List.replicate (d + if root.length = 0 then (loRun ps).1 - 1 - ns.length else 0) _ ++ (List.take (ns.length - ((loRun ps).1 - 1)) ns ++ _)
        rw [show (loRun ps).1 - (ns.length + 1) = (loRun ps).1 - 1 - ns.length by omega, List.take_append_of_le_length (by omega), show ns.length + 1 - (loRun ps).1 = ns.length - ((loRun ps).1 - 1) by omega]
    | up =>
      rw [List.filter_cons_of_pos (by decide +kernel), List.foldl_cons, er, loStep_up (show (Str.ofString "up" == Str.ofString "up") = true by decide +kernel)]
      show List.foldl (normStep root) (normStep root (List.replicate d (Str.ofString "..") ++ ns) (Str.ofString "..")) _ = List.replicate (d + if root.length = 0 then (loRun ps).1 + 1 - ns.length else 0) _ ++ (ns.take (ns.length - ((loRun ps).1 + 1)) ++ (loRun ps).2.map (·.2))
      have c1 : ((Str.ofString "..").length : Int) ≠ 0 := by decide +kernel
      have c2 : (Str.ofString ".." == Str.ofString ".") = false := by decide +kernel
      have c3 : (Str.ofString ".." != Str.ofString "..") = false := by decide +kernel
      rcases snoc_cases ns with rfl | ⟨n0, x, rfl⟩
      · rw [List.append_nil]
        by_cases hr : root.length = 0
        · have key : normStep root (List.replicate d (Str.ofString "..")) (Str.ofString "..") = List.replicate (d + 1) (Str.ofString "..") ++ [] := by
            cases d with
            | zero => exact ns_app2 c1 c2 (by rw [hr]; rfl)
            | succ d => rw [List.replicate_succ', ns_app3 c1 c2 (beq_self_eq_true _), ← List.replicate_succ', ← List.replicate_succ', List.append_nil]
          rw [key, ih (d + 1) [] (fun x hx => nomatch hx) (fun h => absurd hr h)]
          rw [if_pos hr, if_pos hr]
          show List.replicate (d + 1 + ((loRun ps).1 - 0)) _ ++ (List.take _ [] ++ _) = List.replicate (d + ((loRun ps).1 + 1 - 0)) _ ++ (List.take _ [] ++ _)
          rw [List.take_nil, List.take_nil, Nat.sub_zero, Nat.sub_zero, Nat.add_assoc, Nat.add_comm 1]
        · obtain rfl := hd hr
          have key : normStep root (List.replicate 0 (Str.ofString "..")) (Str.ofString "..") = List.replicate 0 (Str.ofString "..") ++ [] := ns_pop0 c1 c2 c3 (by omega)
          rw [key, ih 0 [] (fun x hx => nomatch hx) (fun _ => rfl), if_neg hr, if_neg hr, List.take_nil, List.take_nil]
      · have hx : (x == Str.ofString "..") = false := beq_eq_false_iff_ne.mpr (hns x (by simp))
        rw [← List.append_assoc, ns_pop c1 c2 c3 hx, ih d n0 (fun y hy => hns y (List.mem_append_left _ hy)) hd]
        have hla : (n0 ++ [x]).length = n0.length + 1 := by rw [List.length_append]; rfl
        rw [hla, show (loRun ps).1 + 1 - (n0.length + 1) = (loRun ps).1 - n0.length by omega, show n0.length + 1 - ((loRun ps).1 + 1) = n0.length - (loRun ps).1 by omega, List.take_append_of_le_length (by omega)]
theorem keptRoot_slashes (n : Nat) : ∃ m, keptRoot n = slashes m := by
  unfold keptRoot
  split
  · exact ⟨0, slashes_zero.symm⟩
  split
  · exact ⟨2, by decide +kernel⟩
  · exact ⟨1, by decide +kernel⟩
theorem keptRoot_zero {n : Nat} : (keptRoot n).length = 0 ↔ n = 0 := by
  unfold keptRoot
  split
  · exact ⟨fun _ => by assumption, fun _ => by decide +kernel⟩
  · rename_i h
    constructor
    · intro e
      split at e
      · exact absurd e (by decide +kernel)
      · exact absurd e (by decide +kernel)
    · exact fun e => absurd e h
theorem lo_seg : ∀ ps : List Tri, (∀ p ∈ ps, PieceOk p ∧ (p.1 == Str.ofString "root") = false) → ∀ k ∈ (loRun ps).2, Seg k.1 k.2
  | [], _, k, hk => nomatch hk
  | p :: ps, hok, k, hk => by
    have ih := lo_seg ps (fun q hq => hok q (.tail _ hq))
    have er : loRun (p :: ps) = loStep p (loRun ps) := rfl
    rw [er] at hk
    obtain ⟨hp, _⟩ := hok p (.head _)
    unfold loStep at hk
    split at hk
    · exact ih k hk
    split at hk
    · rename_i h
      split at hk
      · rcases List.mem_cons.mp hk with rfl | hk
        · cases hp with
          | still0 => exact absurd h (by decide +kernel)
          | still1 => exact absurd h (by decide +kernel)
          | up => exact absurd h (by decide +kernel)
          | root n h1 h2 => exact absurd h (show ¬ ((Str.ofString "root" == Str.ofString "name") = true) by decide +kernel)
          | name w u g => exact g
        · exact ih k hk
      · exact ih k hk
    · exact ih k hk
theorem left_seg {root : Str} {ps : List Tri} (hok : ∀ p ∈ ps, PieceOk p ∧ (p.1 == Str.ofString "root") = false) : ∀ k ∈ leftOver root ps, Seg k.1 k.2 := by
  intro k hk
  unfold leftOver at hk
  split at hk
  · split at hk
    · rw [List.mem_singleton.mp hk]; exact seg_dot
    · rcases List.mem_append.mp hk with hk | hk
      · rw [(List.mem_replicate.mp hk).2]; exact seg_up
      · exact lo_seg ps hok k hk
  · exact lo_seg ps hok k hk
theorem norm_left {n : Nat} {ps : List Tri} (hok : ∀ p ∈ ps, PieceOk p ∧ (p.1 == Str.ofString "root") = false) : normOf (joinRun (slashes n) (ps.map (·.2.2))) = keptRoot n ++ jn ((leftOver (keptRoot n) ps).map (·.2)) := by
  have hf : ∀ b ∈ ps.map (·.2.2), Free b := fun b hb => by
    obtain ⟨p, hp, rfl⟩ := List.mem_map.mp hb
    exact (hok p hp).1.free (hok p hp).2
  obtain ⟨cs, ej, g, ef⟩ := run_slashes (n := n) hf
  have hs := left_seg (root := keptRoot n) hok
  have e := fwd (root := keptRoot n) ps hok 0 [] (fun x hx => nomatch hx) (fun _ => rfl)
  rw [List.append_nil, List.take_nil, List.nil_append, Nat.zero_add] at e
  rw [ej, normOf_cat, normCat_eq g, ef]
  unfold normRun
  rw [show ([] : List Str) = List.replicate 0 (Str.ofString "..") from rfl, e]
  by_cases hn : n = 0
  · have hz : (keptRoot n).length = 0 := keptRoot_zero.mpr hn
    have hE : keptRoot n = Str.ofString "" := len_zero.mp hz
    rw [if_pos hz]
    have eB : (keptRoot n == Str.ofString "") = true := by rw [hE]; exact beq_self_eq_true _
    have em : List.replicate ((loRun ps).1 - ([] : List Str).length) (Str.ofString "..") ++ (loRun ps).2.map (·.2) = (List.replicate (loRun ps).1 (Str.ofString "..", Str.ofString "..") ++ (loRun ps).2).map (·.2) := by
      rw [List.map_append, List.map_replicate]; rfl
    rw [em]
    by_cases hk : List.replicate (loRun ps).1 (Str.ofString "..", Str.ofString "..") ++ (loRun ps).2 = []
    · rw [leftOver_none eB hk, hk]
      rw [hE]
      decide +kernel
    · have el := leftOver_some eB hk
      rw [el] at hs
      rw [el]
      have hl := jn_last (l := (List.replicate (loRun ps).1 (Str.ofString "..", Str.ofString "..") ++ (loRun ps).2).map (·.2)) (fun u hu => by
        obtain ⟨k, hk, rfl⟩ := List.mem_map.mp hu
        exact ⟨(hs k hk).free, (hs k hk).some⟩) (fun h => hk (List.map_eq_nil_iff.mp h)) (keptRoot n)
      rw [if_neg (fun h => hl.2 (codes_nil.mpr (len_zero.mp h)))]
  · have hz : ¬ (keptRoot n).length = 0 := fun h => hn (keptRoot_zero.mp h)
    have eB : (keptRoot n == Str.ofString "") = false := beq_eq_false_iff_ne.mpr (fun h => hz (len_zero.mpr h))
    rw [if_neg hz, leftOver_root eB]
    show (if (keptRoot n ++ jn ([] ++ _)).length = 0 then _ else _) = _
    rw [List.nil_append, if_neg (by rw [Str.length_append]; omega)]; rfl
/-- the law, in plain words -/
theorem law_plain (ps : List Tri) (hok : ∀ p ∈ ps, PieceOk p) :
    normOf (joinRun (Str.ofString "") (ps.map (·.2.2))) = (lastRoot ps ps.length).2 ++ jn ((leftOver (lastRoot ps ps.length).2 (ps.drop (lastRoot ps ps.length).1)).map (·.2)) ∧
    readsOf (normOf (joinRun (Str.ofString "") (ps.map (·.2.2)))) ((leftOver (lastRoot ps ps.length).2 (ps.drop (lastRoot ps ps.length).1)).map (·.1)) = true ∧
    readsOf (joinRun (Str.ofString "") (ps.map (·.2.2))) (((ps.drop (lastRoot ps ps.length).1).filter (fun p => ne p.2.2)).map (·.2.1)) = true ∧
    climbRun ((leftOver (lastRoot ps ps.length).2 (ps.drop (lastRoot ps ps.length).1)).length + 1) (normOf (joinRun (Str.ofString "") (ps.map (·.2.2)))) [] = some ((lastRoot ps ps.length).2, (leftOver (lastRoot ps ps.length).2 (ps.drop (lastRoot ps ps.length).1)).map (·.1)) ∧
    (∀ k ∈ leftOver (lastRoot ps ps.length).2 (ps.drop (lastRoot ps ps.length).1), Seg k.1 k.2) ∧ (∀ p ∈ (ps.drop (lastRoot ps ps.length).1).filter (fun p => ne p.2.2), Seg p.2.1 p.2.2) := by
  obtain ⟨n, h1, h2, h3⟩ := root_inv ps hok ps.length (Nat.le_refl _)
  rw [List.take_length] at h2 h3
  generalize hb : ps.drop (lastRoot ps ps.length).1 = bs at h2 h3 ⊢
  have hbo : ∀ p ∈ bs, PieceOk p ∧ (p.1 == Str.ofString "root") = false := fun p hp => ⟨hok p (by rw [← hb] at hp; exact List.mem_of_mem_drop hp), h3 p hp⟩
  rw [h1, h2]
  have hs := left_seg (root := keptRoot n) hbo
  have hn := norm_left (n := n) hbo
  have hf : ∀ p ∈ bs.filter (fun p => ne p.2.2), Seg p.2.1 p.2.2 := fun p hp => by
    obtain ⟨h1, h2⟩ := List.mem_filter.mp hp
    exact (hbo p h1).1.seg (hbo p h1).2 h2
  obtain ⟨m, em⟩ := keptRoot_slashes n
  refine ⟨hn, ?_, ?_, ?_, hs, hf⟩
  · rw [hn, em]
    refine readsOf_true ?_ (em ▸ hs)
    rw [List.filter_eq_self]
    intro u hu
    obtain ⟨k, hk, rfl⟩ := List.mem_map.mp hu
    exact ne_true ((em ▸ hs) k hk).some
  · have hfr : ∀ b ∈ bs.map (·.2.2), Free b := fun b hb => by
      obtain ⟨p, hp, rfl⟩ := List.mem_map.mp hb
      exact (hbo p hp).1.free (hbo p hp).2
    obtain ⟨cs, ej, g, ef⟩ := run_slashes (n := n) hfr
    rw [ej]
    have := readsOf_true (n := n) (cs := cs) (ks := (bs.filter (fun p => ne p.2.2)).map (fun p => (p.2.1, p.2.2))) (by rw [ef, List.filter_map, List.map_map]; rfl) (fun k hk => by
      obtain ⟨p, hp, rfl⟩ := List.mem_map.mp hk
      exact hf p hp)
    rw [List.map_map] at this
    exact this
  · rw [hn, em]
    have := climb_all m _ (leftOver (slashes m) bs) [] rfl (em ▸ hs)
    rw [List.append_nil] at this
    exact this

end S_N13_0

section S_P13_2
theorem gt_reorder {h₀ h : Heap} {L : Addr} {e1 e2 : Addr × Obj} {led news : List (Addr × Obj)} (N : News h₀ L h (e1 :: e2 :: (led ++ news))) : News h₀ L h (led ++ e1 :: e2 :: news) := fun q hq => by
  rcases List.mem_append.mp hq with hq | hq
  · exact N q (.tail _ (.tail _ (List.mem_append_left _ hq)))
  · rcases List.mem_cons.mp hq with rfl | hq
    · exact N _ (.head _)
    · rcases List.mem_cons.mp hq with rfl | hq
      · exact N _ (.tail _ (.head _))
      · exact N q (.tail _ (.tail _ (List.mem_append_right _ hq)))
theorem gt_drop {h₀ h : Heap} {L : Addr} {e1 e2 : Addr × Obj} {led news : List (Addr × Obj)} (N : News h₀ L h (led ++ e1 :: e2 :: news)) : News h₀ L h (led ++ news) := fun q hq => by
  rcases List.mem_append.mp hq with hq | hq
  · exact N q (List.mem_append_left _ hq)
  · exact N q (List.mem_append_right _ (.tail _ (.tail _ hq)))
theorem gt_off {I bm d : Nat} {o1 o2 : Obj} {news : List (Addr × Obj)} (h : ∀ q ∈ news, q.1 ≠ d) (h1 : d < bm) (h2 : bm < I) : ∀ q ∈ (I, o1) :: (bm, o2) :: news, q.1 ≠ d :=
  List.forall_mem_cons.mpr ⟨neN (by dsimp only; omega), List.forall_mem_cons.mpr ⟨neN (by dsimp only; omega), h⟩⟩
theorem LexOk.lt_pb {x : LexP} (ok : LexOk x) : x.sg < x.pb := by
  have := ok.o2; have := ok.o3; have := ok.o4; have := ok.o5; have := ok.o6; have := ok.o7; have := ok.o8
  omega
theorem LexOk.lt_pb2 {x : LexP} (ok : LexOk x) : x.dl < x.pb := by
  have := ok.o7; have := ok.o8
  omega
theorem gm_start {lx I : Nat} {ta : Tok} (y : Str) : (if y = Str.ofString "fiter" then some (Value.ref I) else if y = Str.ofString "token" then some (.str (Str.ofString "") ta) else List.lookup y [(Str.ofString "self", Value.ref lx)]) = gm lx I none (Str.ofString "") ta y := by
  unfold gm
  by_cases e1 : y = Str.ofString "ch"
  · subst e1; rfl
  by_cases e2 : y = Str.ofString "token"
  · subst e2; rfl
  by_cases e3 : y = Str.ofString "fiter"
  · subst e3; rfl
  by_cases e4 : y = Str.ofString "self"
  · subst e4; rfl
  simp only [e1, e2, e3, e4, if_false, List.lookup, beq_eq_false_iff_ne.mpr e4]
section
variable {w : World} {p : Program} {loose : List Str} {mean : ExcName → Option Value} {mg mb : Str → Option Value} {dp un : Nat} {gd : Option (List Code)} {cn : Str} {cs : Scope} {a : Addr} {ccd : Value} {cl : List (Str × Addr)} {outer : List Env} {A₀ : Around} {base h₀ : Heap} {L : Addr} {m : Str → Option Value} {news : List (Addr × Obj)} {s : Shared} {Q E : Value → Shared → Prop}
theorem get_token_spec {x : LexP} {ln : Int} {tl : Tok} {l : List (Str × Tok)} {n : Nat}
    (B : Below A₀ base outer h₀) (F : Fr h₀ L s.heap m) (X : (hd.heap_39 w.params).In h₀) (N : News h₀ L s.heap (lexLed w x ln tl l n ++ news)) (T : Top p loose mean mg mb h₀) (hk : cs.kind = .function) (C : CodeHd base 184 180)
    (hd : dp + 40 < recursionLimit) (hu : un + 800 < cLine) (ok : LexOk x) (hs : ∀ q ∈ news, q.1 ≠ x.sg) (hl : ∀ q ∈ news, q.1 ≠ x.dl) (gl : GoodL l)
    (hret : ∀ t tl' n' h' tk', Fr h₀ L h' m → News h₀ L h' (lexLed w x (tokrun l ln).2.2 tl' (tokrun l ln).2.1 n' ++ news) → Q (.str (tokrun l ln).1 t) { s with heap := h', toks := tk' }) :
    wpAny (model pw w) (ktrTop dp un gd cn cs L a ccd cl outer) (call (.ref 164) [.ref x.lx]) Q E s := by
  simp only [lexLed, List.cons_append, List.nil_append] at N
  refine wpAny_call ?_
  k_dflt ktr_enter
  k_steps
  refine wpAny_For ?_ (by intro _; rfl)
  k_steps
  rename_i g1 L1 h4 FG1 B1 X1 T1 tka tkb h3 q1 h2 l1a I1 h1 l1b hh F1 N1
  refine pyIter_cit (N1.get (.head _)) rfl ?_
  have F2 := fr_cast F1 (m' := gm x.lx I1 none (Str.ofString "") tkb) (fun y => gm_start y)
  clear F1
  have hn1 : ∀ q ∈ news, q.1 < q1 := lt_of_all l1a.2.2.2.2.2.2.2.2.2.2
  have hn2 : ∀ q ∈ news, q.1 < I1 := lt_of_all l1b.2.2.2.2.2.2.2.2.2.2.2
  have N2 : News g1 L1 hh (gtLed w x I1 q1 (citObj q1 (tkb + 1 + 1 + 1)) ln tl l n news) := by
    exact gt_reorder N1
  k_dflt (refine' for_cit (l := l) (ln := ln) (acc := Str.ofString "") (news := news) (fun l' ln' acc' => GoodL l' ∧ acc' = Str.ofString "" ∧ tokrun l' ln' = tokrun l ln) (fun ln' acc' => tokrun l ln = (acc', [], ln')) ?B ?X ?T ?K ?C ?hch ?hd ?hu ok ?i1 ?i2 ?hc hs hl ?hI ?hG ?turn ?done ?g ?st)
  case B => k_asm
  case X => k_asm
  case T => k_asm
  case K => rfl
  case C => kn_code
  case hch => rfl
  case hd => ktr_room
  case hu => ktr_units
  case i1 => exact l1a.1
  case i2 => exact l1b.1
  case hc => exact l1a.2.2.2.2.1
  case hI => exact fun q hq => Nat.ne_of_lt (hn2 q hq)
  case hG => exact fun _ _ _ h => h.1
  case g => exact ⟨gl, rfl, rfl⟩
  case st => exact ⟨_, _, _, _, F2, N2⟩
  case done =>
    intro ln' acc' h' tk' hg hd'
    obtain ⟨n', tl', ta', chv', F3, N3⟩ := hd'
    have e : tokrun l ln = (acc', [], ln') := by
      rcases hg with ⟨_, rfl, e⟩ | e
      · exact e.symm
      · exact e
    rw [e] at hret
    unfold gm at F3
    k_steps
    all_goals exact hret _ _ _ _ _ (by k_asm) (gt_drop (by k_asm))
  case turn =>
    intro c t r ln' acc' h' tk' n' tl' ta' hg F3 N3
    obtain ⟨gl', rfl, e⟩ := hg
    have hc1 : c.length = 1 := gl'.2 _ (.head _)
    have gr := gl'.tail
    have hrl : r.length ≤ 1000000 := gr.1
    have hs2 := gt_off (I := I1) (bm := q1) (o1 := citObj q1 (tkb + 1 + 1 + 1)) (o2 := methodObj (.ref 157) (.ref x.lx)) hs (Nat.lt_trans ok.lt_pb l1a.1) l1b.1
    have hl2 := gt_off (I := I1) (bm := q1) (o1 := citObj q1 (tkb + 1 + 1 + 1)) (o2 := methodObj (.ref 157) (.ref x.lx)) hl (Nat.lt_trans ok.lt_pb2 l1a.1) l1b.1
    unfold gm at F3
    simp only [gtLed, lexLed, List.cons_append, List.nil_append] at N3
    have hal : (Str.ofString "").length = 0 := by decide +kernel
    k_steps
    · have e2 := ‹(c == Str.ofString "\"") = true›
      have e1' : (c == Str.ofString "/") = false := by rw [← Bool.not_eq_true', ← occ_slash hc1]; assumption
      have hp : qrun r (lnNext c ln') (Str.ofString "") = tokrun l ln := by rw [← e, tokrun]; simp only [e1', e2, if_true, if_false, Bool.false_eq_true]
      have ha0 : (Str.ofString "").length + r.length ≤ 1000000 := by omega
      refine wpAny_For ?_ (by intro _; rfl)
      k_steps
      refine pyIter_cit (News.get (by k_asm) (by k_mem)) rfl ?_
      k_dflt (refine' for_cit (l := r) (ln := (lnNext c ln')) (acc := (Str.ofString "")) (x := x) (t0 := tkb + 1 + 1 + 1) (bm := q1) (news := news) (fun l2 ln2 acc2 => GoodL l2 ∧ acc2.length + l2.length ≤ 1000000 ∧ qrun l2 ln2 acc2 = tokrun l ln) (fun ln2 acc2 => tokrun l ln = (acc2, [], ln2)) ?B ?X ?T ?K ?C ?hch ?hd ?hu ok ?i1 ?i2 ?hc hs hl ?hI ?hG ?turn ?done ?g ?st)
      case B => k_asm
      case X => k_asm
      case T => k_asm
      case K => rfl
      case C => kn_code
      case hch => rfl
      case hd => ktr_room
      case hu => ktr_units
      case i1 => exact l1a.1
      case i2 => exact l1b.1
      case hc => exact l1a.2.2.2.2.1
      case hI => exact fun q hq => Nat.ne_of_lt (hn2 q hq)
      case hG => exact fun _ _ _ h => h.1
      case g => exact ⟨by first | assumption | exact GoodL.tl (by assumption), ha0, hp⟩
      case st => exact live_of (by k_asm) (by k_asm) (by (intro y; unfold gm; by_cases e1 : y = Str.ofString "ch"; (subst e1; rfl); by_cases e2 : y = Str.ofString "token"; (subst e2; rfl); by_cases e3 : y = Str.ofString "fiter"; (subst e3; rfl); by_cases e4 : y = Str.ofString "self"; (subst e4; rfl); simp only [e1, e2, e3, e4, if_false]))
      case done =>
        intro ln2 acc2 h2 tk2 hg2 hd2
        obtain ⟨n2, tl2, ta2, chv2, F4, N4⟩ := hd2
        have ez : tokrun l ln = (acc2, [], ln2) := by
          rcases hg2 with ⟨_, _, eq⟩ | eq
          · exact eq.symm
          · exact eq
        dsimp only
        k_steps
        all_goals exact .inr ⟨ln2, acc2, ez, ⟨_, _, _, _, by k_asm, by k_asm⟩⟩
      case turn =>
        intro c2 t2 r2 ln2 acc2 h2 tk2 n2 tl2 ta2 hg2 F4 N4
        obtain ⟨gl2, ha2, eq2⟩ := hg2
        have hc2 : c2.length = 1 := gl2.2 _ (.head _)
        have gr2 := gl2.tail
        have hrl2 : r2.length ≤ 1000000 := gr2.1
        simp only [List.length_cons] at ha2
        have ha3 : acc2.length ≤ 1000000 := by omega
        unfold gm at F4
        simp only [gtLed, lexLed, List.cons_append, List.nil_append] at N4
        k_steps
        · have e3 : (c2 == Str.ofString "\"") = true := by assumption
          have z : tokrun l ln = (acc2, r2, lnNext c2 ln2) := by rw [← eq2, qrun_end e3]
          rw [z] at hret
          exact hret _ _ _ _ _ (by k_asm) (gt_drop (by k_asm))
        · have e3 : (c2 == Str.ofString "\"") = false := by assumption
          have e4 := ‹(c2 == Str.ofString "\\") = true›
          have hz := ‹(hdS r2).length ≤ 1›
          refine .inl ⟨r2.tail, lnNext (hdS r2) (lnNext c2 ln2), acc2 ++ hdS r2, ?_, ⟨gr2.tl, ?_, ?_⟩, live_of (by k_asm) (by k_asm) (by (intro y; unfold gm; by_cases e1 : y = Str.ofString "ch"; (subst e1; rfl); by_cases e2 : y = Str.ofString "token"; (subst e2; rfl); by_cases e3 : y = Str.ofString "fiter"; (subst e3; rfl); by_cases e4 : y = Str.ofString "self"; (subst e4; rfl); simp only [e1, e2, e3, e4, if_false]))⟩
          · rw [List.length_tail]; omega
          · rw [List.length_tail]; have := hdS_len r2 gr2; omega
          · rw [← eq2, qrun_esc e3 e4]
        · have e3 : (c2 == Str.ofString "\"") = false := by assumption
          have e4 := ‹(c2 == Str.ofString "\\") = false›
          refine .inl ⟨r2, lnNext c2 ln2, acc2 ++ c2, ?_, ⟨gr2, ?_, ?_⟩, live_of (by k_asm) (by k_asm) (by (intro y; unfold gm; by_cases e1 : y = Str.ofString "ch"; (subst e1; rfl); by_cases e2 : y = Str.ofString "token"; (subst e2; rfl); by_cases e3 : y = Str.ofString "fiter"; (subst e3; rfl); by_cases e4 : y = Str.ofString "self"; (subst e4; rfl); simp only [e1, e2, e3, e4, if_false]))⟩
          · omega
          · omega
          · rw [← eq2, qrun_go e3 e4]
    · have e2 := ‹(c == Str.ofString "\"") = false›
      have e4 := ‹(c == Str.ofString "\\") = true›
      have e1' : (c == Str.ofString "/") = false := by rw [← Bool.not_eq_true', ← occ_slash hc1]; assumption
      have hp : prun r.tail (lnNext (hdS r) (lnNext c ln')) (Str.ofString "" ++ hdS r) = tokrun l ln := by rw [← e, tokrun]; simp only [e1', e2, e4, if_true, if_false, Bool.false_eq_true]
      have ha0 : (Str.ofString "" ++ hdS r).length + r.tail.length ≤ 1000000 := by have := hdS_len r gr; have := gl'.1; simp only [List.length_cons] at this; rw [List.length_tail]; omega
      refine wpAny_For ?_ (by intro _; rfl)
      k_steps
      refine pyIter_cit (News.get (by k_asm) (by k_mem)) rfl ?_
      k_dflt (refine' for_cit (l := r.tail) (ln := (lnNext (hdS r) (lnNext c ln'))) (acc := (Str.ofString "" ++ hdS r)) (x := x) (t0 := tkb + 1 + 1 + 1) (bm := q1) (news := news) (fun l2 ln2 acc2 => GoodL l2 ∧ acc2.length + l2.length ≤ 1000000 ∧ prun l2 ln2 acc2 = tokrun l ln) (fun ln2 acc2 => tokrun l ln = (acc2, [], ln2)) ?B ?X ?T ?K ?C ?hch ?hd ?hu ok ?i1 ?i2 ?hc hs hl ?hI ?hG ?turn ?done ?g ?st)
      case B => k_asm
      case X => k_asm
      case T => k_asm
      case K => rfl
      case C => kn_code
      case hch => rfl
      case hd => ktr_room
      case hu => ktr_units
      case i1 => exact l1a.1
      case i2 => exact l1b.1
      case hc => exact l1a.2.2.2.2.1
      case hI => exact fun q hq => Nat.ne_of_lt (hn2 q hq)
      case hG => exact fun _ _ _ h => h.1
      case g => exact ⟨by first | assumption | exact GoodL.tl (by assumption), ha0, hp⟩
      case st => exact live_of (by k_asm) (by k_asm) (by (intro y; unfold gm; by_cases e1 : y = Str.ofString "ch"; (subst e1; rfl); by_cases e2 : y = Str.ofString "token"; (subst e2; rfl); by_cases e3 : y = Str.ofString "fiter"; (subst e3; rfl); by_cases e4 : y = Str.ofString "self"; (subst e4; rfl); simp only [e1, e2, e3, e4, if_false]))
      case done =>
        intro ln2 acc2 h2 tk2 hg2 hd2
        obtain ⟨n2, tl2, ta2, chv2, F4, N4⟩ := hd2
        have ez : tokrun l ln = (acc2, [], ln2) := by
          rcases hg2 with ⟨_, _, eq⟩ | eq
          · exact eq.symm
          · exact eq
        dsimp only
        k_steps
        all_goals exact .inr ⟨ln2, acc2, ez, ⟨_, _, _, _, by k_asm, by k_asm⟩⟩
      case turn =>
        intro c2 t2 r2 ln2 acc2 h2 tk2 n2 tl2 ta2 hg2 F4 N4
        obtain ⟨gl2, ha2, eq2⟩ := hg2
        have hc2 : c2.length = 1 := gl2.2 _ (.head _)
        have gr2 := gl2.tail
        have hrl2 : r2.length ≤ 1000000 := gr2.1
        simp only [List.length_cons] at ha2
        have ha3 : acc2.length ≤ 1000000 := by omega
        unfold gm at F4
        simp only [gtLed, lexLed, List.cons_append, List.nil_append] at N4
        k_steps
        · have e3 : (c2 == Str.ofString "/") = false := by rw [← Bool.not_eq_true', ← occ_slash hc2]; assumption
          have e4 := ‹(c2 == Str.ofString "\\") = true›
          have hz := ‹(hdS r2).length ≤ 1›
          refine .inl ⟨r2.tail, lnNext (hdS r2) (lnNext c2 ln2), acc2 ++ hdS r2, ?_, ⟨gr2.tl, ?_, ?_⟩, live_of (by k_asm) (by k_asm) (by (intro y; unfold gm; by_cases e1 : y = Str.ofString "ch"; (subst e1; rfl); by_cases e2 : y = Str.ofString "token"; (subst e2; rfl); by_cases e3 : y = Str.ofString "fiter"; (subst e3; rfl); by_cases e4 : y = Str.ofString "self"; (subst e4; rfl); simp only [e1, e2, e3, e4, if_false]))⟩
          · rw [List.length_tail]; omega
          · rw [List.length_tail]; have := hdS_len r2 gr2; omega
          · rw [← eq2, prun_esc e3 e4]
        · have e3 : (c2 == Str.ofString "/") = false := by rw [← Bool.not_eq_true', ← occ_slash hc2]; assumption
          have e4 := ‹(c2 == Str.ofString "\\") = false›
          refine .inl ⟨r2, lnNext c2 ln2, acc2 ++ c2, ?_, ⟨gr2, ?_, ?_⟩, live_of (by k_asm) (by k_asm) (by (intro y; unfold gm; by_cases e1 : y = Str.ofString "ch"; (subst e1; rfl); by_cases e2 : y = Str.ofString "token"; (subst e2; rfl); by_cases e3 : y = Str.ofString "fiter"; (subst e3; rfl); by_cases e4 : y = Str.ofString "self"; (subst e4; rfl); simp only [e1, e2, e3, e4, if_false]))⟩
          · omega
          · omega
          · rw [← eq2, prun_go e3 e4]
        · have e3 : (c2 == Str.ofString "/") = true := by rw [← Bool.not_eq_false', ← occ_slash hc2]; assumption
          have z : tokrun l ln = (acc2, r2, lnNext c2 ln2) := by rw [← eq2, prun_end e3]
          rw [z] at hret
          exact hret _ _ _ _ _ (by k_asm) (gt_drop (by k_asm))
    · have e2 := ‹(c == Str.ofString "\"") = false›
      have e4 := ‹(c == Str.ofString "\\") = false›
      have e1' : (c == Str.ofString "/") = false := by rw [← Bool.not_eq_true', ← occ_slash hc1]; assumption
      have hp : prun r (lnNext c ln') (Str.ofString "" ++ c) = tokrun l ln := by rw [← e, tokrun]; simp only [e1', e2, e4, if_true, if_false, Bool.false_eq_true]
      have ha0 : (Str.ofString "" ++ c).length + r.length ≤ 1000000 := by have := gl'.1; simp only [List.length_cons] at this; omega
      refine wpAny_For ?_ (by intro _; rfl)
      k_steps
      refine pyIter_cit (News.get (by k_asm) (by k_mem)) rfl ?_
      k_dflt (refine' for_cit (l := r) (ln := (lnNext c ln')) (acc := (Str.ofString "" ++ c)) (x := x) (t0 := tkb + 1 + 1 + 1) (bm := q1) (news := news) (fun l2 ln2 acc2 => GoodL l2 ∧ acc2.length + l2.length ≤ 1000000 ∧ prun l2 ln2 acc2 = tokrun l ln) (fun ln2 acc2 => tokrun l ln = (acc2, [], ln2)) ?B ?X ?T ?K ?C ?hch ?hd ?hu ok ?i1 ?i2 ?hc hs hl ?hI ?hG ?turn ?done ?g ?st)
      case B => k_asm
      case X => k_asm
      case T => k_asm
      case K => rfl
      case C => kn_code
      case hch => rfl
      case hd => ktr_room
      case hu => ktr_units
      case i1 => exact l1a.1
      case i2 => exact l1b.1
      case hc => exact l1a.2.2.2.2.1
      case hI => exact fun q hq => Nat.ne_of_lt (hn2 q hq)
      case hG => exact fun _ _ _ h => h.1
      case g => exact ⟨by first | assumption | exact GoodL.tl (by assumption), ha0, hp⟩
      case st => exact live_of (by k_asm) (by k_asm) (by (intro y; unfold gm; by_cases e1 : y = Str.ofString "ch"; (subst e1; rfl); by_cases e2 : y = Str.ofString "token"; (subst e2; rfl); by_cases e3 : y = Str.ofString "fiter"; (subst e3; rfl); by_cases e4 : y = Str.ofString "self"; (subst e4; rfl); simp only [e1, e2, e3, e4, if_false]))
      case done =>
        intro ln2 acc2 h2 tk2 hg2 hd2
        obtain ⟨n2, tl2, ta2, chv2, F4, N4⟩ := hd2
        have ez : tokrun l ln = (acc2, [], ln2) := by
          rcases hg2 with ⟨_, _, eq⟩ | eq
          · exact eq.symm
          · exact eq
        dsimp only
        k_steps
        all_goals exact .inr ⟨ln2, acc2, ez, ⟨_, _, _, _, by k_asm, by k_asm⟩⟩
      case turn =>
        intro c2 t2 r2 ln2 acc2 h2 tk2 n2 tl2 ta2 hg2 F4 N4
        obtain ⟨gl2, ha2, eq2⟩ := hg2
        have hc2 : c2.length = 1 := gl2.2 _ (.head _)
        have gr2 := gl2.tail
        have hrl2 : r2.length ≤ 1000000 := gr2.1
        simp only [List.length_cons] at ha2
        have ha3 : acc2.length ≤ 1000000 := by omega
        unfold gm at F4
        simp only [gtLed, lexLed, List.cons_append, List.nil_append] at N4
        k_steps
        · have e3 : (c2 == Str.ofString "/") = false := by rw [← Bool.not_eq_true', ← occ_slash hc2]; assumption
          have e4 := ‹(c2 == Str.ofString "\\") = true›
          have hz := ‹(hdS r2).length ≤ 1›
          refine .inl ⟨r2.tail, lnNext (hdS r2) (lnNext c2 ln2), acc2 ++ hdS r2, ?_, ⟨gr2.tl, ?_, ?_⟩, live_of (by k_asm) (by k_asm) (by (intro y; unfold gm; by_cases e1 : y = Str.ofString "ch"; (subst e1; rfl); by_cases e2 : y = Str.ofString "token"; (subst e2; rfl); by_cases e3 : y = Str.ofString "fiter"; (subst e3; rfl); by_cases e4 : y = Str.ofString "self"; (subst e4; rfl); simp only [e1, e2, e3, e4, if_false]))⟩
          · rw [List.length_tail]; omega
          · rw [List.length_tail]; have := hdS_len r2 gr2; omega
          · rw [← eq2, prun_esc e3 e4]
        · have e3 : (c2 == Str.ofString "/") = false := by rw [← Bool.not_eq_true', ← occ_slash hc2]; assumption
          have e4 := ‹(c2 == Str.ofString "\\") = false›
          refine .inl ⟨r2, lnNext c2 ln2, acc2 ++ c2, ?_, ⟨gr2, ?_, ?_⟩, live_of (by k_asm) (by k_asm) (by (intro y; unfold gm; by_cases e1 : y = Str.ofString "ch"; (subst e1; rfl); by_cases e2 : y = Str.ofString "token"; (subst e2; rfl); by_cases e3 : y = Str.ofString "fiter"; (subst e3; rfl); by_cases e4 : y = Str.ofString "self"; (subst e4; rfl); simp only [e1, e2, e3, e4, if_false]))⟩
          · omega
          · omega
          · rw [← eq2, prun_go e3 e4]
        · have e3 : (c2 == Str.ofString "/") = true := by rw [← Bool.not_eq_false', ← occ_slash hc2]; assumption
          have z : tokrun l ln = (acc2, r2, lnNext c2 ln2) := by rw [← eq2, prun_end e3]
          rw [z] at hret
          exact hret _ _ _ _ _ (by k_asm) (gt_drop (by k_asm))
    · have e1' : (c == Str.ofString "/") = true := by rw [← Bool.not_eq_false', ← occ_slash hc1]; assumption
      refine .inl ⟨r, lnNext c ln', Str.ofString "", Nat.le_refl _, ⟨gr, rfl, ?_⟩, live_of (by k_asm) (by k_asm) (by (intro y; unfold gm; by_cases e1 : y = Str.ofString "ch"; (subst e1; rfl); by_cases e2 : y = Str.ofString "token"; (subst e2; rfl); by_cases e3 : y = Str.ofString "fiter"; (subst e3; rfl); by_cases e4 : y = Str.ofString "self"; (subst e4; rfl); simp only [e1, e2, e3, e4, if_false]))⟩
      rw [← e, tokrun]; simp only [e1', if_true]
end

end S_P13_2
section S_P14_0
abbrev litObj (D : Nat) : Obj := { cls := .type "list_iterator", data := .fields #[.ref D, .int 0 0] }
def LoopEnd (P : Prop) : Prop := P
section
variable {prog : Program} {w : World} {A : Around} {E : Value → Shared → Prop} {s : Shared} {h₀ : Heap} {L : Addr} {m : Str → Option Value} {news : List (Addr × Obj)}
theorem pyIter_list_K {D : Nat} {vs : Array Value} {n : Nat} {Q : Value → Shared → Prop} (F : Fr h₀ L s.heap m) (N : News h₀ L s.heap news) (hm : (D, listOf vs n) ∈ news)
    (h : ∀ I h', (∀ q ∈ news, q.1 < I) → Fr h₀ L h' m → News h₀ L h' ((I, litObj D) :: news) → Q (.ref I) { s with heap := h' }) :
    wpAny (model prog w) A (pyIter (.ref D)) Q E s :=
  wpAny_pyIter_list ⟨_, N.get hm, rfl, n, rfl⟩ (h _ _ (fun q hq => Heap.lt_size (N q hq).1) (F.push _) (N.push F _))
theorem for_walkG {R : Result → Shared → Prop} {target : Expr} {body : List Stmt} {env : Env} {I : Nat} {fp : List Addr} {nn : Nat} {P : Nat → Value → Prop} {St : Nat → Heap → Prop} {oi : Obj}
    (W : Walks prog w A I fp [I] nn P St) (hget : ∀ i h, St i h → ∃ o, h.get? I = some o) (hL : env.locals = L)
    (F : Fr h₀ L s.heap m) (N : News h₀ L s.heap ((I, oi) :: news)) (hst : St 0 s.heap)
    (J : (Str → Option Value) → Nat → (Str → Option Value) → List (Addr × Obj) → Prop)
    (hfp : ∀ b ∈ fp, b = I ∨ ∃ od, ∀ i m' news', J m i m' news' → (b, od) ∈ news')
    (hoff : ∀ i m' news', J m i m' news' → ∀ q ∈ news', q.1 ≠ I)
    (h0 : J m 0 m news)
    (turn : ∀ i v h tk oI m₁ news₁, i < nn → P i v → J m i m₁ news₁ → Fr h₀ L h m₁ → News h₀ L h ((I, oI) :: news₁) →
      wpAny (model prog w) A (assign target env v) (fun _ s₂ => wpAny (model prog w) A (execs body env) (fun f s₃ => match f with
        | .next | .cont => LoopEnd (∃ h' tk', s₃ = { s with heap := h', toks := tk' } ∧ ∃ m₂ news₂, Fr h₀ L h' m₂ ∧ News h₀ L h' ((I, oI) :: news₂) ∧ J m (i + 1) m₂ news₂)
        | .ret v => R (.ok (.ret v)) s₃
        | .brk => R (.ok .next) s₃) (fun _ _ => False) s₂) (fun _ _ => False) { s with heap := h, toks := tk })
    (done : ∀ h tk m₁ news₁, J m nn m₁ news₁ → Fr h₀ L h m₁ → News h₀ L h news₁ → R (.ok .next) { s with heap := h, toks := tk })
    (hlet : ∀ i v (s' : Shared) (Q' : Unit → Shared → Prop), P i v → St (i + 1) s'.heap → Q' () s' → wpAny (model prog w) A (letOwnedTupleGo target (.ref I) v) Q' (fun _ _ => False) s') :
    codeAny (model prog w) A (.forLoop target (.ref I) body [] env) R s := by
  have nI := (N (I, oi) (.head _)).2
  refine codeAny_forLoop_any (fun k s' => ∃ h tk i m₁ news₁, s' = { s with heap := h, toks := tk } ∧ i ≤ nn ∧ k = nn + 1 - i ∧ St i h ∧ Fr h₀ L h m₁ ∧ News h₀ L h news₁ ∧ J m i m₁ news₁) ?_ (nn + 1)
    ⟨s.heap, s.toks, 0, m, news, rfl, Nat.zero_le _, rfl, hst, F, news_sub N (fun q hq => .tail _ hq), h0⟩
  rintro k s' ⟨h, tk, i, m₁, news₁, rfl, hi, rfl, st, F₁, N₁, hJ⟩
  have next : ∀ h₁ : Heap, (∀ b o, b ∉ [I] → h.get? b = some o → h₁.get? b = some o) → Fr h₀ L h₁ m₁ ∧ News h₀ L h₁ news₁ := fun h₁ hk₁ =>
    ⟨⟨F₁.ns.at' fun o e => hk₁ _ o (fun z => nI.1 ((List.mem_singleton.mp z).symm)) e, fun b o e => hk₁ b o (fun z => by rw [List.mem_singleton.mp z, nI.2] at e; cases e) (F₁.keep b o e), F₁.above⟩,
      fun q hq => ⟨hk₁ _ _ (fun z => hoff _ _ _ hJ q hq (List.mem_singleton.mp z)) (N₁ q hq).1, (N₁ q hq).2⟩⟩
  by_cases hlt : i < nn
  · refine W.item i _ _ _ hlt st fun v h₁ tk₁ hP st₁ hk₁ => ?_
    obtain ⟨F₂, N₂⟩ := next h₁ hk₁
    obtain ⟨oI, hoI⟩ := hget _ _ st₁
    have N₃ : News h₀ L h₁ ((I, oI) :: news₁) := fun q hq => by
      rcases List.mem_cons.mp hq with rfl | hq
      · exact ⟨hoI, nI⟩
      · exact N₂ q hq
    refine wpAny_mono (hlet i v _ (fun _ s' => s' = _) hP st₁ rfl) (fun _ s' hs' => ?_) (fun _ _ e => e.elim)
    subst hs'
    refine wpAny_mono (turn i v h₁ tk₁ oI m₁ news₁ hlt hP hJ F₂ N₃) (fun _ s₂ h₂ => wpAny_mono h₂ (fun f s₃ hf => ?_) (fun _ _ e => e.elim)) (fun _ _ e => e.elim)
    have fin : ∀ h' tk' m₂ news₂, Fr h₀ L h' m₂ → News h₀ L h' ((I, oI) :: news₂) → J m (i + 1) m₂ news₂ → ∃ m_1 < nn + 1 - i, ∃ h tk i_1 m₁ news₁, ({ s with heap := h', toks := tk' } : Shared) = { s with heap := h, toks := tk } ∧ i_1 ≤ nn ∧ m_1 = nn + 1 - i_1 ∧ St i_1 h ∧ Fr h₀ L h m₁ ∧ News h₀ L h news₁ ∧ J m i_1 m₁ news₁ := by
      intro h' tk' m₂ news₂ F₄ N₄ J₄
      refine ⟨nn + 1 - (i + 1), by omega, h', tk', i + 1, m₂, news₂, rfl, hlt, rfl, ?_, F₄, news_sub N₄ (fun q hq => .tail _ hq), J₄⟩
      refine W.frame _ _ _ st₁ fun b hb o e => ?_
      rcases hfp b hb with rfl | ⟨od, hod⟩
      · rw [hoI] at e; cases e; exact (N₄ _ (.head _)).1
      · have e1 := (N₂ _ (hod _ _ _ hJ)).1
        dsimp only at e1
        rw [e1] at e; cases e
        exact (N₄ _ (.tail _ (hod _ _ _ J₄))).1
    cases f with
    | ret v => exact hf
    | brk => exact hf
    | next => obtain ⟨h', tk', rfl, m₂, news₂, F₄, N₄, J₄⟩ := hf; exact fin h' tk' m₂ news₂ F₄ N₄ J₄
    | cont => obtain ⟨h', tk', rfl, m₂, news₂, F₄, N₄, J₄⟩ := hf; exact fin h' tk' m₂ news₂ F₄ N₄ J₄
  · have hin : i = nn := by omega
    subst hin
    refine W.done _ _ _ st fun h₁ tk₁ hk₁ => wpAny_execs_nil ?_
    obtain ⟨F₂, N₂⟩ := next h₁ hk₁
    exact done h₁ tk₁ m₁ news₁ hJ F₂ N₂
theorem for_walk {R : Result → Shared → Prop} {target : Expr} {body : List Stmt} {env : Env} {I : Nat} {fp : List Addr} {nn : Nat} {P : Nat → Value → Prop} {St : Nat → Heap → Prop} {oi : Obj}
    (W : Walks prog w A I fp [I] nn P St) (hget : ∀ i h, St i h → ∃ o, h.get? I = some o) (hL : env.locals = L)
    (F : Fr h₀ L s.heap m) (N : News h₀ L s.heap ((I, oi) :: news)) (hst : St 0 s.heap)
    (J : (Str → Option Value) → Nat → (Str → Option Value) → List (Addr × Obj) → Prop)
    (hfp : ∀ b ∈ fp, b = I ∨ ∃ od, ∀ i m' news', J m i m' news' → (b, od) ∈ news')
    (hoff : ∀ i m' news', J m i m' news' → ∀ q ∈ news', q.1 ≠ I)
    (h0 : J m 0 m news)
    (turn : ∀ i v h tk oI m₁ news₁, i < nn → P i v → J m i m₁ news₁ → Fr h₀ L h m₁ → News h₀ L h ((I, oI) :: news₁) →
      wpAny (model prog w) A (assign target env v) (fun _ s₂ => wpAny (model prog w) A (execs body env) (fun f s₃ => match f with
        | .next | .cont => LoopEnd (∃ h' tk', s₃ = { s with heap := h', toks := tk' } ∧ ∃ m₂ news₂, Fr h₀ L h' m₂ ∧ News h₀ L h' ((I, oI) :: news₂) ∧ J m (i + 1) m₂ news₂)
        | .ret v => R (.ok (.ret v)) s₃
        | .brk => R (.ok .next) s₃) (fun _ _ => False) s₂) (fun _ _ => False) { s with heap := h, toks := tk })
    (done : ∀ h tk m₁ news₁, J m nn m₁ news₁ → Fr h₀ L h m₁ → News h₀ L h news₁ → R (.ok .next) { s with heap := h, toks := tk })
    (ht : ∀ v, letOwnedTupleGo target (.ref I) v = pure () := by intro _; rfl) :
    codeAny (model prog w) A (.forLoop target (.ref I) body [] env) R s :=
  for_walkG W hget hL F N hst J hfp hoff h0 turn done fun _ v _ _ _ _ hq => by rw [ht v]; exact wpAny_pure hq
theorem for_list {R : Result → Shared → Prop} {target : Expr} {body : List Stmt} {env : Env} {I D : Nat} {vs : Array Value} {n : Nat}
    (hh : A.handled = none) (hL : env.locals = L)
    (F : Fr h₀ L s.heap m) (N : News h₀ L s.heap ((I, litObj D) :: news)) (hne : D ≠ I)
    (J : (Str → Option Value) → Nat → (Str → Option Value) → List (Addr × Obj) → Prop)
    (hD : ∀ i m' news', J m i m' news' → (D, listOf vs n) ∈ news')
    (hoff : ∀ i m' news', J m i m' news' → ∀ q ∈ news', q.1 ≠ I)
    (h0 : J m 0 m news)
    (turn : ∀ i v h tk oI m₁ news₁, i < vs.size → vs[i]? = some v → J m i m₁ news₁ → Fr h₀ L h m₁ → News h₀ L h ((I, oI) :: news₁) →
      wpAny (model prog w) A (assign target env v) (fun _ s₂ => wpAny (model prog w) A (execs body env) (fun f s₃ => match f with
        | .next | .cont => LoopEnd (∃ h' tk', s₃ = { s with heap := h', toks := tk' } ∧ ∃ m₂ news₂, Fr h₀ L h' m₂ ∧ News h₀ L h' ((I, oI) :: news₂) ∧ J m (i + 1) m₂ news₂)
        | .ret v => R (.ok (.ret v)) s₃
        | .brk => R (.ok .next) s₃) (fun _ _ => False) s₂) (fun _ _ => False) { s with heap := h, toks := tk })
    (done : ∀ h tk m₁ news₁, J m vs.size m₁ news₁ → Fr h₀ L h m₁ → News h₀ L h news₁ → R (.ok .next) { s with heap := h, toks := tk })
    (ht : ∀ v, letOwnedTupleGo target (.ref I) v = pure () := by intro _; rfl) :
    codeAny (model prog w) A (.forLoop target (.ref I) body [] env) R s :=
  for_walk (Walks.list hh I D hne vs) (fun _ _ st => let ⟨o, ho, _⟩ := st.1; ⟨o, ho⟩) hL F N ⟨⟨_, (N _ (.head _)).1, rfl, rfl⟩, ⟨_, (N _ (.tail _ (hD _ _ _ h0))).1, rfl, n, rfl⟩⟩ J
    (fun b hb => by
      rcases List.mem_cons.mp hb with rfl | hb
      · exact .inl rfl
      · rw [List.mem_singleton.mp hb]; exact .inr ⟨_, hD⟩) hoff h0 turn done ht
end

end S_P14_0
section S_P15_0
theorem strValues_snoc (k : List (Str × Tok)) (q : Str × Tok) : strValues (k ++ [q]) = strValues k ++ [.str q.1 q.2] := by simp [strValues]
section
variable {prog : Program} {w : World} {A : Around} {E : Value → Shared → Prop} {s : Shared} {h₀ : Heap} {L D : Addr} {m : Str → Option Value} {news news' : List (Addr × Obj)} {n : Nat}
theorem truthy_snoc {Q : Bool → Shared → Prop} {k : List (Str × Tok)} {q : Str × Tok} (N : News h₀ L s.heap news) (hm : (D, listOf (strValues (k ++ [q])).toArray n) ∈ news) (hz : k.length ≤ 10000000) (h : Q true { s with toks := s.toks + 1 + 1 }) : wpAny (model prog w) A (truthy (.ref D)) Q E s :=
  wpAny_truthy_list ⟨_, N.get hm, rfl, n, rfl⟩ (by simp only [List.size_toArray, strValues_length, List.length_append, List.length_cons, List.length_nil]; omega) (by rw [strValues_snoc]; rw [show (!(strValues k ++ [Value.str q.1 q.2]).toArray.isEmpty) = true by simp]; exact h)
theorem last_snoc {Q : Value → Shared → Prop} {k : List (Str × Tok)} {q : Str × Tok} {u : Tok} (N : News h₀ L s.heap news) (hm : (D, listOf (strValues (k ++ [q])).toArray n) ∈ news) (h : Q (.str q.1 q.2) s) : wpAny (model prog w) A (getItem (.ref D) (.int (-1) u)) Q E s := by
  refine wpAny_getItem_list_neg ⟨_, N.get hm, rfl, n, rfl⟩ (by decide) ?_ (by decide) ?_ h
  · simp only [List.size_toArray, strValues_length, List.length_append, List.length_cons, List.length_nil]; omega
  · simp only [List.size_toArray, strValues_length, List.length_append, List.length_cons, List.length_nil]
    rw [show ((-1 : Int) + ((k.length + (0 + 1) : Nat) : Int)).toNat = k.length by omega, strValues_snoc]
    simp [strValues]
theorem last_tail {value slice : Expr} {Q : Value → Shared → Prop} {k : List (Str × Tok)} {q : Str × Tok} {u : Tok} (N : News h₀ L s.heap news) (hm : (D, listOf (strValues (k ++ [q])).toArray n) ∈ news) (h : Q (.str q.1 q.2) s)
    (hs : subscripted slice false (.ref D) (.int (-1) u) = operate [.ref D, .int (-1) u] (getItem (.ref D) (.int (-1) u)) := by with_unfolding_all rfl) (hg : ∀ r, letTemporaryGo value (.ref D) r = pure () := by intro _; with_unfolding_all rfl) :
    wpAny (model prog w) A (subscriptTail value slice (.ref D) (.int (-1) u)) Q E s :=
  subscriptTail_builtin (T := "list") ⟨_, N.get hm, rfl⟩ slot_list_getitem.lookup (last_snoc N hm h) hs hg
theorem kl_last_snoc (l : List Value) (v : Value) : kl_last (l ++ [v]) = some (l, v) := by
  cases h : kl_last (l ++ [v]) with
  | none => exact absurd (kl_last_none h) (by simp)
  | some p =>
    have := kl_last_spec h
    obtain ⟨e1, e2⟩ := List.append_inj' this rfl
    cases e2
    rw [e1]
theorem pop_snoc {Q : Value → Shared → Prop} {k : List (Str × Tok)} {q : Str × Tok} (F : Fr h₀ L s.heap m) (N : News h₀ L s.heap news) (U : Upd D (listOf (strValues (k ++ [q])).toArray n) (listOf (strValues k).toArray (n + 1)) news news') (hz : k.length ≤ 1000000)
    (h : ∀ h', Fr h₀ L h' m → News h₀ L h' news' → Q (.str q.1 q.2) { s with heap := h' }) : wpAny (model prog w) A (call (.builtin "list.pop") [.ref D]) Q E s := by
  refine kl_pop F N (by rw [strValues_snoc]; exact kl_last_snoc _ _) U ?_ h
  rw [sizeLine_eq]; simp only [strValues_length, List.length_append, List.length_cons, List.length_nil]; omega
theorem append_snoc {Q : Value → Shared → Prop} {k : List (Str × Tok)} {c : Str} {t : Tok} (F : Fr h₀ L s.heap m) (N : News h₀ L s.heap news) (U : Upd D (listOf (strValues k).toArray n) (listOf (strValues (k ++ [(c, t)])).toArray (n + 1)) news news') (hz : k.length ≤ 1000000)
    (h : ∀ h', Fr h₀ L h' m → News h₀ L h' news' → Q .none { s with heap := h' }) : wpAny (model prog w) A (call (.builtin "list.append") [.ref D, .str c t]) Q E s := by
  refine append_K F N (x := .str c t) (its := (strValues k).toArray) (n := n) ?_ h ?_
  · have e : (strValues k).toArray.push (.str c t) = (strValues (k ++ [(c, t)])).toArray := by rw [strValues_snoc]; simp
    rw [e]; exact U
  · rw [sizeLine_eq]; simp only [List.size_toArray, strValues_length]; omega
end

end S_P15_0
local macro_rules | `(tactic| walk_at "call builtin:list.append") => `(tactic| (k_here; (with_reducible show wpAny _ _ (call (Value.builtin "list.append") [Value.ref _, Value.str _ _]) _ _ _); k_dflt (refine' append_snoc ?F ?N ?U ?z ?_; (case F => k_asm); (case N => k_asm); (case U => k_upd); (case z => (first | assumption | omega))); kl_rest))
local macro_rules | `(tactic| walk_at "call builtin:list.pop") => `(tactic| (k_here; (with_reducible show wpAny _ _ (call (Value.builtin "list.pop") [Value.ref _]) _ _ _); k_dflt (refine' pop_snoc ?F ?N ?U ?z ?_; (case F => k_asm); (case N => k_asm); (case U => k_upd); (case z => (first | assumption | omega))); kl_rest))
local macro_rules | `(tactic| walk_at "truthy ref") => `(tactic| (k_here; (with_reducible show wpAny _ _ (truthy (Value.ref _)) _ _ _); k_dflt (refine' truthy_snoc ?k1 ?k2 ?k3 ?_; (case k1 => k_asm); (case k2 => k_mem); (case k3 => (first | assumption | omega)); k_whole)))
local macro_rules | `(tactic| walk_at "subscriptTail") => `(tactic| (k_here; (with_reducible show wpAny _ _ (subscriptTail _ _ (Value.ref _) (Value.int _ _)) _ _ _); k_dflt (refine' last_tail ?k1 ?k2 ?_; (case k1 => k_asm); (case k2 => k_mem); k_whole)))
local macro_rules | `(tactic| walk_at "getItem ref int") => `(tactic| (k_here; (with_reducible show wpAny _ _ (getItem (Value.ref _) (Value.int _ _)) _ _ _); k_dflt (refine' last_snoc ?k1 ?k2 ?_; (case k1 => k_asm); (case k2 => k_mem); k_whole)))

section S_P16_0
theorem fr_loop {h₀ h : Heap} {L : Addr} {x : Str} {m1 m0 : Str → Option Value} (F : Fr h₀ L h m1) (hm : ∀ y, y ≠ x → m1 y = m0 y) : Fr h₀ L h (fun y => if y = x then m1 x else m0 y) :=
  fr_cast F fun y => by
    by_cases e : y = x
    · simp [e]
    · simp [e, hm y e]
section
variable {w : World} {p : Program} {loose : List Str} {mean : ExcName → Option Value} {mg mb : Str → Option Value} {dp un : Nat} {gd : Option (List Code)} {cn : Str} {cs : Scope} {a : Addr} {ccd : Value} {cl : List (Str × Addr)} {outer : List Env} {A₀ : Around} {base h₀ : Heap} {L : Addr} {m : Str → Option Value} {news : List (Addr × Obj)} {s : Shared} {Q E : Value → Shared → Prop}
theorem normpath_spec {x : Str} {t : Tok}
    (B : Below A₀ base outer h₀) (F : Fr h₀ L s.heap m) (X : (hd.heap_39 w.params).In h₀) (N : News h₀ L s.heap news) (T : Top p loose mean mg mb h₀) (hk : cs.kind = .function)
    (hd : dp + 50 < recursionLimit) (hu : un + 800 < cLine) (hlen : x.length ≤ 100000)
    (hret : ∀ t h' tk', Fr h₀ L h' m → News h₀ L h' news → Q (.str (normOf x) t) { s with heap := h', toks := tk' }) :
    wpAny (model pw w) (ktrTop dp un gd cn cs L a ccd cl outer) (call (.ref 136) [.str x t]) Q E s := by
  refine wpAny_call ?_
  k_dflt ktr_enter
  k_steps
  · rename_i a4 tk1a D0 t0 t1 t2 h8 tka z1 z2 l1' h7 h6 h5 h4 tkb l h3 k es sa lens lst h2 NC h1 ltNC hh F1 N1
    generalize hDC : ({ heap := h4, gens := s.gens, drawn := s.drawn, toks := tkb, os := s.os } : Shared).heap.objs.size = DC at *
    refine wpAny_For ?_ (by intro _; rfl)
    k_steps
    refine pyIter_list_K (D := DC) (vs := (strValues l).toArray) (n := 0) F1 N1 (.tail _ (.head _)) ?_
    intro I1 hI ltI FI NI
    have hll : l.length ≤ 200000 := by
      have e1 : l.length = (Txt.split (restOf x) (Str.ofString "/")).length := by rw [← es, List.length_map]
      have := count_split (restOf x)
      omega
    have q1 : @LT.lt Nat _ NC I1 := ltI (NC, W.listOf #[] 0) (.head _)
    have q2 : @LT.lt Nat _ DC I1 := ltI _ (.tail _ (.head _))
    have q3 : @LT.lt Nat _ DC NC := by first | exact ltNC.1 | omega
    have q4 : AllLt NC news := ltNC.2.2
    clear ltI lst sa ltNC l1'
    refine' for_list (news := (NC, listOf (strValues []).toArray 0) :: (DC, listOf (strValues l).toArray 0) :: news) (vs := (strValues l).toArray) (n := 0) (D := DC) ?hh ?hL FI ?N ?hne (fun m0 i m' news' => (∀ y, y ≠ Str.ofString "comp" → m' y = m0 y) ∧ ∃ k n, k.map (·.1) = normRun (rootOf x) ((l.map (·.1)).take i) ∧ k.length ≤ i ∧ news' = (NC, listOf (strValues k).toArray n) :: (DC, listOf (strValues l).toArray 0) :: news) ?hD ?hoff ?h0 ?turn ?done ?ht
    case hh => rfl
    case hL => rfl
    case N => exact news_sub NI (by intro q hq; simp only [List.mem_cons] at hq ⊢; rcases hq with h | h | h | h <;> simp [h, strValues])
    case hne => exact Nat.ne_of_lt q2
    case hD => rintro i m' news' ⟨_, k, n, _, _, rfl⟩; exact .tail _ (.head _)
    case hoff =>
      rintro i m' news' ⟨_, k, n, _, _, rfl⟩ q hq
      simp only [List.mem_cons] at hq
      rcases hq with rfl | rfl | hq
      · exact Nat.ne_of_lt q1
      · exact Nat.ne_of_lt q2
      · exact Nat.ne_of_lt (Nat.lt_trans (lt_of_all q4 q hq) q1)
    case h0 => exact ⟨fun _ _ => rfl, [], 0, rfl, Nat.le_refl _, rfl⟩
    case ht => intro _; rfl
    case turn =>
      rintro i v h9 tk9 oI m1 news1 hi hv ⟨hm, k, n, ek, hkl, rfl⟩ F3 N3
      obtain ⟨c, tc, rfl, hc⟩ := strValues_get hv
      have hcl : c.length ≤ 100000 := by have := lens c (List.mem_of_getElem? (by rw [List.getElem?_map, hc]; rfl)); omega
      have hil : i ≤ 200000 := by have := (List.getElem?_eq_some_iff.mp hc).1; omega
      have hkl2 : k.length ≤ 200000 := by omega
      have es' := norm_succ (r := rootOf x) hc
      rw [← ek] at es'
      replace F3 := fr_loop F3 hm
      dsimp only at F3
      generalize m1 (Str.ofString "comp") = cv at F3
      clear hm es lens hv hc ek
      rcases snoc_cases k with rfl | ⟨k0, q, rfl⟩
      · k_steps
        all_goals (try dsimp only)
        all_goals (with_reducible show LoopEnd _)
        all_goals first
          | exact ⟨_, _, rfl, _, _, by k_asm, by k_asm, fun y hy => by simp only [hy, if_false], [] ++ [(c, tc)], _, by rw [es']; first | exact (ns_app1 (by assumption) (by assumption) (by assumption)).symm | exact (ns_app2 (by assumption) (by assumption) (by assumption)).symm, by simp, rfl⟩
          | exact ⟨_, _, rfl, _, _, by k_asm, by k_asm, fun y hy => by simp only [hy, if_false], [], _, by rw [es']; first | exact (ns_skip1 (by assumption)).symm | exact (ns_skip2 (by assumption)).symm | exact (ns_pop0 (by assumption) (by assumption) (by assumption) (by assumption)).symm, by omega, rfl⟩
          | exact ⟨_, _, rfl, _, _, by k_asm, by k_asm, fun y hy => by simp only [hy, if_false], [(c, tc)], _, by rw [es']; exact (ns_app1 (k := []) (by assumption) (by assumption) (by assumption)).symm, by simp, rfl⟩
      · have hk0 : k0.length ≤ 200000 := by simp only [List.length_append] at hkl2; omega
        have hk1 : k0.length ≤ i + 1 := by simp only [List.length_append] at hkl; omega
        rw [List.map_append, List.map_cons, List.map_nil] at es'
        k_steps
        all_goals (try dsimp only)
        all_goals (with_reducible show LoopEnd _)
        all_goals first
          | exact ⟨_, _, rfl, _, _, by k_asm, by k_asm, fun y hy => by simp only [hy, if_false], (k0 ++ [q]) ++ [(c, tc)], _, by rw [es', List.map_append, List.map_append]; first | exact (ns_app1 (by assumption) (by assumption) (by assumption)).symm | exact (ns_app3 (by assumption) (by assumption) (by assumption)).symm, by simp only [List.length_append, List.length_cons, List.length_nil] at *; omega, rfl⟩
          | exact ⟨_, _, rfl, _, _, by k_asm, by k_asm, fun y hy => by simp only [hy, if_false], k0 ++ [q], _, by rw [es', List.map_append]; first | exact (ns_skip1 (by assumption)).symm | exact (ns_skip2 (by assumption)).symm, by omega, rfl⟩
          | exact ⟨_, _, rfl, _, _, by k_asm, by k_asm, fun y hy => by simp only [hy, if_false], k0, _, by rw [es']; exact (ns_pop (by assumption) (by assumption) (by assumption) (by assumption)).symm, by omega, rfl⟩
    case done =>
      rintro h9 tk9 m1 news1 ⟨hm, k, n, ek, hkl, rfl⟩ F3 N3
      replace F3 := fr_loop F3 hm
      dsimp only at F3
      generalize m1 (Str.ofString "comp") = cv at F3
      have ek' : k.map (·.1) = normRun (rootOf x) (Txt.split (restOf x) (Str.ofString "/")) := by rw [ek, List.size_toArray, strValues_length, ← es, List.take_of_length_le (by rw [List.length_map]; omega)]
      have hsum : lsum (k.map (·.1)) ≤ 100000 := by
        rw [ek']
        have := lsum_normRun (rootOf x) (Txt.split (restOf x) (Str.ofString "/"))
        have := lsum_split (restOf x)
        omega
      have hkl3 : k.length ≤ 200000 := by simp only [List.size_toArray, strValues_length] at hkl; omega
      have hok : ((k.map (·.1)).map (·.length)).sum + (k.map (·.1)).length * (Str.ofString "/").length ≤ 16777216 := by
        rw [show (Str.ofString "/").length = 1 by decide +kernel, List.length_map]; unfold lsum at hsum; omega
      have hjl : (Txt.join (Str.ofString "/") (k.map (·.1))).length ≤ 400000 := by
        have h1 := StrLaws.join_length_le (Str.ofString "/") (k.map (·.1))
        rw [show Txt.join (Str.ofString "/") (k.map (·.1)) = Str.join (Str.ofString "/") (k.map (·.1)) from StrLaws.glued_eq_join _ _]
        rw [show (Str.ofString "/").length = 1 by decide +kernel, List.length_map] at h1; unfold lsum at hsum; omega
      clear hm ek es lens
      k_steps
      refine SC.join (l := k) ⟨_, News.get (by k_asm) (.head _), rfl, n, rfl⟩ rfl (joinOk_of hok) ?_
      intro tj kj
      have ecat : normCat x = rootOf x ++ Txt.join (Str.ofString "/") (k.map (·.1)) := by unfold normCat; rw [ek']
      k_steps
      · have hne := ‹((rootOf x ++ Txt.join (Str.ofString "/") (List.map (fun x => x.fst) k)).length : Int) ≠ 0›
        have e2 : normOf x = normCat x := by
          unfold normOf
          rw [if_neg (by omega), if_neg (by rw [ecat]; omega)]
        rw [e2, ecat] at hret
        exact hret _ _ _ (by k_asm) (news_sub (by k_asm) (fun q hq => .tail _ (.tail _ hq)))
      · have hne := ‹((rootOf x ++ Txt.join (Str.ofString "/") (List.map (fun x => x.fst) k)).length : Int) = 0›
        have e2 : normOf x = Str.ofString "." := by
          unfold normOf
          rw [if_neg (by omega), if_pos (by rw [ecat]; omega)]
        rw [e2] at hret
        exact hret _ _ _ (by k_asm) (news_sub (by k_asm) (fun q hq => .tail _ (.tail _ hq)))
  · have e : normOf x = Str.ofString "." := by unfold normOf; rw [if_pos (by omega)]
    rw [e] at hret
    exact hret _ _ _ (by k_asm) (by k_asm)
end

end S_P16_0
section S_P17_0
abbrev tupObj (vs : Array Value) : Obj := { cls := .type "tuple", data := .seq vs }
abbrev titObj (D : Nat) : Obj := { cls := .type "tuple_iterator", data := .fields #[.ref D, .int 0 0] }
theorem fr_loop2 {h₀ h : Heap} {L : Addr} {x z : Str} {v : Value} {m1 m0 : Str → Option Value} (F : Fr h₀ L h m1) (hz : m1 z = some v) (hm : ∀ y, y ≠ x → y ≠ z → m1 y = m0 y) (hxz : z ≠ x) : Fr h₀ L h (fun y => if y = x then m1 x else if y = z then some v else m0 y) :=
  fr_cast F fun y => by
    by_cases e : y = x
    · simp [e]
    · by_cases e2 : y = z
      · simp [e2, hxz, hz]
      · simp [e, e2, hm y e e2]
section
variable {prog : Program} {w : World} {A : Around} {E : Value → Shared → Prop} {s : Shared} {h₀ : Heap} {L : Addr} {m : Str → Option Value} {news : List (Addr × Obj)}
theorem pyIter_tuple_K {D : Nat} {vs : Array Value} {Q : Value → Shared → Prop} (F : Fr h₀ L s.heap m) (N : News h₀ L s.heap news) (hm : (D, tupObj vs) ∈ news)
    (h : ∀ I h', (∀ q ∈ news, q.1 < I) → Fr h₀ L h' m → News h₀ L h' ((I, titObj D) :: news) → Q (.ref I) { s with heap := h' }) :
    wpAny (model prog w) A (pyIter (.ref D)) Q E s :=
  wpAny_pyIter_tuple ⟨_, N.get hm, rfl, _, rfl⟩ (h _ _ (fun q hq => Heap.lt_size (N q hq).1) (F.push _) (N.push F _))
theorem for_tuple {R : Result → Shared → Prop} {target : Expr} {body : List Stmt} {env : Env} {I D : Nat} {vs : Array Value}
    (hh : A.handled = none) (hL : env.locals = L)
    (F : Fr h₀ L s.heap m) (N : News h₀ L s.heap ((I, titObj D) :: news)) (hne : D ≠ I)
    (J : (Str → Option Value) → Nat → (Str → Option Value) → List (Addr × Obj) → Prop)
    (hD : ∀ i m' news', J m i m' news' → (D, tupObj vs) ∈ news')
    (hoff : ∀ i m' news', J m i m' news' → ∀ q ∈ news', q.1 ≠ I)
    (h0 : J m 0 m news)
    (turn : ∀ i v h tk oI m₁ news₁, i < vs.size → vs[i]? = some v → J m i m₁ news₁ → Fr h₀ L h m₁ → News h₀ L h ((I, oI) :: news₁) →
      wpAny (model prog w) A (assign target env v) (fun _ s₂ => wpAny (model prog w) A (execs body env) (fun f s₃ => match f with
        | .next | .cont => LoopEnd (∃ h' tk', s₃ = { s with heap := h', toks := tk' } ∧ ∃ m₂ news₂, Fr h₀ L h' m₂ ∧ News h₀ L h' ((I, oI) :: news₂) ∧ J m (i + 1) m₂ news₂)
        | .ret v => R (.ok (.ret v)) s₃
        | .brk => R (.ok .next) s₃) (fun _ _ => False) s₂) (fun _ _ => False) { s with heap := h, toks := tk })
    (done : ∀ h tk m₁ news₁, J m vs.size m₁ news₁ → Fr h₀ L h m₁ → News h₀ L h news₁ → R (.ok .next) { s with heap := h, toks := tk })
    (ht : ∀ v, letOwnedTupleGo target (.ref I) v = pure () := by intro _; rfl) :
    codeAny (model prog w) A (.forLoop target (.ref I) body [] env) R s :=
  for_walk (Walks.tuple hh I D hne vs) (fun _ _ st => let ⟨o, ho, _⟩ := st.1; ⟨o, ho⟩) hL F N ⟨⟨_, (N _ (.head _)).1, rfl, rfl⟩, ⟨_, (N _ (.tail _ (hD _ _ _ h0))).1, rfl, _, rfl⟩⟩ J
    (fun b hb => by
      rcases List.mem_cons.mp hb with rfl | hb
      · exact .inl rfl
      · rw [List.mem_singleton.mp hb]; exact .inr ⟨_, hD⟩) hoff h0 turn done ht
end
section
variable {w : World} {p : Program} {loose : List Str} {mean : ExcName → Option Value} {mg mb : Str → Option Value} {dp un : Nat} {gd : Option (List Code)} {cn : Str} {cs : Scope} {a : Addr} {ccd : Value} {cl : List (Str × Addr)} {outer : List Env} {A₀ : Around} {base h₀ : Heap} {L : Addr} {m : Str → Option Value} {news : List (Addr × Obj)} {s : Shared} {Q E : Value → Shared → Prop}
theorem join_spec {x : Str} {t : Tok} {r : List (Str × Tok)}
    (B : Below A₀ base outer h₀) (F : Fr h₀ L s.heap m) (X : (hd.heap_39 w.params).In h₀) (N : News h₀ L s.heap news) (T : Top p loose mean mg mb h₀) (hk : cs.kind = .function)
    (hd : dp + 50 < recursionLimit) (hu : un + 800 < cLine) (hlen : x.length ≤ 100000)
    (hr : r.length ≤ 17) (hsum : x.length + lsum (r.map (·.1)) ≤ 90000)
    (hret : ∀ t h' tk', (joinRun x (r.map (·.1))).length ≤ x.length + lsum (r.map (·.1)) + r.length → Fr h₀ L h' m → News h₀ L h' news → Q (.str (joinRun x (r.map (·.1))) t) { s with heap := h', toks := tk' }) :
    wpAny (model pw w) (ktrTop dp un gd cn cs L a ccd cl outer) (call (.ref 115) (.str x t :: strValues r)) Q E s := by
  refine wpAny_call ?_
  k_dflt (refine' kp_rest (vs := strValues r) (g₁ := fun D => some [(Str.ofString "a", .str x t), (Str.ofString "p", .ref D)]) (binds := fun D => [(Str.ofString "a", .str x t), (Str.ofString "p", .ref D)]) ?k1 ?k2 ?k3 ?k4 ?k5 ?kA ?kF ?kK ?k6 ?k7 ?k8 ?kV ?kP ?kG ?kB ?_ ?c2 ?c3 ?c4 ?c5; (case kA => exact rfl); (case kF => exact rfl); (case kK => assumption); (case k1 => k_asm); (case k2 => k_asm); (case k3 => k_asm); (case k4 => k_asm); (case k5 => k_asm); (case k6 => k_is); (case k7 => k_is); (case k8 => k_room); (case kV => exact rfl); (case kP => (clear hret; rcases r with _ | ⟨q0, r⟩; (exact rfl); rcases r with _ | ⟨q1, r⟩; (exact rfl); rcases r with _ | ⟨q2, r⟩; (exact rfl); rcases r with _ | ⟨q3, r⟩; (exact rfl); rcases r with _ | ⟨q4, r⟩; (exact rfl); rcases r with _ | ⟨q5, r⟩; (exact rfl); rcases r with _ | ⟨q6, r⟩; (exact rfl); rcases r with _ | ⟨q7, r⟩; (exact rfl); rcases r with _ | ⟨q8, r⟩; (exact rfl); rcases r with _ | ⟨q9, r⟩; (exact rfl); rcases r with _ | ⟨q10, r⟩; (exact rfl); rcases r with _ | ⟨q11, r⟩; (exact rfl); rcases r with _ | ⟨q12, r⟩; (exact rfl); rcases r with _ | ⟨q13, r⟩; (exact rfl); rcases r with _ | ⟨q14, r⟩; (exact rfl); rcases r with _ | ⟨q15, r⟩; (exact rfl); rcases r with _ | ⟨q16, r⟩; (exact rfl); rcases r with _ | ⟨q17, r⟩; (exact rfl); exfalso; simp only [List.length_cons] at hr; omega)); (case kG => exact fun _ => rfl); (case kB => exact fun _ => locs rfl); (case c5 => decide); (case c2 => exact rfl); (case c3 => exact rfl); (case c4 => exact rfl); k_whole; intro D' g' L' h' l1 FG' F' N' B' X' T'; (try k_lt l1); (try dsimp only); (try k_fold))
  k_steps
  rename_i tka h4 tkb h3 tkc tq h2 tkd h1 tke hh F1 N1
  refine wpAny_For ?_ (by intro _; rfl)
  k_steps
  refine pyIter_tuple_K (D := D') (vs := (strValues r).toArray) F1 N1 (.head _) ?_
  intro I1 hI ltI FI NI
  have q1 : @LT.lt Nat _ D' I1 := ltI _ (.head _)
  clear ltI
  refine' for_tuple (news := (D', tupObj (strValues r).toArray) :: news) (vs := (strValues r).toArray) (D := D') ?hh ?hL FI NI ?hne (fun m0 i m' news' => (∀ y, y ≠ Str.ofString "b" → y ≠ Str.ofString "path" → m' y = m0 y) ∧ ∃ acc ta, m' (Str.ofString "path") = some (.str acc ta) ∧ acc = joinRun x ((r.map (·.1)).take i) ∧ acc.length ≤ x.length + lsum ((r.map (·.1)).take i) + i ∧ news' = (D', tupObj (strValues r).toArray) :: news) ?hD ?hoff ?h0 ?turn ?done ?ht
  case hh => rfl
  case hL => rfl
  case hne => exact Nat.ne_of_lt q1
  case hD => rintro i m' news' ⟨_, acc, ta, _, _, _, rfl⟩; exact .head _
  case hoff =>
    rintro i m' news' ⟨_, acc, ta, _, _, _, rfl⟩ q hq
    simp only [List.mem_cons] at hq
    rcases hq with rfl | hq
    · exact Nat.ne_of_lt q1
    · exact Nat.ne_of_lt (Nat.lt_trans (l1 q hq) q1)
  case h0 => exact ⟨fun _ _ _ => rfl, x, t, rfl, rfl, by simp [lsum], rfl⟩
  case ht => intro _; rfl
  case turn =>
    rintro i v h9 tk9 oI m1 news1 hi hv ⟨hm, acc, ta, hp, ek, hal, rfl⟩ F3 N3
    obtain ⟨c, tc, rfl, hc⟩ := strValues_get hv
    have es' := lsum_take_succ hc
    have es2 := lsum_take_le (r.map (·.1)) (i + 1)
    have hir : i < r.length := (List.getElem?_eq_some_iff.mp hc).1
    have hcl : c.length ≤ 100000 := by omega
    have hacl : acc.length ≤ 200000 := by omega
    replace F3 := fr_loop2 F3 hp hm (by decide +kernel)
    try dsimp only at F3
    generalize m1 (Str.ofString "b") = cv at F3
    clear hm hv hp
    k_steps
    all_goals (try dsimp only)
    all_goals (with_reducible show LoopEnd _)
    all_goals (have jb := join_succ (x := x) hc; rw [← ek] at jb; have sl : (Str.ofString "/").length = 1 := by decide +kernel)
    · exact ⟨_, _, rfl, _, _, by k_asm, by k_asm, fun y hy hz => by simp only [hy, hz, if_false], _, _, rfl, by rw [jb, js1 (by assumption)], by omega, rfl⟩
    · exact ⟨_, _, rfl, _, _, by k_asm, by k_asm, fun y hy hz => by simp only [hy, hz, if_false], _, _, rfl, by rw [jb, js3 (by assumption) (by assumption) (by assumption)], by omega, rfl⟩
    · exact ⟨_, _, rfl, _, _, by k_asm, by k_asm, fun y hy hz => by simp only [hy, hz, if_false], _, _, rfl, by rw [jb, js4 (by assumption) (by assumption) (by assumption)], by omega, rfl⟩
    · exact ⟨_, _, rfl, _, _, by k_asm, by k_asm, fun y hy hz => by simp only [hy, hz, if_false], _, _, rfl, by rw [jb, js2 (by assumption) (by assumption)], by omega, rfl⟩
  case done =>
    rintro h9 tk9 m1 news1 ⟨hm, acc, ta, hp, ek, hal, rfl⟩ F3 N3
    replace F3 := fr_loop2 F3 hp hm (by decide +kernel)
    try dsimp only at F3
    generalize m1 (Str.ofString "b") = cv at F3
    clear hm hp
    try dsimp only
    k_steps
    rw [List.size_toArray, strValues_length, List.take_of_length_le (by rw [List.length_map]; omega)] at ek hal
    rw [ek]
    rw [ek] at hal
    exact hret _ _ _ (by omega) (by k_asm) (news_sub (by k_asm) (fun q hq => .tail _ hq))
end

end S_P17_0
section S_P19_0
open PyProof.Rows.LCg in
section
variable {prog : Program} {w : World} {A : Around} {E : Value → Shared → Prop} {s : Shared} {h₀ : Heap} {L : Addr} {m : Str → Option Value} {env : Env}
theorem compLoop_gen {elt target iter : Expr} {ifs : List Expr} {scope : Scope} {pos : Pos} {it acc : Value} {env : Env} {R : Result → Shared → Prop} (I : Nat → Shared → Prop)
    (turn : ∀ n s, I n s → wpAny (model prog w) A (pyNext it) (fun r s₁ => match r with
      | none => R (.ok .next) s₁
      | some v => wpAny (model prog w) A (letOwnedTupleGo target it v) (fun _ s₁' => wpAny (model prog w) A (assign target env v) (fun _ s₂ =>
          wpAny (model prog w) A (forIn ifs true fun c r => if r = true then do let ok ← isTrue c env (eval c env); pure (ForInStep.yield ok) else pure (ForInStep.yield r)) (fun ok s₃ =>
            if ok = true then wpAny (model prog w) A (eval elt env) (fun x s₄ =>
              wpAny (model prog w) A (call (.builtin "list.append") [acc, x]) (fun _ s₅ => ∃ m, m < n ∧ I m s₅) (fun _ _ => False) s₄) (fun _ _ => False) s₃
            else ∃ m, m < n ∧ I m s₃) (fun _ _ => False) s₂) (fun _ _ => False) s₁') (fun _ _ => False) s₁) (fun _ _ => False) s)
    (n : Nat) (h : I n s) : codeAny (model prog w) A (.compLoop (.ListComp elt [⟨target, iter, ifs, 0⟩] scope pos) 0 it acc env) R s := by
  refine codeAny_loop rfl I (fun n s hI => ?_) n h
  show wpAny _ A ((compTurn (.ListComp elt [⟨target, iter, ifs, 0⟩] scope pos) 0 it acc env).onRaise (fun x => do noteFrame x env; theTreesLotGoes x)) _ _ s
  refine wpAny_noted ?_
  rw [compTurn_list]
  refine wpAny_bind (wpAny_standAt (wpAny_bind (wpAny_mono (turn n s hI) (fun r s₁ h₁ => ?_) fun _ _ h' => h'.elim)))
  cases r with
  | none => exact wpAny_pure h₁
  | some v =>
    refine wpAny_bind (wpAny_mono h₁ (fun _ s₁' h₁' => ?_) fun _ _ h' => h'.elim)
    refine wpAny_bind (wpAny_mono h₁' (fun _ s₂ h₂ => wpAny_bind (wpAny_mono h₂ (fun ok s₃ h₃ => ?_) fun _ _ h' => h'.elim)) fun _ _ h' => h'.elim)
    cases ok with
    | false => exact wpAny_pure ⟨rfl, h₃⟩
    | true =>
      exact wpAny_bind (wpAny_bind (wpAny_mono h₃ (fun x s₄ h₄ => wpAny_bind (wpAny_mono h₄ (fun _ s₅ h₅ => wpAny_pure (wpAny_pure ⟨rfl, h₅⟩)) fun _ _ h' => h'.elim)) fun _ _ h' => h'.elim))
theorem comp_blockR {elt target iter : Expr} {ifs : List Expr} {scope : Scope} {cl : List (Str × Addr)} {pos : Pos} {s₂ : Shared} {I : Nat} {fp : List Addr} {n : Nat} {P : Nat → Value → Prop} {St : Nat → Heap → Prop} {news : List (Addr × Obj)} {RR : Value → Addr → Result → Shared → Prop}
    (upd : Nat → Value → (Str → Option Value) → (Str → Option Value)) (J : Nat → List Value → List (Addr × Obj) → Prop)
    (W : Walks prog w A I fp [I] n P St) (hsz : n ≤ sizeLine) (hIo : ∀ i h, St i h → ∃ o, h.get? I = some o)
    (hSt : ∀ i j h h' o ys nw, St i h → h.get? I = some o → h'.get? I = some o → (∀ b o, h₀.get? b = some o → h'.get? b = some o) → News h₀ L h' nw → J j ys nw → St i h')
    (hlet : ∀ i v s' Q, P i v → St (i + 1) s'.heap → Q () s' → wpAny (model prog w) A (letOwnedTupleGo target (.ref I) v) Q (fun _ _ => False) s')
    (hasg : ∀ i v ys nw C m' s' Q, P i v → J i ys nw → News h₀ L s'.heap nw → s'.heap.Ns C m' → (∀ h' tk, h'.Ns C (upd i v m') → (∀ c o, c ≠ C → s'.heap.get? c = some o → h'.get? c = some o) → Q () { s' with heap := h', toks := tk }) →
      wpAny (model prog w) A (assign target (compEnvC scope cl C env) v) Q (fun _ _ => False) s')
    (hcell : ∀ y ∈ scope.names, y.2 ≠ .cell) (hkind : scope.kind = .function) (hst : St 0 s₂.heap) (hfp : ∀ b ∈ fp, b < s₂.heap.objs.size)
    (F : Fr h₀ L s₂.heap m) (N : News h₀ L s₂.heap news) (hIL : L ≠ I) (hI₀ : h₀.get? I = none) (off : ∀ p ∈ news, p.1 ≠ I) (h0 : J 0 [] news)
    (turn : ∀ i v ys nw oI C oC D m₁ h tk, i < n → P i v → J i ys nw → NsObj oC (upd i v m₁) → Fr h₀ L h m → News h₀ L h ((I, oI) :: (C, oC) :: (D, lst ys) :: nw) → Off3 I C D nw → ((@Ne Nat I C) ∧ (@Ne Nat I D) ∧ (@Ne Nat C D)) →
      wpAny (model prog w) A (forIn ifs true fun c r => if r = true then do let ok ← isTrue c (compEnvC scope cl C env) (eval c (compEnvC scope cl C env)); pure (ForInStep.yield ok) else pure (ForInStep.yield r)) (fun ok s₃ =>
        if ok = true then wpAny (model prog w) A (eval elt (compEnvC scope cl C env)) (CompEnd h₀ L m { s₂ with heap := h, toks := tk } I oI C oC D (lst ys) (fun _ => True) (fun y nw' => J (i + 1) (ys ++ [y]) nw')) (fun _ _ => False) s₃
        else CompEnd h₀ L m { s₂ with heap := h, toks := tk } I oI C oC D (lst ys) (fun _ => True) (fun _ nw' => J (i + 1) ys nw') .none s₃) (fun _ _ => False) { s₂ with heap := h, toks := tk })
    (hRR : ∀ D C h tk m' ys nw, J n ys nw → Fr h₀ L h m → News h₀ L h ((D, lst ys) :: nw) → Off1 D nw → h.Ns C m' → h₀.get? C = none → C ≠ L → D ≠ C → (∀ p ∈ nw, p.1 ≠ C) → RR (.ref D) C (.ok .next) { s₂ with heap := h, toks := tk }) :
    wpAny (model prog w) A (newList []) (fun acc s₃ => wpAny (model prog w) A (newFunctionEnv scope env.globals cl [] env.qual none .none (some env)) (fun cenv s₄ =>
      codeAny (model prog w) A (.compStart (.ListComp elt [⟨target, iter, ifs, 0⟩] scope pos) 0 (.ref I) acc { cenv with scope := relabel scope env }) (RR acc cenv.locals) s₄) E s₃) E s₂ := by
  refine wpAny_newObj_type (wpAny_newFunctionEnv hcell (by intro y hy; simp at hy) (fun h₁ hns₁ hsb₁ => ?_) hkind)
  dsimp only at hns₁ hsb₁ ⊢
  generalize hH2 : s₂.heap.push { cls := .type "list", dict := none, data := .seq ([] : List Value).toArray } = H2 at hns₁ hsb₁ ⊢
  have hC : H2.objs.size = s₂.heap.objs.size + 1 := by rw [← hH2, Heap.size_push]
  have hDC : s₂.heap.objs.size ≠ H2.objs.size := by rw [hC]; exact Nat.ne_of_lt (Nat.lt_succ_self _)
  have below : ∀ b, b < s₂.heap.objs.size → b ≠ H2.objs.size ∧ b ≠ s₂.heap.objs.size := fun b hb => ⟨by rw [hC]; exact Nat.ne_of_lt (Nat.lt_succ_of_lt hb), Nat.ne_of_lt hb⟩
  have hDf : s₂.heap.objs.size ∉ fp := fun hm => Nat.lt_irrefl _ (hfp _ hm)
  have hCf : H2.objs.size ∉ fp := fun hm => by have := hfp _ hm; rw [hC] at this; exact Nat.lt_irrefl _ (Nat.lt_of_succ_lt this)
  have hIf : I ∈ fp := W.sub I (List.mem_singleton.mpr rfl)
  have hIlt : I < s₂.heap.objs.size := hfp I hIf
  have old : ∀ b o, s₂.heap.get? b = some o → h₁.get? b = some o := fun b o e => hsb₁.extBut b o (below b (Heap.lt_size e)).1 (Heap.get?_push_of_some _ (hH2 ▸ Heap.get?_push_of_some _ e))
  have hacc : h₁.get? s₂.heap.objs.size = some (lst []) := hsb₁.extBut _ _ hDC (Heap.get?_push_of_some _ (hH2 ▸ Heap.get?_push_size _ rfl))
  have hst₁ : St 0 h₁ := W.frame _ _ _ hst fun b _ o e => old b o e
  have fresh : ∀ a, s₂.heap.objs.size ≤ a → s₂.heap.get? a = none := fun a ha => by
    cases e : s₂.heap.get? a with
    | none => rfl
    | some o' => exact absurd (Heap.lt_size e) (Nat.not_lt.mpr ha)
  have fresh₀ : ∀ a, s₂.heap.objs.size ≤ a → h₀.get? a = none := fun a ha => by
    cases e : h₀.get? a with
    | none => rfl
    | some o' => have := F.keep a o' e; rw [fresh a ha] at this; cases this
  have hD₀ : h₀.get? s₂.heap.objs.size = none := fresh₀ _ (Nat.le_refl _)
  have hC₀ : h₀.get? H2.objs.size = none := fresh₀ _ (by rw [hC]; exact Nat.le_succ _)
  have hLlt : L < s₂.heap.objs.size := F.ns.lt
  have hDL : s₂.heap.objs.size ≠ L := Ne.symm (below L hLlt).2
  have hCL : H2.objs.size ≠ L := Ne.symm (below L hLlt).1
  have hCI : I ≠ H2.objs.size := (below I hIlt).1
  have hDI : I ≠ s₂.heap.objs.size := (below I hIlt).2
  have off₀ : Off3 I H2.objs.size s₂.heap.objs.size news := Off3.of fun p hp => ⟨off p hp, (below _ (Heap.lt_size (N p hp).1)).1, (below _ (Heap.lt_size (N p hp).1)).2⟩
  have loop : ∀ s₃ : Shared, s₃ = { s₂ with heap := h₁, toks := s₂.toks + ([] : List (Str × Value)).length } →
      codeAny (model prog w) A (.compLoop (.ListComp elt [⟨target, iter, ifs, 0⟩] scope pos) 0 (.ref I) (.ref s₂.heap.objs.size) (compEnvC scope cl H2.objs.size env))
        (RR (.ref s₂.heap.objs.size) H2.objs.size) s₃ := by
    rintro s₃ rfl
    refine compLoop_gen
      (fun k s' => ∃ h' tk i ys m' news', s' = { s₂ with heap := h', toks := tk } ∧ i ≤ n ∧ k = n + 1 - i ∧ ys.length ≤ i ∧ St i h' ∧ Fr h₀ L h' m ∧ h'.Ns H2.objs.size m' ∧ News h₀ L h' ((s₂.heap.objs.size, lst ys) :: news') ∧
        Off3 I H2.objs.size s₂.heap.objs.size news' ∧ J i ys news') ?_ (n + 1)
      ⟨h₁, _, 0, [], _, news, rfl, Nat.zero_le _, rfl, Nat.le_refl _, hst₁, F.keeps old, hns₁, fun p hp => ?_, off₀, h0⟩
    · rintro k s' ⟨h', tk, i, ys, m', news', rfl, hi, rfl, hyl, hst', F', hn', N', off', hJ⟩
      by_cases hlt : i < n
      · refine W.item i _ _ _ hlt hst' fun v h₂ tk₂ hPv hst₂ hk₂ => ?_
        have off3 := off'.mem
        have N₂ : News h₀ L h₂ ((s₂.heap.objs.size, lst ys) :: news') := news_but N' hk₂ fun p hp => by
          rcases List.mem_cons.mp hp with rfl | hp
          · exact Ne.symm hDI
          · exact (off3 p hp).1
        refine hlet i v _ _ hPv hst₂ ?_
        refine hasg i v ys news' H2.objs.size m' _ _ hPv hJ (fun p hp => N₂ p (List.mem_cons_of_mem _ hp)) (hn'.at' fun o e => hk₂ _ o (by simpa using Ne.symm hCI) e) fun h₃ tk₃ hn₃ hk₃ => ?_
        have hst₃ : St (i + 1) h₃ := W.frame _ _ _ hst₂ fun b hb o e => hk₃ b o (fun q => hCf (by have q' : b = H2.objs.size := q; rw [← q']; exact hb)) e
        obtain ⟨oI, heI⟩ := hIo _ _ hst₃
        obtain ⟨oC, heC, hoC⟩ := ns_obj hn₃
        have F₂ : Fr h₀ L h₂ m := fr_but F' hk₂ hIL hI₀
        have F₃ : Fr h₀ L h₃ m := ⟨F₂.ns.at' fun o e => hk₃ _ o (Ne.symm hCL) e, fun b o e => hk₃ b o (fun q => by rw [q, hC₀] at e; cases e) (F₂.keep b o e), F₂.above⟩
        have N₃ : News h₀ L h₃ ((I, oI) :: (H2.objs.size, oC) :: (s₂.heap.objs.size, lst ys) :: news') := fun p hp => by
          rcases List.mem_cons.mp hp with rfl | hp
          · exact ⟨heI, Ne.symm hIL, hI₀⟩
          · rcases List.mem_cons.mp hp with rfl | hp
            · exact ⟨heC, hCL, hC₀⟩
            · have z := N₂ p hp
              refine ⟨hk₃ _ _ ?_ z.1, z.2⟩
              rcases List.mem_cons.mp hp with rfl | hp
              · exact hDC
              · exact (off3 p hp).2.1
        refine wpAny_mono (turn i v ys news' oI H2.objs.size oC s₂.heap.objs.size _ h₃ _ hlt hPv hJ hoC F₃ N₃ off' ⟨hCI, hDI, Ne.symm hDC⟩) (fun ok s₄ h₄ => ?_) fun _ _ e => e
        cases ok with
        | true =>
          refine wpAny_mono h₄ (fun y s₅ h₅ => ?_) fun _ _ e => e
          obtain ⟨h₄, tk₄, news₄, rfl, F₄, N₄, off₄, _, R₄⟩ := h₅
          have zI := (N₄ (I, oI) List.mem_cons_self).1
          have zC := (N₄ (H2.objs.size, oC) (List.mem_cons_of_mem _ List.mem_cons_self)).1
          have zD := (N₄ (s₂.heap.objs.size, lst ys) (List.mem_cons_of_mem _ (List.mem_cons_of_mem _ List.mem_cons_self))).1
          have N₄' : News h₀ L h₄ news₄ := fun p hp => N₄ p (List.mem_cons_of_mem _ (List.mem_cons_of_mem _ (List.mem_cons_of_mem _ hp)))
          have hst₄ : St (i + 1) h₄ := hSt _ _ _ _ _ _ _ hst₃ heI zI F₄.keep N₄' R₄
          refine append_at (hsz := by show ys.toArray.size ≤ sizeLine; rw [List.size_toArray]; omega) zD fun h₅ hs₅ hD₅ => ?_
          have off4 := off₄.mem
          refine ⟨n + 1 - (i + 1), by omega, h₅, tk₄, i + 1, ys ++ [y], _, news₄, rfl, hlt, rfl, by rw [List.length_append, List.length_singleton]; omega, W.frame _ _ _ hst₄ fun b hb o e => hs₅.extBut b o (fun q => hDf (q ▸ hb)) e, F₄.change hs₅ hDL hD₀,
            (hoC.ns zC).sameBut hs₅ (Ne.symm hDC), fun p hp => ?_, off₄, R₄⟩
          rcases List.mem_cons.mp hp with rfl | hp
          · exact ⟨hD₅.trans (congrArg some (lst_snoc ys y)), hDL, hD₀⟩
          · exact ⟨hs₅.extBut _ _ (off4 p hp).2.2 (N₄' p hp).1, (N₄' p hp).2⟩
        | false =>
          obtain ⟨h₄, tk₄, news₄, rfl, F₄, N₄, off₄, _, R₄⟩ := h₄
          have zI := (N₄ (I, oI) List.mem_cons_self).1
          have zC := (N₄ (H2.objs.size, oC) (List.mem_cons_of_mem _ List.mem_cons_self)).1
          have N₄' : News h₀ L h₄ ((s₂.heap.objs.size, lst ys) :: news₄) := fun p hp => N₄ p (List.mem_cons_of_mem _ (List.mem_cons_of_mem _ hp))
          have hst₄ : St (i + 1) h₄ := hSt _ _ _ _ _ _ _ hst₃ heI zI F₄.keep (fun p hp => N₄' p (List.mem_cons_of_mem _ hp)) R₄
          exact ⟨n + 1 - (i + 1), by omega, h₄, tk₄, i + 1, ys, _, news₄, rfl, hlt, rfl, by omega, hst₄, F₄, hoC.ns zC, N₄', off₄, R₄⟩
      · obtain rfl : i = n := Nat.le_antisymm hi (Nat.not_lt.mp hlt)
        refine W.done _ _ _ hst' fun h₂ tk₂ hk₂ => ?_
        have off3 := off'.mem
        have hn₂ := hn'.at' fun o e => hk₂ _ o (by simpa using Ne.symm hCI) e
        have F₂ := fr_but F' hk₂ hIL hI₀
        have N₂ : News h₀ L h₂ ((s₂.heap.objs.size, lst ys) :: news') := news_but N' hk₂ fun p hp => by
          rcases List.mem_cons.mp hp with rfl | hp
          · exact Ne.symm hDI
          · exact (off3 p hp).1
        exact hRR _ _ h₂ tk₂ _ ys news' hJ F₂ N₂ off'.one hn₂ hC₀ hCL hDC fun p hp => (off3 p hp).2.1
    · rcases List.mem_cons.mp hp with rfl | hp
      · exact ⟨hacc, hDL, hD₀⟩
      · exact ⟨old _ _ (N p hp).1, (N p hp).2⟩
  exact codeAny_compStart_list (loop _ rfl) (W.self 0 _ _ _ hst₁ (loop _ rfl))
theorem comp_block {elt target iter : Expr} {ifs : List Expr} {scope : Scope} {cl : List (Str × Addr)} {pos : Pos} {s₂ : Shared} {I : Nat} {fp : List Addr} {n : Nat} {P : Nat → Value → Prop} {St : Nat → Heap → Prop} {news : List (Addr × Obj)} {Q : Value → Shared → Prop}
    (upd : Nat → Value → (Str → Option Value) → (Str → Option Value)) (J : Nat → List Value → List (Addr × Obj) → Prop)
    (W : Walks prog w A I fp [I] n P St) (hsz : n ≤ sizeLine) (hIo : ∀ i h, St i h → ∃ o, h.get? I = some o)
    (hSt : ∀ i j h h' o ys nw, St i h → h.get? I = some o → h'.get? I = some o → (∀ b o, h₀.get? b = some o → h'.get? b = some o) → News h₀ L h' nw → J j ys nw → St i h')
    (hlet : ∀ i v s' Q, P i v → St (i + 1) s'.heap → Q () s' → wpAny (model prog w) A (letOwnedTupleGo target (.ref I) v) Q (fun _ _ => False) s')
    (hasg : ∀ i v ys nw C m' s' Q, P i v → J i ys nw → News h₀ L s'.heap nw → s'.heap.Ns C m' → (∀ h' tk, h'.Ns C (upd i v m') → (∀ c o, c ≠ C → s'.heap.get? c = some o → h'.get? c = some o) → Q () { s' with heap := h', toks := tk }) →
      wpAny (model prog w) A (assign target (compEnvC scope cl C env) v) Q (fun _ _ => False) s')
    (hcell : ∀ y ∈ scope.names, y.2 ≠ .cell) (hkind : scope.kind = .function) (hst : St 0 s₂.heap) (hfp : ∀ b ∈ fp, b < s₂.heap.objs.size)
    (F : Fr h₀ L s₂.heap m) (N : News h₀ L s₂.heap news) (hIL : L ≠ I) (hI₀ : h₀.get? I = none) (off : ∀ p ∈ news, p.1 ≠ I) (h0 : J 0 [] news)
    (turn : ∀ i v ys nw oI C oC D m₁ h tk, i < n → P i v → J i ys nw → NsObj oC (upd i v m₁) → Fr h₀ L h m → News h₀ L h ((I, oI) :: (C, oC) :: (D, lst ys) :: nw) → Off3 I C D nw → ((@Ne Nat I C) ∧ (@Ne Nat I D) ∧ (@Ne Nat C D)) →
      wpAny (model prog w) A (forIn ifs true fun c r => if r = true then do let ok ← isTrue c (compEnvC scope cl C env) (eval c (compEnvC scope cl C env)); pure (ForInStep.yield ok) else pure (ForInStep.yield r)) (fun ok s₃ =>
        if ok = true then wpAny (model prog w) A (eval elt (compEnvC scope cl C env)) (CompEnd h₀ L m { s₂ with heap := h, toks := tk } I oI C oC D (lst ys) (fun _ => True) (fun y nw' => J (i + 1) (ys ++ [y]) nw')) (fun _ _ => False) s₃
        else CompEnd h₀ L m { s₂ with heap := h, toks := tk } I oI C oC D (lst ys) (fun _ => True) (fun _ nw' => J (i + 1) ys nw') .none s₃) (fun _ _ => False) { s₂ with heap := h, toks := tk })
    (fin : ∀ D h tk ys nw, J n ys nw → Fr h₀ L h m → News h₀ L h ((D, lst ys) :: nw) → Off1 D nw → Q (.ref D) { s₂ with heap := h, toks := tk }) :
    wpAny (model prog w) A (newList []) (fun acc s₃ => wpAny (model prog w) A (newFunctionEnv scope env.globals cl [] env.qual none .none (some env)) (fun cenv s₄ =>
      codeAny (model prog w) A (.compStart (.ListComp elt [⟨target, iter, ifs, 0⟩] scope pos) 0 (.ref I) acc { cenv with scope := relabel scope env }) (compPost (model prog w) A E none Q acc cenv.locals) s₄) E s₃) E s₂ :=
  comp_blockR upd J W hsz hIo hSt hlet hasg hcell hkind hst hfp F N hIL hI₀ off h0 turn fun D C h tk m' ys nw hJ F' N' o1 hn hC₀ hCL hDC offC =>
    ⟨m', hn, fun h'' hs'' => fin D h'' tk ys nw hJ (F'.change hs'' hCL hC₀) (fun p hp => by
      refine ⟨hs''.extBut _ _ ?_ (N' p hp).1, (N' p hp).2⟩
      rcases List.mem_cons.mp hp with rfl | hp
      · exact hDC
      · exact offC p hp) o1⟩
end
theorem SignAt_str {x : Str} {i : Nat} {v : Value} (h : SignAt x i v) : ∃ c t, v = .str c t ∧ (signs x)[i]? = some c ∧ c.length = 1 := by
  obtain ⟨c, t, h1, h2⟩ := h
  refine ⟨⟨#[c]⟩, t, h2, ?_, rfl⟩
  unfold signs
  rw [List.getElem?_map, Array.getElem?_toList, h1]; rfl
abbrev sitObj (x : Str) (t : Tok) : Obj := { cls := .type (strIterType x), data := .fields #[.str x t, .int 0 0] }
def Held (P : Prop) : Prop := P
theorem Held.mk {P : Prop} (h : P) : Held P := h
theorem Held.out {P : Prop} (h : Held P) : P := h
theorem str_walks {prog : Program} {w : World} {A : Around} (hh : A.handled = none) (I : Addr) (x : Str) (t : Tok) : Walks prog w A I [I] [I] x.cps.size (SignAt x) (fun i h => h.IsStrIter I (strIterType x) x t i) := by
  unfold strIterType
  split
  · exact Walks.strAscii hh I x t
  · exact Walks.strWide hh I x t
section
variable {prog : Program} {w : World} {A : Around} {E : Value → Shared → Prop} {s : Shared} {h₀ : Heap} {L : Addr} {m : Str → Option Value} {news : List (Addr × Obj)} {env : Env}
theorem pyIter_str_K {x : Str} {t : Tok} {Q : Value → Shared → Prop} (F : Fr h₀ L s.heap m) (N : News h₀ L s.heap news)
    (h : ∀ I h', (∀ q ∈ news, q.1 < I) → Fr h₀ L h' m → News h₀ L h' ((I, sitObj x t) :: news) → Q (.ref I) { s with heap := h' }) :
    wpAny (model prog w) A (pyIter (.str x t)) Q E s :=
  wpAny_pyIter_strU (h _ _ (fun q hq => Heap.lt_size (N q hq).1) (F.push _) (N.push F _))
theorem asg_name {x : Str} {px : Pos} {scope : Scope} {cl : List (Str × Addr)} {C : Addr} {m' : Str → Option Value} {v : Value} {Q : Unit → Shared → Prop} (hx : scope.names.lookup x = some .local) (hkind : scope.kind = .function) (hn : s.heap.Ns C m')
    (h : ∀ h' tk, h'.Ns C (fun z => if z = x then some v else m' z) → (∀ c o, c ≠ C → s.heap.get? c = some o → h'.get? c = some o) → Q () { s with heap := h', toks := tk }) :
    wpAny (model prog w) A (assign (.Name x px) (compEnvC scope cl C env) v) Q E s := by
  refine wpAny_assign_Name (wpAny_storeName_local (lookup_relabel_local hx) hn (fun h₃ hn₃ hs₃ => ?_) (by simp [compEnvC, relabel, hkind]))
  exact h _ _ hn₃ fun c o hc e => hs₃.extBut c o hc e
end

end S_P19_0
section S_P18_0
local macro_rules | `(tactic| walk_at "eval ListComp") => `(tactic| (k_here; refine Held.out ?_))
section
variable {w : World} {p : Program} {loose : List Str} {mean : ExcName → Option Value} {mg mb : Str → Option Value} {dp un : Nat} {gd : Option (List Code)} {cn : Str} {cs : Scope} {a : Addr} {ccd : Value} {cl : List (Str × Addr)} {outer : List Env} {A₀ : Around} {base h₀ : Heap} {L : Addr} {m : Str → Option Value} {news : List (Addr × Obj)} {s : Shared} {Q E : Value → Shared → Prop}
theorem shielded_spec {x : Str} {t : Tok} {b : Bool} (hx : x.length ≤ 10)
    (B : Below A₀ base outer h₀) (F : Fr h₀ L s.heap m) (X : (hd.heap_39 w.params).In h₀) (N : News h₀ L s.heap news) (T : Top p loose mean mg mb h₀) (hk : cs.kind = .function)
    (hd : dp + 20 < recursionLimit) (hu : un + 200 < cLine)
    (hret : ∀ t h' tk', Fr h₀ L h' m → News h₀ L h' news → Q (.str (shield x b) t) { s with heap := h', toks := tk' }) :
    wpAny (model pw w) (ktrTop dp un gd cn cs L a ccd cl outer) (call (.ref 190) [.str x t, .bool b]) Q E s := by
  refine wpAny_call ?_
  k_dflt ktr_enter
  k_steps
  · refine Held.mk ?_
    rw [eval_ListComp]
    refine wpAny_comprehension_free (use := none) rfl (by intro _; rfl) (cl := []) (by with_unfolding_all rfl) (by rfl) (by decide) ?_
    k_dflt (show wpAny _ _ (eval (Expr.Name _ _) _) _ _ _)
    k_dflt walk1
    k_dflt (refine pyIter_str_K (by k_asm) (by k_asm) ?_)
    intro I1 hI ltI FI NI
    have hne : ∀ q ∈ news, q.1 ≠ I1 := fun q hq => Nat.ne_of_lt (ltI q hq)
    k_dflt (refine' comp_block (I := I1) (n := x.cps.size) (cl := []) (news := news) (fun _ v m' z => if z = Str.ofString "sign" then some v else m' z) (fun i ys nw => nw = news ∧ ∃ l, ys = strValues l ∧ l.map (·.1) = ((signs x).take i).map (escS (Str.ofString "\"\\"))) (str_walks rfl I1 x t) ?hsz ?hIo ?hSt ?hlet ?hasg ?hcell ?hkind ?hst ?hfp FI ?N ?hIL ?hI0 ?off ?h0 ?turn ?fin)
    case hsz => rw [sizeLine_eq]; have : x.cps.size ≤ 10 := hx; omega
    case hIo => exact fun i h st => let ⟨o, ho, _⟩ := st; ⟨o, ho⟩
    case hSt =>
      intro i j h h' o ys nw st e e' _ _ _
      obtain ⟨o', ho, r⟩ := st
      rw [e] at ho; cases ho
      exact ⟨o, e', r⟩
    case hlet => intro i v s' Q' _ _ hq; exact wpAny_pure hq
    case hasg => intro i v ys nw C m' s' Q' _ _ _ hn hq; exact asg_name (by rfl) (by rfl) hn hq
    case hcell => decide
    case hkind => rfl
    case hst => exact ⟨_, (NI _ (.head _)).1, rfl, rfl⟩
    case hfp => intro b hb; rw [List.mem_singleton.mp hb]; exact Heap.lt_size (NI _ (.head _)).1
    case N => exact fun q hq => NI q (.tail _ hq)
    case hIL => exact Ne.symm (NI _ (.head _)).2.1
    case hI0 => exact (NI _ (.head _)).2.2
    case off => exact hne
    case h0 => exact ⟨rfl, [], rfl, rfl⟩
    case turn =>
      rintro i v ys nw oI C oC D m₁ h3 tk3 hi hP ⟨hnw, l, rfl, hl⟩ hoC F3 N3 off3 ne3
      obtain ⟨c, tc, rfl, hc, hc1⟩ := SignAt_str hP
      have hcl : c.length ≤ 1 := by omega
      have hm2 : (fun z => if z = Str.ofString "sign" then some (Value.str c tc) else m₁ z) (Str.ofString "sign") = some (.str c tc) := by simp
      generalize (fun z => if z = Str.ofString "sign" then some (Value.str c tc) else m₁ z) = m₂ at hoC hm2
      refine wpAny_tests_nil ?_
      simp only [if_true]
      have hjj : ∀ tt : Tok, (l ++ [(escS (Str.ofString "\"\\") c, tt)]).map (·.1) = ((signs x).take (i + 1)).map (escS (Str.ofString "\"\\")) := fun tt => by
        rw [take_succ_map hc, List.map_append, hl]; rfl
      k_steps
      · have e : escS (Str.ofString "\"\\") c = c := escS_out (by assumption)
        rw [e] at hjj
        exact LCg.CompEnd.intro (by k_asm) (by k_asm) nw (fun p hp => hp) off3 trivial ⟨hnw, _, (strValues_snoc l (c, _)).symm, hjj _⟩
      · have e : escS (Str.ofString "\"\\") c = Str.ofString "\\" ++ c := escS_in (by assumption)
        rw [e] at hjj
        exact LCg.CompEnd.intro (by k_asm) (by k_asm) nw (fun p hp => hp) off3 trivial ⟨hnw, _, (strValues_snoc l (Str.ofString "\\" ++ c, _)).symm, hjj _⟩
    case fin =>
      rintro D h3 tk3 ys nw ⟨rfl, l, rfl, hl⟩ F3 N3 off3
      have hl2 : l.map (·.1) = (signs x).map (escS (Str.ofString "\"\\")) := by rw [hl, List.take_of_length_le (by rw [signs_length]; exact Nat.le_refl _)]
      have hsum : lsum (l.map (·.1)) ≤ 20 := by
        rw [hl2]
        have h1 := lsum_escS (Str.ofString "\"\\") (signs x)
        rw [lsum_signs, signs_length] at h1
        omega
      have hll : l.length ≤ 10 := by
        have h1 := congrArg List.length hl2
        rw [List.length_map, List.length_map, signs_length] at h1
        omega
      have hok : ((l.map (·.1)).map (·.length)).sum + (l.map (·.1)).length * (Str.ofString "").length ≤ 16777216 := by
        rw [show (Str.ofString "").length = 0 by decide +kernel]; unfold lsum at hsum; omega
      have hjl : (Txt.join (Str.ofString "") (l.map (·.1))).length ≤ 30 := by
        have h1 := StrLaws.join_length_le (Str.ofString "") (l.map (·.1))
        rw [show Txt.join (Str.ofString "") (l.map (·.1)) = Str.join (Str.ofString "") (l.map (·.1)) from StrLaws.glued_eq_join _ _]
        rw [show (Str.ofString "").length = 0 by decide +kernel] at h1; unfold lsum at hsum; omega
      try dsimp only
      k_steps
      refine SC.join (l := l) ⟨_, News.get (by k_asm) (.head _), rfl, (strValues l).length, rfl⟩ rfl (joinOk_of hok) ?_
      intro tj kj
      rw [hl2] at hjl ⊢
      generalize hJ : Txt.join (Str.ofString "") ((signs x).map (escS (Str.ofString "\"\\"))) = JJ at hjl ⊢
      k_steps
      all_goals (unfold shield at hret)
      all_goals first
        | (have hc : (true = true ∨ x = Str.ofString "") := .inl rfl; rw [if_pos hc, hJ] at hret; exact hret _ _ _ (by k_asm) (news_sub (by k_asm) (fun q hq => .tail _ hq)))
        | (have hc : (false = true ∨ x = Str.ofString "") := .inr (eq_of_beq (by assumption)); rw [if_pos hc, hJ] at hret; exact hret _ _ _ (by k_asm) (news_sub (by k_asm) (fun q hq => .tail _ hq)))
        | (have hc : ¬ (false = true ∨ x = Str.ofString "") := (by rintro (h | h); (cases h); exact (beq_eq_false_iff_ne.mp (by assumption)) h); rw [if_neg hc, hJ] at hret; exact hret _ _ _ (by k_asm) (news_sub (by k_asm) (fun q hq => .tail _ hq)))
        | (have hc : (b = true ∨ x = Str.ofString "") := .inl (by assumption); rw [if_pos hc, hJ] at hret; exact hret _ _ _ (by k_asm) (news_sub (by k_asm) (fun q hq => .tail _ hq)))
        | (have hc : (b = true ∨ x = Str.ofString "") := .inr (eq_of_beq (by assumption)); rw [if_pos hc, hJ] at hret; exact hret _ _ _ (by k_asm) (news_sub (by k_asm) (fun q hq => .tail _ hq)))
        | (have hc : ¬ (b = true ∨ x = Str.ofString "") := (by rintro (h | h); (simp_all); exact (beq_eq_false_iff_ne.mp (by assumption)) h); rw [if_neg hc, hJ] at hret; exact hret _ _ _ (by k_asm) (news_sub (by k_asm) (fun q hq => .tail _ hq)))
  · refine Held.mk ?_
    rw [eval_ListComp]
    refine wpAny_comprehension_free (use := none) rfl (by intro _; rfl) (cl := []) (by with_unfolding_all rfl) (by rfl) (by decide) ?_
    k_dflt (show wpAny _ _ (eval (Expr.Name _ _) _) _ _ _)
    k_dflt walk1
    k_dflt (refine pyIter_str_K (by k_asm) (by k_asm) ?_)
    intro I1 hI ltI FI NI
    have hne : ∀ q ∈ news, q.1 ≠ I1 := fun q hq => Nat.ne_of_lt (ltI q hq)
    k_dflt (refine' comp_block (I := I1) (n := x.cps.size) (cl := []) (news := news) (fun _ v m' z => if z = Str.ofString "sign" then some v else m' z) (fun i ys nw => nw = news ∧ ∃ l, ys = strValues l ∧ l.map (·.1) = ((signs x).take i).map (escS (Str.ofString "\"\\"))) (str_walks rfl I1 x t) ?hsz ?hIo ?hSt ?hlet ?hasg ?hcell ?hkind ?hst ?hfp FI ?N ?hIL ?hI0 ?off ?h0 ?turn ?fin)
    case hsz => rw [sizeLine_eq]; have : x.cps.size ≤ 10 := hx; omega
    case hIo => exact fun i h st => let ⟨o, ho, _⟩ := st; ⟨o, ho⟩
    case hSt =>
      intro i j h h' o ys nw st e e' _ _ _
      obtain ⟨o', ho, r⟩ := st
      rw [e] at ho; cases ho
      exact ⟨o, e', r⟩
    case hlet => intro i v s' Q' _ _ hq; exact wpAny_pure hq
    case hasg => intro i v ys nw C m' s' Q' _ _ _ hn hq; exact asg_name (by rfl) (by rfl) hn hq
    case hcell => decide
    case hkind => rfl
    case hst => exact ⟨_, (NI _ (.head _)).1, rfl, rfl⟩
    case hfp => intro b hb; rw [List.mem_singleton.mp hb]; exact Heap.lt_size (NI _ (.head _)).1
    case N => exact fun q hq => NI q (.tail _ hq)
    case hIL => exact Ne.symm (NI _ (.head _)).2.1
    case hI0 => exact (NI _ (.head _)).2.2
    case off => exact hne
    case h0 => exact ⟨rfl, [], rfl, rfl⟩
    case turn =>
      rintro i v ys nw oI C oC D m₁ h3 tk3 hi hP ⟨hnw, l, rfl, hl⟩ hoC F3 N3 off3 ne3
      obtain ⟨c, tc, rfl, hc, hc1⟩ := SignAt_str hP
      have hcl : c.length ≤ 1 := by omega
      have hm2 : (fun z => if z = Str.ofString "sign" then some (Value.str c tc) else m₁ z) (Str.ofString "sign") = some (.str c tc) := by simp
      generalize (fun z => if z = Str.ofString "sign" then some (Value.str c tc) else m₁ z) = m₂ at hoC hm2
      refine wpAny_tests_nil ?_
      simp only [if_true]
      have hjj : ∀ tt : Tok, (l ++ [(escS (Str.ofString "\"\\") c, tt)]).map (·.1) = ((signs x).take (i + 1)).map (escS (Str.ofString "\"\\")) := fun tt => by
        rw [take_succ_map hc, List.map_append, hl]; rfl
      k_steps
      · have e : escS (Str.ofString "\"\\") c = c := escS_out (by assumption)
        rw [e] at hjj
        exact LCg.CompEnd.intro (by k_asm) (by k_asm) nw (fun p hp => hp) off3 trivial ⟨hnw, _, (strValues_snoc l (c, _)).symm, hjj _⟩
      · have e : escS (Str.ofString "\"\\") c = Str.ofString "\\" ++ c := escS_in (by assumption)
        rw [e] at hjj
        exact LCg.CompEnd.intro (by k_asm) (by k_asm) nw (fun p hp => hp) off3 trivial ⟨hnw, _, (strValues_snoc l (Str.ofString "\\" ++ c, _)).symm, hjj _⟩
    case fin =>
      rintro D h3 tk3 ys nw ⟨rfl, l, rfl, hl⟩ F3 N3 off3
      have hl2 : l.map (·.1) = (signs x).map (escS (Str.ofString "\"\\")) := by rw [hl, List.take_of_length_le (by rw [signs_length]; exact Nat.le_refl _)]
      have hsum : lsum (l.map (·.1)) ≤ 20 := by
        rw [hl2]
        have h1 := lsum_escS (Str.ofString "\"\\") (signs x)
        rw [lsum_signs, signs_length] at h1
        omega
      have hll : l.length ≤ 10 := by
        have h1 := congrArg List.length hl2
        rw [List.length_map, List.length_map, signs_length] at h1
        omega
      have hok : ((l.map (·.1)).map (·.length)).sum + (l.map (·.1)).length * (Str.ofString "").length ≤ 16777216 := by
        rw [show (Str.ofString "").length = 0 by decide +kernel]; unfold lsum at hsum; omega
      have hjl : (Txt.join (Str.ofString "") (l.map (·.1))).length ≤ 30 := by
        have h1 := StrLaws.join_length_le (Str.ofString "") (l.map (·.1))
        rw [show Txt.join (Str.ofString "") (l.map (·.1)) = Str.join (Str.ofString "") (l.map (·.1)) from StrLaws.glued_eq_join _ _]
        rw [show (Str.ofString "").length = 0 by decide +kernel] at h1; unfold lsum at hsum; omega
      try dsimp only
      k_steps
      refine SC.join (l := l) ⟨_, News.get (by k_asm) (.head _), rfl, (strValues l).length, rfl⟩ rfl (joinOk_of hok) ?_
      intro tj kj
      rw [hl2] at hjl ⊢
      generalize hJ : Txt.join (Str.ofString "") ((signs x).map (escS (Str.ofString "\"\\"))) = JJ at hjl ⊢
      k_steps
      all_goals (unfold shield at hret)
      all_goals first
        | (have hc : (true = true ∨ x = Str.ofString "") := .inl rfl; rw [if_pos hc, hJ] at hret; exact hret _ _ _ (by k_asm) (news_sub (by k_asm) (fun q hq => .tail _ hq)))
        | (have hc : (false = true ∨ x = Str.ofString "") := .inr (eq_of_beq (by assumption)); rw [if_pos hc, hJ] at hret; exact hret _ _ _ (by k_asm) (news_sub (by k_asm) (fun q hq => .tail _ hq)))
        | (have hc : ¬ (false = true ∨ x = Str.ofString "") := (by rintro (h | h); (cases h); exact (beq_eq_false_iff_ne.mp (by assumption)) h); rw [if_neg hc, hJ] at hret; exact hret _ _ _ (by k_asm) (news_sub (by k_asm) (fun q hq => .tail _ hq)))
        | (have hc : (b = true ∨ x = Str.ofString "") := .inl (by assumption); rw [if_pos hc, hJ] at hret; exact hret _ _ _ (by k_asm) (news_sub (by k_asm) (fun q hq => .tail _ hq)))
        | (have hc : (b = true ∨ x = Str.ofString "") := .inr (eq_of_beq (by assumption)); rw [if_pos hc, hJ] at hret; exact hret _ _ _ (by k_asm) (news_sub (by k_asm) (fun q hq => .tail _ hq)))
        | (have hc : ¬ (b = true ∨ x = Str.ofString "") := (by rintro (h | h); (simp_all); exact (beq_eq_false_iff_ne.mp (by assumption)) h); rw [if_neg hc, hJ] at hret; exact hret _ _ _ (by k_asm) (news_sub (by k_asm) (fun q hq => .tail _ hq)))
  · refine Held.mk ?_
    rw [eval_ListComp]
    refine wpAny_comprehension_free (use := none) rfl (by intro _; rfl) (cl := []) (by with_unfolding_all rfl) (by rfl) (by decide) ?_
    k_dflt (show wpAny _ _ (eval (Expr.Name _ _) _) _ _ _)
    k_dflt walk1
    k_dflt (refine pyIter_str_K (by k_asm) (by k_asm) ?_)
    intro I1 hI ltI FI NI
    have hne : ∀ q ∈ news, q.1 ≠ I1 := fun q hq => Nat.ne_of_lt (ltI q hq)
    k_dflt (refine' comp_block (I := I1) (n := x.cps.size) (cl := []) (news := news) (fun _ v m' z => if z = Str.ofString "sign" then some v else m' z) (fun i ys nw => nw = news ∧ ∃ l, ys = strValues l ∧ l.map (·.1) = ((signs x).take i).map (escS (Str.ofString "\"\\."))) (str_walks rfl I1 x t) ?hsz ?hIo ?hSt ?hlet ?hasg ?hcell ?hkind ?hst ?hfp FI ?N ?hIL ?hI0 ?off ?h0 ?turn ?fin)
    case hsz => rw [sizeLine_eq]; have : x.cps.size ≤ 10 := hx; omega
    case hIo => exact fun i h st => let ⟨o, ho, _⟩ := st; ⟨o, ho⟩
    case hSt =>
      intro i j h h' o ys nw st e e' _ _ _
      obtain ⟨o', ho, r⟩ := st
      rw [e] at ho; cases ho
      exact ⟨o, e', r⟩
    case hlet => intro i v s' Q' _ _ hq; exact wpAny_pure hq
    case hasg => intro i v ys nw C m' s' Q' _ _ _ hn hq; exact asg_name (by rfl) (by rfl) hn hq
    case hcell => decide
    case hkind => rfl
    case hst => exact ⟨_, (NI _ (.head _)).1, rfl, rfl⟩
    case hfp => intro b hb; rw [List.mem_singleton.mp hb]; exact Heap.lt_size (NI _ (.head _)).1
    case N => exact fun q hq => NI q (.tail _ hq)
    case hIL => exact Ne.symm (NI _ (.head _)).2.1
    case hI0 => exact (NI _ (.head _)).2.2
    case off => exact hne
    case h0 => exact ⟨rfl, [], rfl, rfl⟩
    case turn =>
      rintro i v ys nw oI C oC D m₁ h3 tk3 hi hP ⟨hnw, l, rfl, hl⟩ hoC F3 N3 off3 ne3
      obtain ⟨c, tc, rfl, hc, hc1⟩ := SignAt_str hP
      have hcl : c.length ≤ 1 := by omega
      have hm2 : (fun z => if z = Str.ofString "sign" then some (Value.str c tc) else m₁ z) (Str.ofString "sign") = some (.str c tc) := by simp
      generalize (fun z => if z = Str.ofString "sign" then some (Value.str c tc) else m₁ z) = m₂ at hoC hm2
      refine wpAny_tests_nil ?_
      simp only [if_true]
      have hjj : ∀ tt : Tok, (l ++ [(escS (Str.ofString "\"\\.") c, tt)]).map (·.1) = ((signs x).take (i + 1)).map (escS (Str.ofString "\"\\.")) := fun tt => by
        rw [take_succ_map hc, List.map_append, hl]; rfl
      k_steps
      · have e : escS (Str.ofString "\"\\.") c = c := escS_out (by assumption)
        rw [e] at hjj
        exact LCg.CompEnd.intro (by k_asm) (by k_asm) nw (fun p hp => hp) off3 trivial ⟨hnw, _, (strValues_snoc l (c, _)).symm, hjj _⟩
      · have e : escS (Str.ofString "\"\\.") c = Str.ofString "\\" ++ c := escS_in (by assumption)
        rw [e] at hjj
        exact LCg.CompEnd.intro (by k_asm) (by k_asm) nw (fun p hp => hp) off3 trivial ⟨hnw, _, (strValues_snoc l (Str.ofString "\\" ++ c, _)).symm, hjj _⟩
    case fin =>
      rintro D h3 tk3 ys nw ⟨rfl, l, rfl, hl⟩ F3 N3 off3
      have hl2 : l.map (·.1) = (signs x).map (escS (Str.ofString "\"\\.")) := by rw [hl, List.take_of_length_le (by rw [signs_length]; exact Nat.le_refl _)]
      have hsum : lsum (l.map (·.1)) ≤ 20 := by
        rw [hl2]
        have h1 := lsum_escS (Str.ofString "\"\\.") (signs x)
        rw [lsum_signs, signs_length] at h1
        omega
      have hll : l.length ≤ 10 := by
        have h1 := congrArg List.length hl2
        rw [List.length_map, List.length_map, signs_length] at h1
        omega
      have hok : ((l.map (·.1)).map (·.length)).sum + (l.map (·.1)).length * (Str.ofString "").length ≤ 16777216 := by
        rw [show (Str.ofString "").length = 0 by decide +kernel]; unfold lsum at hsum; omega
      have hjl : (Txt.join (Str.ofString "") (l.map (·.1))).length ≤ 30 := by
        have h1 := StrLaws.join_length_le (Str.ofString "") (l.map (·.1))
        rw [show Txt.join (Str.ofString "") (l.map (·.1)) = Str.join (Str.ofString "") (l.map (·.1)) from StrLaws.glued_eq_join _ _]
        rw [show (Str.ofString "").length = 0 by decide +kernel] at h1; unfold lsum at hsum; omega
      try dsimp only
      k_steps
      refine SC.join (l := l) ⟨_, News.get (by k_asm) (.head _), rfl, (strValues l).length, rfl⟩ rfl (joinOk_of hok) ?_
      intro tj kj
      rw [hl2] at hjl ⊢
      generalize hJ : Txt.join (Str.ofString "") ((signs x).map (escS (Str.ofString "\"\\."))) = JJ at hjl ⊢
      k_steps
      all_goals (unfold shield at hret)
      all_goals first
        | (have hc : (true = true ∨ x = Str.ofString "") := .inl rfl; rw [if_pos hc, hJ] at hret; exact hret _ _ _ (by k_asm) (news_sub (by k_asm) (fun q hq => .tail _ hq)))
        | (have hc : (false = true ∨ x = Str.ofString "") := .inr (eq_of_beq (by assumption)); rw [if_pos hc, hJ] at hret; exact hret _ _ _ (by k_asm) (news_sub (by k_asm) (fun q hq => .tail _ hq)))
        | (have hc : ¬ (false = true ∨ x = Str.ofString "") := (by rintro (h | h); (cases h); exact (beq_eq_false_iff_ne.mp (by assumption)) h); rw [if_neg hc, hJ] at hret; exact hret _ _ _ (by k_asm) (news_sub (by k_asm) (fun q hq => .tail _ hq)))
        | (have hc : (b = true ∨ x = Str.ofString "") := .inl (by assumption); rw [if_pos hc, hJ] at hret; exact hret _ _ _ (by k_asm) (news_sub (by k_asm) (fun q hq => .tail _ hq)))
        | (have hc : (b = true ∨ x = Str.ofString "") := .inr (eq_of_beq (by assumption)); rw [if_pos hc, hJ] at hret; exact hret _ _ _ (by k_asm) (news_sub (by k_asm) (fun q hq => .tail _ hq)))
        | (have hc : ¬ (b = true ∨ x = Str.ofString "") := (by rintro (h | h); (simp_all); exact (beq_eq_false_iff_ne.mp (by assumption)) h); rw [if_neg hc, hJ] at hret; exact hret _ _ _ (by k_asm) (news_sub (by k_asm) (fun q hq => .tail _ hq)))
end

end S_P18_0
local macro_rules | `(tactic| walk_at "call ref") => `(tactic| (k_here; (with_reducible show wpAny _ _ (call (Value.ref 190) [Value.str _ _, Value.bool _]) _ _ _); k_dflt (refine' shielded_spec ?kl ?k1 ?k2 ?k3 ?k4 ?k5 ?kK ?kd ?ku ?_; (case k1 => k_asm); (case k2 => k_asm); (case k3 => k_asm); (case k4 => k_asm); (case k5 => k_asm); (case kK => first | exact rfl | assumption); (case kd => ktr_room); (case ku => ktr_units); (case kl => first | assumption | omega | decide +kernel); k_whole); intro t' h' tk' F' N'; (try k_sweep)))

section S_P20_0
section
variable {prog : Program} {w : World} {A : Around} {E : Value → Shared → Prop} {s : Shared} {h₀ : Heap} {L D : Addr} {m : Str → Option Value} {news news' : List (Addr × Obj)} {n : Nat}
theorem item_lit {value slice : Expr} {vs : List Value} {ys : List Str} {k : Int} {u : Tok} {Q : Value → Shared → Prop} (N : News h₀ L s.heap news) (hm : (D, listOf vs.toArray n) ∈ news) (hi : StrsAre vs ys) (h0 : 0 ≤ k) (h1 : k < ys.length) (hy : ys.length ≤ 100)
    (hall : ∀ y ∈ ys, y.length ≤ 10) (h : ∀ t, (ys.getD k.toNat Str.empty).length ≤ 10 → Q (.str (ys.getD k.toNat Str.empty) t) s)
    (hs : subscripted slice false (.ref D) (.int k u) = operate [.ref D, .int k u] (getItem (.ref D) (.int k u)) := by with_unfolding_all rfl) :
    wpAny (model prog w) A (subscriptTail value slice (.ref D) (.int k u)) Q E s := by
  have hlt : k.toNat < ys.length := by omega
  have e : ys[k.toNat]? = some (ys.getD k.toNat Str.empty) := by simp [List.getD, hlt]
  obtain ⟨t, ht⟩ := hi.at e
  exact subscriptTail_builtinR (x := .str (ys.getD k.toNat Str.empty) t) (T := "list") ⟨_, N.get hm, rfl⟩ slot_list_getitem.lookup (wpAny_getItem_list ⟨_, N.get hm, rfl, n, rfl⟩ h0 (by omega) (by simpa using ht) ⟨rfl, h t (hall _ (List.mem_of_getElem? e))⟩) hs
end
local macro_rules | `(tactic| walk_at "subscriptTail") => `(tactic| (k_here; refine Held.out ?_))
section
variable {w : World} {p : Program} {loose : List Str} {mean : ExcName → Option Value} {mg mb : Str → Option Value} {dp un : Nat} {gd : Option (List Code)} {cn : Str} {cs : Scope} {a : Addr} {ccd : Value} {cl : List (Str × Addr)} {outer : List Env} {A₀ : Around} {base h₀ : Heap} {L : Addr} {m : Str → Option Value} {news : List (Addr × Obj)} {s : Shared} {Q E : Value → Shared → Prop}
theorem piece_spec {c : Int} {t : Tok} (hc0 : 0 ≤ c) (hc1 : c < 256)
    (B : Below A₀ base outer h₀) (F : Fr h₀ L s.heap m) (X : (hd.heap_39 w.params).In h₀) (N : News h₀ L s.heap news) (T : Top p loose mean mg mb h₀) (hk : cs.kind = .function)
    (hd : dp + 40 < recursionLimit) (hu : un + 400 < cLine)
    (hret : ∀ D t0 t1 t2 h' tk', (∀ q ∈ news, q.1 < D) → Fr h₀ L h' m → News h₀ L h' ((D, tupObj #[.str (pieceOf c).1 t0, .str (pieceOf c).2.1 t1, .str (pieceOf c).2.2 t2]) :: news) → Q (.ref D) { s with heap := h', toks := tk' }) :
    wpAny (model pw w) (ktrTop dp un gd cn cs L a ccd cl outer) (call (.ref 197) [.int c t]) Q E s := by
  refine wpAny_call ?_
  k_dflt ktr_enter
  have e8 : (c.fdiv 16).fmod 8 = (c.fdiv 16) % 8 := Int.fmod_eq_emod_of_nonneg _ (by decide)
  have e4 : ((c.fdiv 16).fmod 8).fmod 4 = ((c.fdiv 16).fmod 8) % 4 := Int.fmod_eq_emod_of_nonneg _ (by decide)
  have e16 : c.fmod 16 = c % 16 := Int.fmod_eq_emod_of_nonneg _ (by decide)
  have h80 : 0 ≤ (c.fdiv 16).fmod 8 := by omega
  have h81 : (c.fdiv 16).fmod 8 < 8 := by omega
  have h40 : 0 ≤ ((c.fdiv 16).fmod 8).fmod 4 := by omega
  have h41 : ((c.fdiv 16).fmod 8).fmod 4 < 4 := by omega
  have h160 : 0 ≤ c.fmod 16 := by omega
  have h161 : c.fmod 16 < 16 := by omega
  clear e8 e4 e16
  k_steps
  · have e : pieceOf c = (Str.ofString "still", Txt.mul (Str.ofString ".") (c.fmod 16), Txt.mul (Str.ofString ".") (c.fmod 16)) := by unfold pieceOf; rw [if_pos (by assumption)]
    rw [e] at hret
    exact hret _ _ _ _ _ _ (by first | assumption | exact lt_of_all (And.right (by assumption))) (by k_asm) (news_sub (by k_asm) (by intro p9 h9; rcases List.mem_cons.mp h9 with rfl | h9; exact .head _; first | exact .tail _ h9 | exact .tail _ (.tail _ h9)))
  · have e : pieceOf c = (Str.ofString "up", Str.ofString "..", Str.ofString "..") := by unfold pieceOf; rw [if_neg (by assumption), if_pos (by assumption)]
    rw [e] at hret
    exact hret _ _ _ _ _ _ (by first | assumption | exact lt_of_all (And.right (by assumption))) (by k_asm) (news_sub (by k_asm) (by intro p9 h9; rcases List.mem_cons.mp h9 with rfl | h9; exact .head _; first | exact .tail _ h9 | exact .tail _ (.tail _ h9)))
  · refine Held.mk ?_
    have e : pieceOf c = (Str.ofString "root", roots4.getD (((c.fdiv 16).fmod 8).fmod 4).toNat Str.empty, Txt.mul (Str.ofString "/") (((c.fdiv 16).fmod 8).fmod 4 + 1)) := by unfold pieceOf; rw [if_neg (by assumption), if_neg (by assumption), if_pos (by assumption)]
    rw [e] at hret
    rename_i tk9 l9 h9 F9 N9 l9'
    k_dflt (refine item_lit (ys := roots4) N9 (.head _) (.cons _ _ (.cons _ _ (.cons _ _ (.cons _ _ .nil)))) h40 h41 (by decide) (by decide +kernel) ?_)
    intro ty hy
    generalize List.getD roots4 _ _ = yy at hy hret ⊢
    k_steps
    exact hret _ _ _ _ _ _ (by first | assumption | exact lt_of_all (And.right (by assumption))) (by k_asm) (news_sub (by k_asm) (by intro p9 h9; rcases List.mem_cons.mp h9 with rfl | h9; exact .head _; first | exact .tail _ h9 | exact .tail _ (.tail _ h9)))
  · refine Held.mk ?_
    have e : pieceOf c = (Str.ofString "name", names8.getD ((c.fdiv 16).fmod 8).toNat Str.empty, shield (names8.getD ((c.fdiv 16).fmod 8).toNat Str.empty) (c.fdiv 128 == 1)) := by unfold pieceOf; rw [if_neg (by assumption), if_neg (by assumption), if_neg (by assumption)]
    rw [e] at hret
    rename_i tk9 l9 h9 F9 N9 l9'
    k_dflt (refine item_lit (ys := names8) N9 (.head _) (.cons _ _ (.cons _ _ (.cons _ _ (.cons _ _ (.cons _ _ (.cons _ _ (.cons _ _ (.cons _ _ .nil)))))))) h80 h81 (by decide) (by decide +kernel) ?_)
    intro ty hy
    generalize List.getD names8 _ _ = yy at hy hret ⊢
    k_steps
    exact hret _ _ _ _ _ _ (by first | assumption | exact lt_of_all (And.right (by assumption))) (by k_asm) (news_sub (by k_asm) (by intro p9 h9; rcases List.mem_cons.mp h9 with rfl | h9; exact .head _; first | exact .tail _ h9 | exact .tail _ (.tail _ h9)))
end

end S_P20_0
section S_P21_0
theorem off_of {d : Nat} {l : List (Addr × Obj)} {e : Nat} (h : AllLt d l) (hd : d ≤ e) : ∀ q ∈ l, q.1 ≠ e := fun q hq => Nat.ne_of_lt (Nat.lt_of_lt_of_le (lt_of_all h q hq) hd)
theorem LexOk.cel_dl {x : LexP} (ok : LexOk x) : x.cel < x.dl := by
  have := ok.o1; have := ok.o2; have := ok.o3; have := ok.o4; have := ok.o5; have := ok.o6
  omega
theorem lex_drop {h₀ h : Heap} {L : Addr} {w : World} {x : LexP} {ln : Int} {tl : Tok} {l : List (Str × Tok)} {n : Nat} {news : List (Addr × Obj)} (N : News h₀ L h (lexLed w x ln tl l n ++ news)) : News h₀ L h news := news_sub N fun q hq => List.mem_append_right _ hq
theorem th_eq {a1 b1 a2 b2 : Option Value} {r : Str → Option Value} (v : Str) : (if v = Str.ofString "tail" then a1 else if v = Str.ofString "head" then b1 else if v = Str.ofString "tail" then a2 else if v = Str.ofString "head" then b2 else r v) = if v = Str.ofString "tail" then a1 else if v = Str.ofString "head" then b1 else r v := by
  by_cases q1 : v = Str.ofString "tail"
  · rw [if_pos q1, if_pos q1]
  · by_cases q2 : v = Str.ofString "head"
    · rw [if_neg q1, if_pos q2, if_neg q1, if_pos q2]
    · simp only [q1, q2, if_false]
theorem while_walk {prog : Program} {w : World} {A : Around} {s : Shared} {test : Expr} {body : List Stmt} {env : Env} {R : Result → Shared → Prop} (I : Nat → Shared → Prop)
    (turn : ∀ n s', I n s' → wpAny (model prog w) A (isTrue test env (eval test env)) (fun b s₂ => if b = true then wpAny (model prog w) A (execs body env) (fun f s₃ => match f with
        | .next | .cont => LoopEnd (∃ m, m < n ∧ I m s₃)
        | .brk => R (.ok .next) s₃
        | .ret v => R (.ok (.ret v)) s₃) (fun _ _ => False) s₂ else LoopEnd (R (.ok .next) s₂)) (fun _ _ => False) s')
    (n : Nat) (h : I n s) : codeAny (model prog w) A (.whileLoop test body [] env) R s := by
  refine codeAny_whileLoop I (fun n s' hI => wpAny_mono (turn n s' hI) (fun b s₂ hb => ?_) fun _ _ e => e.elim) n h
  cases b with
  | true =>
    rw [if_pos rfl] at hb
    rw [if_pos rfl]
    refine wpAny_mono hb (fun f s₃ hf => ?_) fun _ _ e => e.elim
    cases f <;> exact hf
  | false =>
    rw [if_neg Bool.false_ne_true] at hb
    rw [if_neg Bool.false_ne_true]
    exact wpAny_execs_nil hb
theorem cm_start {x : Str} {t : Tok} {NC : Nat} {v1 v2 : Value} (y : Str) : (if y = Str.ofString "tail" then some v1 else if y = Str.ofString "head" then some v2 else if y = Str.ofString "names" then some (Value.ref NC) else List.lookup y [(Str.ofString "path", Value.str x t)]) = if y = Str.ofString "tail" then some v1 else if y = Str.ofString "head" then some v2 else if y = Str.ofString "names" then some (Value.ref NC) else if y = Str.ofString "path" then some (Value.str x t) else none := by
  by_cases e : y = Str.ofString "path"
  · subst e; rfl
  · simp only [e, if_false, List.lookup, beq_eq_false_iff_ne.mpr e]
theorem insert0_K {prog : Program} {w : World} {A : Around} {E : Value → Shared → Prop} {s : Shared} {h₀ : Heap} {L D : Addr} {m : Str → Option Value} {news news' : List (Addr × Obj)} {n : Nat} {Q : Value → Shared → Prop} {k : List (Str × Tok)} {c : Str} {t u : Tok}
    (F : Fr h₀ L s.heap m) (N : News h₀ L s.heap news) (U : Upd D (listOf (strValues k).toArray n) (listOf (strValues ((c, t) :: k)).toArray (n + 1)) news news') (hz : k.length ≤ 1000000)
    (h : ∀ h', Fr h₀ L h' m → News h₀ L h' news' → Q .none { s with heap := h' }) : wpAny (model prog w) A (call (.builtin "list.insert") [.ref D, .int 0 u, .str c t]) Q E s := by
  refine kl_insert (its := (strValues k).toArray) (l := strValues ((c, t) :: k)) F N (by decide) ?_ U ?_ h
  · unfold kl_ins; simp [strValues]
  · rw [sizeLine_eq]; simp only [strValues_length]; omega

end S_P21_0
local macro_rules | `(tactic| walk_at "call builtin:list.insert") => `(tactic| (k_here; (with_reducible show wpAny _ _ (call (Value.builtin "list.insert") [Value.ref _, Value.int _ _, Value.str _ _]) _ _ _); k_dflt (refine' insert0_K ?F ?N ?U ?z ?_; (case F => k_asm); (case N => k_asm); (case U => k_upd); (case z => (first | assumption | omega))); kl_rest))
local macro_rules | `(tactic| walk_at "call ref") => `(tactic| (k_here; (first | (with_reducible show wpAny _ _ (call (Value.ref 164) [Value.ref _]) _ _ _) | k_dflt (show wpAny _ _ (call (Value.ref 164) [Value.ref _]) _ _ _)); k_dflt (refine' get_token_spec ?k1 ?k2 ?k3 ?k4 ?k5 ?kK ?kC ?kd ?ku ?ko ?ks ?kl ?kr ?_; (case k1 => k_asm); (case k2 => k_asm); (case k3 => k_asm); (case k4 => k_asm); (case k5 => k_asm); (case kK => first | exact rfl | assumption); (case kC => first | assumption | kn_code); (case kd => ktr_room); (case ku => ktr_units); (case ko => assumption); (case ks => assumption); (case kl => assumption); (case kr => assumption); k_whole); intro t' tl' n' h' tk' F' N'; (try simp only [lexLed, List.cons_append, List.nil_append] at N'); (try k_sweep)))
local macro_rules | `(tactic| walk_at "call ref") => `(tactic| (k_here; (with_reducible show wpAny _ _ (call (Value.ref 185) [Value.str _ _]) _ _ _); k_dflt (refine' lexer_hit ?k1 ?k2 ?k3 ?k4 ?k5 ?kK ?kC ?kd ?ku ?kl ?kt ?ko ?kx ?ky ?_; (case k1 => k_asm); (case k2 => k_asm); (case k3 => k_asm); (case k4 => k_asm); (case k5 => k_asm); (case kK => first | exact rfl | assumption); (case kC => first | assumption | kn_code); (case kd => ktr_room); (case ku => ktr_units); (case kl => first | assumption | omega); (case kt => k_mem); (case ko => k_mem); (case kx => assumption); (case ky => assumption); k_whole); intro x' l' n' tl' h' tk' ok' ec' el' l1' F' N'; (have o1' := LexOk.o1 ok'); (have o2' := LexOk.o2 ok'); (have o3' := LexOk.o3 ok'); (have o4' := LexOk.o4 ok'); (have o5' := LexOk.o5 ok'); (have o6' := LexOk.o6 ok'); (have o7' := LexOk.o7 ok'); (have o8' := LexOk.o8 ok'); (have gl' := goodL_signs el' (by omega)); (have os' := off_of l1' (Nat.le_of_lt (LexOk.o1 ok'))); (have od' := off_of l1' (Nat.le_of_lt (LexOk.cel_dl ok'))); (have l2' := l1'); (try simp only [AllLt] at l2'); (try simp only [lexLed, List.cons_append, List.nil_append] at N'); (try k_sweep)))

section S_P21_2
section
variable {w : World} {p : Program} {loose : List Str} {mean : ExcName → Option Value} {mg mb : Str → Option Value} {dp un : Nat} {gd : Option (List Code)} {cn : Str} {cs : Scope} {a : Addr} {ccd : Value} {cl : List (Str × Addr)} {outer : List Env} {A₀ : Around} {base h₀ : Heap} {L : Addr} {m : Str → Option Value} {news : List (Addr × Obj)} {s : Shared} {Q E : Value → Shared → Prop}
local macro_rules | `(tactic| walk_at "call ref") => `(tactic| (k_here; (first | (with_reducible show wpAny _ _ (call (Value.ref 164) [Value.ref _]) _ _ _) | k_dflt (show wpAny _ _ (call (Value.ref 164) [Value.ref _]) _ _ _)); k_dflt (refine' get_token_spec ?k1 ?k2 ?k3 ?k4 ?k5 ?kK ?kC ?kd ?ku ?ko ?ks ?kl ?kr ?_; (case k1 => k_asm); (case k2 => k_asm); (case k3 => k_asm); (case k4 => k_asm); (case k5 => k_asm); (case kK => first | exact rfl | assumption); (case kC => first | assumption | kn_code); (case kd => ktr_room); (case ku => ktr_units); (case ko => assumption); (case ks => assumption); (case kl => assumption); (case kr => assumption); k_whole); intro t' tl' n' h' tk' F' N'; (replace N' := lex_drop N'); (try k_sweep)))
local macro_rules | `(tactic| walk_at "exec While") => `(tactic| (k_here; refine Held.out ?_))
theorem climb_spec {x : Str} {t : Tok} {c : Addr} {oc : Obj} {vs : Array Value} {tq : Tok}
    (B : Below A₀ base outer h₀) (F : Fr h₀ L s.heap m) (X : (hd.heap_39 w.params).In h₀) (N : News h₀ L s.heap news) (T : Top p loose mean mg mb h₀) (hk : cs.kind = .function) (C : CodeHd base 184 180)
    (hd : dp + 80 < recursionLimit) (hu : un + 1600 < cLine) (hlen : x.length ≤ 100000) (htab : (180, tabObj #[rawInt 181, rawInt 18, .ref c]) ∈ news) (hoc : (c, oc) ∈ news) (d1 : oc.data = .fields vs) (d2 : vs[1]? = some (.str lamQ tq))
    {fuel : Nat} {rh : Str} {rn : List Str} (hcr : climbRun fuel x [] = some (rh, rn)) (hfu : fuel ≤ 1000)
    (hret : ∀ D NL n k t0 h' tk', k.map (·.1) = rn → (∀ q ∈ news, q.1 < NL) → @LT.lt Nat _ NL D → Fr h₀ L h' m → News h₀ L h' ((D, tupObj #[.str rh t0, .ref NL]) :: (NL, listOf (strValues k).toArray n) :: news) → Q (.ref D) { s with heap := h', toks := tk' }) :
    wpAny (model pw w) (ktrTop dp un gd cn cs L a ccd cl outer) (call (.ref 223) [.str x t]) Q E s := by
  refine wpAny_call ?_
  k_dflt ktr_enter
  k_steps
  rename_i g1 L1 ha FG1 B1 X1 T1 tka NC hb ltNC hc tkb D1 t1 t2 hd1 tkc ltD he hf hg F1 N1
  refine Held.mk ?_
  have F2 := fr_cast F1 (fun y => cm_start y)
  clear F1
  refine wpAny_While ?_
  k_dflt (refine while_walk (fun n s' => ∃ h tk y k nn th tt, s' = { s with heap := h, toks := tk } ∧ climbRun n y (k.map (·.1)) = some (rh, rn) ∧ y.length ≤ 100000 ∧ k.length + n ≤ 1000 ∧ Fr g1 L1 h (fun v => if v = Str.ofString "tail" then some (.str (splitTail y) tt) else if v = Str.ofString "head" then some (.str (splitHead y) th) else if v = Str.ofString "names" then some (.ref NC) else if v = Str.ofString "path" then some (.str x t) else none) ∧ News g1 L1 h ((NC, listOf (strValues k).toArray nn) :: news)) ?turn fuel ⟨_, _, x, [], 0, t1, t2, rfl, hcr, hlen, by simpa using hfu, F2, news_sub N1 (fun q hq => .tail _ hq)⟩)
  case turn =>
    rintro n s' ⟨h3, tk3, y, k, nn, th, tt, rfl, hcr', hy, hkl, F3, N3⟩
    have hsh := splitHead_le y
    have hst := splitTail_le y
    have hll : ∀ q ∈ news, q.1 ≠ NC := fun q hq => Nat.ne_of_lt (ltNC q hq)
    have hkl2 : k.length ≤ 1000 := by omega
    clear F2 N1 ltD
    k_steps
    · rename_i an tk2 x5 l5 n5 tl5 h5 tk5 ok5 ec5 el5 l15 q1 q2 q3 q4 q5 q6 q7 q8 gl5 os5 od5 q9 t6 tl6 n6 h6 tk6 h7 tk7 D7 t17 t27 h8 tk8 l17 h9 h10 h11 F5 N5
      try dsimp only
      have e1 : (tokS (signs (splitTail y)) 1).1 = (tokrun l5 1).1 := by rw [← el5, tokrun_tokS]
      have e2 : splitTail y ≠ Str.ofString "" := bne_iff_ne.mp an
      cases n with
      | zero => simp [climbRun] at hcr'
      | succ n1 =>
        rw [climbRun, if_neg e2, e1] at hcr'
        exact ⟨n1, Nat.lt_succ_self _, _, _, splitHead y, ((tokrun l5 1).1, t6) :: k, _, _, _, rfl, hcr', by omega, by simp only [List.length_cons]; omega, fr_cast F5 (fun v => th_eq (r := fun v => if v = Str.ofString "names" then some (Value.ref NC) else if v = Str.ofString "path" then some (Value.str x t) else none) v), news_sub N5 (fun q hq => .tail _ hq)⟩
    · have an := ‹(splitTail y != Str.ofString "") = false›
      have e2 : splitTail y = Str.ofString "" := by simpa using an
      unfold LoopEnd
      try dsimp only
      cases n with
      | zero => simp [climbRun] at hcr'
      | succ n1 =>
        rw [climbRun, if_pos e2] at hcr'
        obtain ⟨e3, e4⟩ := Prod.mk.inj (Option.some.inj hcr')
        clear hcr'
        k_steps
        rw [← e3] at hret
        exact hret _ NC nn k _ _ _ e4 ltNC (by first | assumption | omega) (by k_asm) (by k_asm)
end

end S_P21_2
section S_P22_0
theorem carried_strs : ∀ l : List (Str × Tok), CarriedAll (strValues l) ((l.map (·.1)).map PyData.str)
  | [] => .nil
  | (c, t) :: r => .cons (.str c t) (carried_strs r)
theorem canLayAll0_strs : ∀ ns : List Str, (∀ n ∈ ns, PyData.strOk n = true) → PyData.canLayAll0 (ns.map PyData.str) = true
  | [], _ => by simp [PyData.canLayAll0]
  | n :: r, h => by simp [PyData.canLayAll0, PyData.canLay0, canLayAll0_strs r (fun q hq => h q (.tail _ hq)), h n (.head _)]
theorem depthAll_strs : ∀ ns : List Str, PyData.depthAll (ns.map PyData.str) = 0
  | [] => rfl
  | _ :: r => by simp [PyData.depthAll, PyData.depth, depthAll_strs r]
theorem shaped_strs (ns : List Str) (h : ∀ n ∈ ns, PyData.strOk n = true) : SeqAt.shaped (.list (ns.map PyData.str)) = true := by
  simp [SeqAt.shaped, PyData.canLay0, PyData.depth, canLayAll0_strs ns h, depthAll_strs]
theorem sameAll_strs : ∀ ns ms : List Str, PySem.Spec.sameAll (ns.map PyData.str) (ms.map PyData.str) = decide (ns = ms)
  | [], [] => by simp [PySem.Spec.sameAll]
  | [], _ :: _ => by simp [PySem.Spec.sameAll]
  | _ :: _, [] => by simp [PySem.Spec.sameAll]
  | a :: r, b :: t => by
    simp only [List.map_cons, PySem.Spec.sameAll, PySem.Spec.same, sameAll_strs r t]
    by_cases h : a = b <;> by_cases h' : r = t <;> simp [h, h']
section
variable {prog : Program} {w : World} {A : Around} {E : Value → Shared → Prop} {s : Shared} {h₀ : Heap} {L a b : Addr} {m : Str → Option Value} {news : List (Addr × Obj)} {k l : List (Str × Tok)} {n n2 : Nat} {Q : Value → Shared → Prop}
theorem eq_strs (N : News h₀ L s.heap news) (ha : (a, listOf (strValues k).toArray n) ∈ news) (hb : (b, listOf (strValues l).toArray n2) ∈ news) (hu : A.units + 64 < cLine) (hk : ∀ y ∈ k.map (·.1), PyData.strOk y = true) (hl : ∀ y ∈ l.map (·.1), PyData.strOk y = true) (h : Q (.bool (decide (k.map (·.1) = l.map (·.1)))) s) :
    wpAny (model prog w) A (compareOp .Eq (.ref a) (.ref b)) Q E s :=
  eq_dataH_same (reads_newData ⟨_, N.get ha, rfl, n, rfl⟩ (carried_strs k)) (reads_newData ⟨_, N.get hb, rfl, n2, rfl⟩ (carried_strs l)) (shaped_strs _ hk) (shaped_strs _ hl) hu
    (SeqAt.noMix_of_shape (.list .str) rfl _ _ (list_map_has fun _ => rfl) (list_map_has fun _ => rfl)) (by rw [show PySem.Spec.same (.list ((k.map (·.1)).map PyData.str)) (.list ((l.map (·.1)).map PyData.str)) = decide (k.map (·.1) = l.map (·.1)) by simp only [PySem.Spec.same]; exact sameAll_strs _ _]; exact h)
theorem len_strs (N : News h₀ L s.heap news) (ha : (a, listOf (strValues k).toArray n) ∈ news) (hz : k.length ≤ 100000) (h : Q (.int (k.length : Int) (s.toks + 1)) { s with toks := s.toks + 1 + 1 }) :
    wpAny (model prog w) A (call (.builtin "len") [.ref a]) Q E s := by
  have e : ((strValues k).toArray.size : Int) = (k.length : Int) := by simp [strValues_length]
  exact call_len_list ⟨_, N.get ha, rfl, n, rfl⟩ (by rw [e]; omega) (by rw [e]; exact h)
theorem cat_strs (F : Fr h₀ L s.heap m) (N : News h₀ L s.heap news) (ha : (a, listOf (strValues k).toArray n) ∈ news) (hb : (b, listOf (strValues l).toArray n2) ∈ news) (hz : k.length + l.length ≤ 100000)
    (h : ∀ D h', Fr h₀ L h' m → News h₀ L h' ((D, listOf (strValues (k ++ l)).toArray 0) :: news) → (∀ p ∈ news, p.1 < D) → Q (.ref D) { s with heap := h' }) :
    wpAny (model prog w) A (binaryOp .Add (.ref a) (.ref b)) Q E s :=
  kmk_add_lit (its := (strValues k).toArray) (its2 := (strValues l).toArray) F N ⟨_, N.get ha, rfl, n, rfl⟩ ⟨_, N.get hb, rfl, n2, rfl⟩ (by simp [strValues]) h (by rw [sizeLine_eq]; simp only [strValues_length]; omega)
end
open PyProof.Rows.LCg in
theorem compRest_of {prog : Program} {w : World} {A : Around} {h₀ : Heap} {L : Addr} {m : Str → Option Value} {env : Env} {elt : Expr} {x : Str} {scope : Scope} {cl : List (Str × Addr)} {s : Shared} {S : List (Addr × Obj) → Prop} {P : Nat → Value → Prop} {Fin : List Value → List (Addr × Obj) → Prop} {n : Nat}
    (J : Nat → List Value → List (Addr × Obj) → Prop)
    (turn : ∀ i v ys news I oI C oC D m₂ h tk (E' : Value → Shared → Prop), i < n → J i ys news → P i v → NsObj oC m₂ → m₂ x = some v → Fr h₀ L h m → News h₀ L h ((I, oI) :: (C, oC) :: (D, lst ys) :: news) → Off3 I C D news → ((@Ne Nat I C) ∧ (@Ne Nat I D) ∧ (@Ne Nat C D)) →
      wpAny (model prog w) A (eval elt (compEnvC scope cl C env)) (CompEnd h₀ L m { s with heap := h, toks := tk } I oI C oC D (lst ys) S (fun y news' => J (i + 1) (ys ++ [y]) news')) E' { s with heap := h, toks := tk })
    (fin : ∀ ys news, J n ys news → Fin ys news) : ∀ k i ys news, i + k = n → J i ys news → CompRest prog w A h₀ L m env elt x scope cl s S P Fin k i ys news := by
  intro k
  induction k with
  | zero => intro i ys news hi hJ; exact CompRest.zero (fin ys news (by rw [show n = i by omega]; exact hJ))
  | succ k ih =>
    intro i ys news hi hJ
    refine CompRest.succ fun v I oI C oC D m₂ h tk E' hP hoC hm F N off ne => ?_
    refine wpAny_mono (turn i v ys news I oI C oC D m₂ h tk E' (by omega) hJ hP hoC hm F N off ne) (fun y s' hc => ?_) fun _ _ e => e
    obtain ⟨h', tk', news', e1, F', N', off', hS, r⟩ := hc
    exact ⟨h', tk', news', e1, F', N', off', hS, ih (i + 1) _ _ (by omega) r⟩

end S_P22_0
local macro_rules | `(tactic| walk_at "call builtin:len") => `(tactic| (k_here; (with_reducible show wpAny _ _ (call (Value.builtin "len") [Value.ref _]) _ _ _); k_dflt (refine' len_strs ?k1 ?k2 ?k3 ?_; (case k1 => k_asm); (case k2 => k_mem); (case k3 => (first | assumption | omega)); k_whole)))

section S_P23_0
theorem off3_lex {w : World} {x : LexP} {I C D : Addr} {ln ln' : Int} {tl tl' : Tok} {l l' : List (Str × Tok)} {n n' : Nat} {r : List (Addr × Obj)} (h : LCg.Off3 I C D (lexLed w x ln tl l n ++ r)) : LCg.Off3 I C D (lexLed w x ln' tl' l' n' ++ r) := h
theorem ledger_in {led a : List (Addr × Obj)} {e1 e2 e3 : Addr × Obj} : ∀ q ∈ led ++ e1 :: e2 :: e3 :: a, q ∈ e1 :: e2 :: e3 :: (led ++ a) := fun q hq => by
  rcases List.mem_append.mp hq with h | h
  · exact .tail _ (.tail _ (.tail _ (List.mem_append_left _ h)))
  · rcases List.mem_cons.mp h with rfl | h
    · exact .head _
    · rcases List.mem_cons.mp h with rfl | h
      · exact .tail _ (.head _)
      · rcases List.mem_cons.mp h with rfl | h
        · exact .tail _ (.tail _ (.head _))
        · exact .tail _ (.tail _ (.tail _ (List.mem_append_right _ h)))
theorem ledger_out {led a : List (Addr × Obj)} {e1 e2 e3 : Addr × Obj} : ∀ q ∈ e1 :: e2 :: e3 :: (led ++ a), q ∈ led ++ e1 :: e2 :: e3 :: a := fun q hq => by
  rcases List.mem_cons.mp hq with rfl | h
  · exact List.mem_append_right _ (.head _)
  · rcases List.mem_cons.mp h with rfl | h
    · exact List.mem_append_right _ (.tail _ (.head _))
    · rcases List.mem_cons.mp h with rfl | h
      · exact List.mem_append_right _ (.tail _ (.tail _ (.head _)))
      · rcases List.mem_append.mp h with h | h
        · exact List.mem_append_left _ h
        · exact List.mem_append_right _ (.tail _ (.tail _ (.tail _ h)))
theorem ints_snoc {ys : List Value} {ns : List Int} {i : Nat} {n : Int} {t : Tok} (h : IntsAre ys (ns.take i)) (e : ns[i]? = some n) : IntsAre (ys ++ [.int n t]) (ns.take (i + 1)) := by
  rw [List.take_add_one, e]
  exact h.append (.cons n t .nil)
def TabOk (tab : Array Value) (news : List (Addr × Obj)) (lo : Nat) : Prop := tab = #[] ∨ ∃ c oc vs tq, tab = #[rawInt 181, rawInt 18, .ref c] ∧ (c, oc) ∈ news ∧ @LT.lt Nat _ c lo ∧ oc.data = .fields vs ∧ vs[1]? = some (.str lamQ tq)
section
variable {w : World} {p : Program} {loose : List Str} {mean : ExcName → Option Value} {mg mb : Str → Option Value} {dp un : Nat} {gd : Option (List Code)} {cn : Str} {cs : Scope} {a : Addr} {ccd : Value} {cl : List (Str × Addr)} {outer : List Env} {A₀ : Around} {base h₀ : Heap} {L : Addr} {m : Str → Option Value} {news : List (Addr × Obj)} {s : Shared} {Q E : Value → Shared → Prop}
theorem lexer_any {y : Str} {t : Tok} {tab : Array Value}
    (B : Below A₀ base outer h₀) (F : Fr h₀ L s.heap m) (X : (hd.heap_39 w.params).In h₀) (N : News h₀ L s.heap ((180, tabObj tab) :: news)) (T : Top p loose mean mg mb h₀) (hk : cs.kind = .function) (C : CodeHd base 184 180)
    (hd : dp + 20 < recursionLimit) (hu : un + 200 < cLine) (hlen : y.length ≤ 100000) (hoff : ∀ q ∈ news, q.1 ≠ 180) {lo : Nat} (ht : TabOk tab news lo)
    (hret : ∀ (x : LexP) (l : List (Str × Tok)) (n : Nat) (tl : Tok) (h' : Heap) (tk' : Nat), LexOk x → l.map (·.1) = signs y → 180 < x.cel → AllLt x.cel news → x.c ≠ 180 → (@LT.lt Nat _ x.c lo ∨ @LT.lt Nat _ x.cel x.c) → Fr h₀ L h' m → News h₀ L h' (lexLed w x 1 tl l n ++ (180, tabObj #[rawInt 181, rawInt 18, .ref x.c]) :: news) → Q (.ref x.lx) { s with heap := h', toks := tk' }) :
    wpAny (model pw w) (ktrTop dp un gd cn cs L a ccd cl outer) (call (.ref 185) [.str y t]) Q E s := by
  rcases ht with rfl | ⟨c, oc, vs, tq, rfl, hm, hlo, d1, d2⟩
  · exact lexer_first B F X N T hk C hd hu hlen hoff fun x l n tl h' tk' ok el h1 al hc F' N' => hret x l n tl h' tk' ok el h1 al (Nat.ne_of_gt (Nat.lt_trans h1 hc)) (.inr hc) F' N'
  · refine lexer_hit B F X N T hk C hd hu hlen (.head _) (.tail _ hm) d1 d2 fun x l n tl h' tk' ok ec el al F' N' => ?_
    subst ec
    exact hret x l n tl h' tk' ok el al.1 al.2 (hoff _ hm) (.inl hlo) F' N'
end
local macro_rules | `(tactic| walk_at "exec Assign cons ListComp") => `(tactic| (k_here; refine Held.out ?_))
local macro_rules | `(tactic| walk_at "eval ListComp") => `(tactic| (k_here; refine Held.out ?_))
local macro_rules | `(tactic| walk_at "CompSrc") => `(tactic| (k_here; refine Held.out ?_))
local macro_rules | `(tactic| walk_at "call builtin:sum") => `(tactic| (k_here; refine Held.out ?_))
local macro_rules | `(tactic| walk_at "binaryOp Add ref ref") => `(tactic| (k_here; refine Held.out ?_))
local macro_rules | `(tactic| walk_at "compareOp Eq ref ref") => `(tactic| (k_here; refine Held.out ?_))
local macro_rules | `(tactic| walk_at "call ref") => `(tactic| (k_here; (with_reducible show wpAny _ _ (call (Value.ref 185) [Value.str _ _]) _ _ _); refine Held.out ?_))
section
variable {w : World} {p : Program} {loose : List Str} {mean : ExcName → Option Value} {mg mb : Str → Option Value} {dp un : Nat} {gd : Option (List Code)} {cn : Str} {cs : Scope} {a : Addr} {ccd : Value} {cl : List (Str × Addr)} {outer : List Env} {A₀ : Around} {base h₀ : Heap} {L : Addr} {m : Str → Option Value} {news : List (Addr × Obj)} {s : Shared} {Q E : Value → Shared → Prop}
theorem reads_spec {x : Str} {t : Tok} {tab : Array Value} {WL lo : Nat} {wl : List (Str × Tok)} {nw : Nat}
    (B : Below A₀ base outer h₀) (F : Fr h₀ L s.heap m) (X : (hd.heap_39 w.params).In h₀) (N : News h₀ L s.heap ((180, tabObj tab) :: news)) (T : Top p loose mean mg mb h₀) (hk : cs.kind = .function) (C : CodeHd base 184 180)
    (hd : dp + 80 < recursionLimit) (hu : un + 1600 < cLine) (hlen : x.length ≤ 100000) (hoff : ∀ q ∈ news, q.1 ≠ 180) (ht : TabOk tab news lo)
    (hw : (WL, listOf (strValues wl).toArray nw) ∈ news) (hwl : wl.length ≤ 100) (hws : lsum (wl.map (·.1)) ≤ 100000) (hok : ∀ y ∈ wl.map (·.1), PyData.strOk y = true) (hok2 : ∀ y ∈ (tokN (wl.length + 2) (signs x) 1).1, PyData.strOk y = true)
    (hret : ∀ c oc vs tq h' tk', c ≠ 180 → oc.data = .fields vs → vs[1]? = some (.str lamQ tq) → Fr h₀ L h' m → News h₀ L h' ((180, tabObj #[rawInt 181, rawInt 18, .ref c]) :: (c, oc) :: news) → Q (.bool (readsOf x (wl.map (·.1)))) { s with heap := h', toks := tk' }) :
    wpAny (model pw w) (ktrTop dp un gd cn cs L a ccd cl outer) (call (.ref 216) [.str x t, .ref WL]) Q E s := by
  refine wpAny_call ?_
  k_dflt (refine' code_defC ?k1 ?k2 ?k3 ?k4 ?k5 ?kA ?kF ?kK ?k6 ?k7 ?k8 ?k9 ?kB ?kD ?_ ?c2 ?c3 ?c4; (case kA => exact rfl); (case kF => exact rfl); (case kK => assumption); (case k1 => k_asm); (case k2 => k_asm); (case k3 => k_asm); (case k4 => k_asm); (case k5 => k_asm); (case k6 => k_is); (case k7 => k_is); (case k8 => ktr_room); (case k9 => exact BindsTo.of_eq rfl); (case kB => exact rfl); (case kD => decide +kernel); (case c2 => exact rfl); (case c3 => exact rfl); (case c4 => exact rfl); k_whole; intro g' L' h' tk' cells' FG' F' N' Y' B' X' T' l1; (try k_lt l1); k_cells Y'; (try simp only [List.cons_append, List.nil_append] at N'); (try dsimp only); (try k_fold))
  rename_i o9 d9
  have d8 : o9.data = Data.cell none := d9.trans (by kernel_rfl)
  replace F' := fr_cast F' (m' := fun y => if y = Str.ofString "words" then some (.ref WL) else if y = Str.ofString "path" then some (.str x t) else none) (fun y => by kernel_rfl)
  clear d9
  have hoff2 : ∀ q ∈ (L' + 1, o9) :: news, q.1 ≠ 180 := fun q hq => by
    rcases List.mem_cons.mp hq with rfl | hq
    · exact Nat.ne_of_gt (Nat.lt_succ_of_lt l1.1)
    · exact hoff q hq
  have ht2 : TabOk tab ((L' + 1, o9) :: news) L' := by
    rcases ht with e | ⟨c, oc, vs, tq, e, hm, _, r⟩
    · exact .inl e
    · exact .inr ⟨c, oc, vs, tq, e, .tail _ hm, lt_of_all l1.2 _ hm, r⟩
  k_steps
  refine Held.mk ?_
  have N2 : News g' L' h' ((180, tabObj tab) :: (L' + 1, o9) :: news) := news_sub N' (fun q hq => by
    simp only [List.mem_cons] at hq ⊢
    rcases hq with h | h | h <;> simp [h])
  clear N'
  k_dflt (refine' lexer_any (news := (L' + 1, o9) :: news) (tab := tab) ?k1 ?k2 ?k3 N2 ?k5 ?kK ?kC ?kd ?ku hlen hoff2 ht2 ?_; (case k1 => k_asm); (case k2 => k_asm); (case k3 => k_asm); (case k5 => k_asm); (case kK => exact rfl); (case kC => first | assumption | kn_code); (case kd => ktr_room); (case ku => ktr_units); k_whole)
  intro x9 l9 n9 tl9 h9 tk9 ok el h180 hal hc180 hcc F9 N9
  clear F' N2
  simp only [lexLed, List.cons_append, List.nil_append] at N9
  simp only [AllLt] at hal
  obtain ⟨hal1, hal2⟩ := hal
  have hcl := ok.cel_dl
  have o1 := ok.o1
  have o2 := ok.o2
  have o3 := ok.o3
  have o4 := ok.o4
  have o5 := ok.o5
  have o6 := ok.o6
  have o7 := ok.o7
  have o8 := ok.o8
  have hcl1 : x9.c ≠ L' + 1 := by rcases hcc with h | h <;> omega
  k_steps
  refine Held.mk ?_
  rename_i h10 o10 F10 N10 d10
  (try clear F9); (try clear N9); clear d8 hcc
  k_dflt (refine LCg.Assign_ListComp_U (F₀ := by k_asm) (by rfl) (by with_unfolding_all rfl) (by with_unfolding_all rfl) (by decide) (by rfl) (by decide) (by rfl) (by rfl) (by rfl) ?_)
  k_steps
  refine Held.mk ?_
  rename_i h11 tk11 t1 u1 v1 hr9 F11 N11 hk11
  (try clear F10); (try clear N10); (try clear hk11)
  have gl9 := goodL_signs el (by omega)
  have hR0 : (tokN (wl.length + 2) (l9.map (·.1)) 1) = tokN (wl.length + 2) (signs x) 1 := by rw [el]
  have hsg : ∀ q ∈ (180, tabObj #[rawInt 181, rawInt 18, .ref x9.c]) :: (L' + 1, o10) :: news, q.1 < x9.cel := fun q hq => by
    rcases List.mem_cons.mp hq with rfl | hq
    · exact h180
    rcases List.mem_cons.mp hq with rfl | hq
    · exact hal1
    · exact lt_of_all hal2 q hq
  k_dflt (refine LCg.CompSrc.range (n := wl.length + 2) (news := lexLed w x9 1 tl9 l9 n9 ++ ((180, tabObj #[rawInt 181, rawInt 18, .ref x9.c]) :: (L' + 1, o10) :: news)) rfl F11 N11 hr9 ?hsm ?hn ?hsz (fun g => compRest_of (n := wl.length + 2) (fun i ys nw => ∃ k l ln tl n, ys = strValues k ∧ nw = lexLed w x9 ln tl l n ++ ((180, tabObj #[rawInt 181, rawInt 18, .ref x9.c]) :: (L' + 1, o10) :: news) ∧ GoodL l ∧ k.map (·.1) ++ (tokN (wl.length + 2 - i) (l.map (·.1)) ln).1 = (tokN (wl.length + 2) (signs x) 1).1 ∧ (tokN (wl.length + 2 - i) (l.map (·.1)) ln).2 = (tokN (wl.length + 2) (signs x) 1).2 ∧ k.length ≤ i) ?turn ?fin (wl.length + 2) 0 [] _ (by omega) ⟨[], l9, 1, tl9, n9, rfl, rfl, gl9, by rw [← hR0]; rfl, by rw [← hR0]; rfl, Nat.le_refl _⟩))
  case hsm => exact small_one (by omega) (by omega) (by omega) (by omega)
  case hn => rw [rangeSize_one]; split <;> omega
  case hsz => rw [sizeLine_eq]; omega
  case turn =>
    rintro i v ys nw I oI C oC D m₂ h tk3 E' hi ⟨k, l, ln, tl, n, rfl, rfl, gl, hp1, hp2, hkl⟩ hP hoC hm F3 N3 off ne
    have hoff3 := off.mem
    have hx1 := hoff3 (x9.sg, listOf (strValues l).toArray n) (List.mem_append_left _ (by unfold lexLed; simp))
    have hx2 := hoff3 (x9.dl, lexD w x9 ln tl) (List.mem_append_left _ (by unfold lexLed; simp))
    have key : ∀ z : Addr, x9.cel < z → (z ≠ I ∧ z ≠ C ∧ z ≠ D) → ∀ q ∈ (I, oI) :: (C, oC) :: (D, LCg.lst (strValues k)) :: ((180, tabObj #[rawInt 181, rawInt 18, .ref x9.c]) :: (L' + 1, o10) :: news), q.1 ≠ z := fun z hz hd q hq => by
      rcases List.mem_cons.mp hq with rfl | hq
      · exact Ne.symm hd.1
      rcases List.mem_cons.mp hq with rfl | hq
      · exact Ne.symm hd.2.1
      rcases List.mem_cons.mp hq with rfl | hq
      · exact Ne.symm hd.2.2
      · exact Nat.ne_of_lt (Nat.lt_trans (hsg q hq) hz)
    have hs3 := key x9.sg o1 hx1
    have hl3 := key x9.dl hcl hx2
    clear key hx1 hx2 hoff3
    replace N3 := news_sub N3 ledger_in
    simp only [lexLed, List.cons_append, List.nil_append] at N3
    (try clear N11); (try clear F11)
    have e1 : wl.length + 2 - i = (wl.length + 2 - (i + 1)) + 1 := by omega
    rw [e1] at hp1 hp2
    have st := tokN_step hp1 hp2
    k_steps
    rename_i t5 tl5 n5 h5 tk5 F5 N5
    exact LCg.CompEnd.intro F5 N5 (lexLed w x9 (tokrun l ln).2.2 tl5 (tokrun l ln).2.1 n5 ++ ((180, tabObj #[rawInt 181, rawInt 18, .ref x9.c]) :: (L' + 1, o10) :: news)) ledger_out (off3_lex off) trivial ⟨k ++ [((tokrun l ln).1, t5)], (tokrun l ln).2.1, _, _, _, (strValues_snoc k ((tokrun l ln).1, t5)).symm, rfl, tokrun_good l ln gl, by rw [List.map_append]; exact st.1, st.2, by simp only [List.length_append, List.length_cons, List.length_nil]; omega⟩
  case fin =>
    rintro ys nw ⟨k, l, ln, tl, n, rfl, rfl, gl, hp1, hp2, hkl⟩ D h tk F3 N3 off
    try dsimp only
    have hk1 : k.map (·.1) = (tokN (wl.length + 2) (signs x) 1).1 := by rw [Nat.sub_self, show (tokN 0 (l.map (·.1)) ln).1 = [] from rfl, List.append_nil] at hp1; exact hp1
    have hk2 : (l.map (·.1), ln) = (tokN (wl.length + 2) (signs x) 1).2 := by rw [Nat.sub_self] at hp2; exact hp2
    clear hp1 hp2 N11
    have N3f := N3
    simp only [lexLed, List.cons_append, List.nil_append] at N3
    k_steps
    refine Held.mk ?_
    k_dflt (refine LCg.ListComp_U (F₀ := by k_asm) (by with_unfolding_all rfl) (by decide) (by rfl) (by decide) (by rfl) ?_)
    k_steps
    refine Held.mk ?_
    have hw2 : (WL, listOf (strValues wl).toArray nw) ∈ (D, LCg.lst (strValues k)) :: (lexLed w x9 ln tl l n ++ ((180, tabObj #[rawInt 181, rawInt 18, .ref x9.c]) :: (L' + 1, o10) :: news)) := .tail _ (List.mem_append_right _ (.tail _ (.tail _ hw)))
    have hsz2 : (strValues wl).toArray.size = wl.length := by simp [strValues]
    k_dflt (refine LCg.CompSrc.ledger (ax := WL) (its := (strValues wl).toArray) (k := nw) (news := (D, LCg.lst (strValues k)) :: (lexLed w x9 ln tl l n ++ ((180, tabObj #[rawInt 181, rawInt 18, .ref x9.c]) :: (L' + 1, o10) :: news))) rfl (by k_asm) N3f hw2 ?hsz (fun g => compRest_of (n := (strValues wl).toArray.size) (fun i ys nw2 => nw2 = (D, LCg.lst (strValues k)) :: (lexLed w x9 ln tl l n ++ ((180, tabObj #[rawInt 181, rawInt 18, .ref x9.c]) :: (L' + 1, o10) :: news)) ∧ IntsAre ys (((wl.map (·.1)).map fun y => Txt.count y (Str.ofString "\n")).take i)) ?turn ?fin _ 0 [] _ (Nat.zero_add _) ⟨rfl, .nil⟩))
    case hsz => rw [sizeLine_eq]; omega
    case turn =>
      rintro i v ys nw2 I oI C oC D2 m₂ h2 tk2 E' hi ⟨rfl, hI⟩ hP hoC hm F4 N4 off4 ne4
      obtain ⟨c, tc, rfl, hc⟩ := strValues_get hP
      clear N3 N3f F3
      k_steps
      exact LCg.CompEnd.intro F4 N4 _ (fun p hp => hp) off4 (.inr ⟨_, hw2, rfl, _, rfl⟩) ⟨rfl, ints_snoc hI (by rw [List.getElem?_map, List.getElem?_map, hc]; rfl)⟩
    case fin =>
      rintro ys nw2 ⟨rfl, hI⟩ D2 h2 tk2 F4 N4 off4
      clear N3 N3f F3
      try dsimp only
      simp only [lexLed, List.cons_append, List.nil_append] at N4
      k_steps
      refine Held.mk ?_
      rw [List.take_of_length_le (by rw [hsz2, List.length_map, List.length_map]; exact Nat.le_refl _)] at hI
      k_dflt (refine sumK rfl (by k_asm) (by k_asm) ⟨_, News.get (by k_asm) (.head _), rfl, _, rfl⟩ hI ?_)
      intro h3 tk3 t3 F5 N5
      have hcs := counts_le (Str.ofString "\n") (wl.map (·.1))
      rw [List.length_map] at hcs
      obtain ⟨hc1, hc2⟩ := hcs
      generalize hSM : ((wl.map (·.1)).map fun y => Txt.count y (Str.ofString "\n")).sum = SM at hc1 hc2 ⊢
      have hSMs : SM ≤ 100100 := by omega
      clear hI hc1 off4
      k_steps
      refine Held.mk ?_
      k_dflt (refine cat_strs (k := wl) (l := [(Str.ofString "", _), (Str.ofString "", _)]) (n := nw) (n2 := 0) (by k_asm) (by k_asm) ?ha (.head _) ?hz ?_)
      case ha => repeat (first | exact hw | refine .tail _ ?_)
      case hz => show wl.length + 2 ≤ 100000; omega
      intro D5 h5 F6 N6 l6
      k_steps
      refine Held.mk ?_
      have hb := hk1
      generalize hbb : decide ((tokN (wl.length + 2) (signs x) 1).1 = wl.map (·.1) ++ [Str.ofString "", Str.ofString ""]) = bb
      k_dflt (refine eq_strs (k := k) (l := wl ++ [(Str.ofString "", _), (Str.ofString "", _)]) (n := (strValues k).length) (n2 := 0) (by k_asm) ?ha (.head _) ?hu ?hk ?hl ?_)
      case ha => repeat (first | exact .head _ | refine .tail _ ?_)
      case hu => ktr_units
      case hk => rw [hk1]; exact hok2
      case hl =>
        intro y hy
        rw [List.map_append] at hy
        rcases List.mem_append.mp hy with hy | hy
        · exact hok y hy
        · simp only [List.map_cons, List.map_nil, List.mem_cons, List.not_mem_nil, or_false, or_self] at hy
          rw [hy]; decide +kernel
      rw [hk1, List.map_append]
      have e9 : ∀ t1 t2 : Tok, decide ((tokN (wl.length + 2) (signs x) 1).1 = wl.map (fun q : Str × Tok => q.1) ++ List.map (fun q : Str × Tok => q.1) [(Str.ofString "", t1), (Str.ofString "", t2)]) = bb := fun _ _ => hbb
      rw [e9]
      clear e9
      obtain ⟨vs9, tq9, dd1, dd2⟩ := ok.oc
      k_steps
      · have e : readsOf x (wl.map (·.1)) = (ln == 1 + SM) := by
          rw [readsOf_yes (b := bb) (by rw [List.length_map]; exact hbb) (by assumption), List.length_map, ← hk2, hSM]; rfl
        rw [e] at hret
        refine hret x9.c x9.oc vs9 tq9 _ _ hc180 dd1 dd2 (by k_asm) (news_sub (by k_asm) fun q hq => ?_)
        rcases List.mem_cons.mp hq with rfl | hq
        · repeat (first | exact .head _ | refine .tail _ ?_)
        rcases List.mem_cons.mp hq with rfl | hq
        · repeat (first | exact .head _ | refine .tail _ ?_)
        · repeat (first | exact hq | refine .tail _ ?_)
      · have e : readsOf x (wl.map (·.1)) = bb := by
          rw [readsOf_no (b := bb) (by rw [List.length_map]; exact hbb) (by assumption)]; exact Eq.symm (by assumption)
        rw [e] at hret
        refine hret x9.c x9.oc vs9 tq9 _ _ hc180 dd1 dd2 (by k_asm) (news_sub (by k_asm) fun q hq => ?_)
        rcases List.mem_cons.mp hq with rfl | hq
        · repeat (first | exact .head _ | refine .tail _ ?_)
        rcases List.mem_cons.mp hq with rfl | hq
        · repeat (first | exact .head _ | refine .tail _ ?_)
        · repeat (first | exact hq | refine .tail _ ?_)
end

end S_P23_0
section S_P24_0
theorem lk1 {a : Str} {v : Value} (y : Str) : List.lookup y [(a, v)] = if y = a then some v else none := by
  by_cases e : y = a
  · subst e; simp [List.lookup]
  · simp only [e, if_false, List.lookup, beq_eq_false_iff_ne.mpr e]
def Pc.obj (q : Pc) : Obj := tupObj #[.str q.k q.kt, .str q.w q.wt, .str q.u q.ut]
section
variable {prog : Program} {w : World} {A : Around} {E : Value → Shared → Prop} {s : Shared} {h₀ : Heap} {L : Addr} {m : Str → Option Value} {news : List (Addr × Obj)}
theorem pyIter_range_K {r : Addr} {a b : Int} {t u v : Tok} {n : Nat} {Q : Value → Shared → Prop} (F : Fr h₀ L s.heap m) (N : News h₀ L s.heap news) (hr : IsRange s.heap r a b 1 t u v) (hsm : Builtin.Range.small a b 1 = true) (hn : Builtin.Range.rangeSize a b 1 = ((n : Nat) : Int))
    (h : ∀ I oi h', (∀ q ∈ news, q.1 < I) → Fr h₀ L h' m → News h₀ L h' ((I, oi) :: news) → IsRangeIter h' I a n 1 → Q (.ref I) { s with heap := h' }) :
    wpAny (model prog w) A (pyIter (.ref r)) Q E s :=
  wpAny_pyIter_range hr hsm (h _ _ _ (fun q hq => Heap.lt_size (N q hq).1) (F.push _) (N.push F _) (by rw [hn]; exact Heap.get?_push_size _ rfl))
theorem for_range {R : Result → Shared → Prop} {target : Expr} {body : List Stmt} {env : Env} {I : Nat} {a : Int} {n : Nat} {oi : Obj}
    (hh : A.handled = none) (hL : env.locals = L) (F : Fr h₀ L s.heap m) (N : News h₀ L s.heap ((I, oi) :: news)) (hst : IsRangeIter s.heap I a n 1)
    (J : (Str → Option Value) → Nat → (Str → Option Value) → List (Addr × Obj) → Prop)
    (hoff : ∀ i m' news', J m i m' news' → ∀ q ∈ news', q.1 ≠ I)
    (h0 : J m 0 m news)
    (turn : ∀ i v h tk oI m₁ news₁, i < n → (∃ t, v = .int (a + (i : Int)) t) → J m i m₁ news₁ → Fr h₀ L h m₁ → News h₀ L h ((I, oI) :: news₁) →
      wpAny (model prog w) A (assign target env v) (fun _ s₂ => wpAny (model prog w) A (execs body env) (fun f s₃ => match f with
        | .next | .cont => LoopEnd (∃ h' tk', s₃ = { s with heap := h', toks := tk' } ∧ ∃ m₂ news₂, Fr h₀ L h' m₂ ∧ News h₀ L h' ((I, oI) :: news₂) ∧ J m (i + 1) m₂ news₂)
        | .ret v => R (.ok (.ret v)) s₃
        | .brk => R (.ok .next) s₃) (fun _ _ => False) s₂) (fun _ _ => False) { s with heap := h, toks := tk })
    (done : ∀ h tk m₁ news₁, J m n m₁ news₁ → Fr h₀ L h m₁ → News h₀ L h news₁ → R (.ok .next) { s with heap := h, toks := tk })
    (ht : ∀ v, letOwnedTupleGo target (.ref I) v = pure () := by intro _; rfl) :
    codeAny (model prog w) A (.forLoop target (.ref I) body [] env) R s :=
  for_walk (LCg.range_walks hh a n) (fun _ _ st => ⟨_, st⟩) hL F N (by show IsRangeIter _ _ _ _ _; simpa using hst) J (fun b hb => .inl (List.mem_singleton.mp hb)) hoff h0 turn done ht
theorem len_refs {PL n : Nat} {ps : List Pc} {Q : Value → Shared → Prop} (N : News h₀ L s.heap news) (hm : (PL, listOf (pcRefs ps).toArray n) ∈ news) (hz : ps.length ≤ 100000) (h : Q (.int (ps.length : Int) (s.toks + 1)) { s with toks := s.toks + 1 + 1 }) :
    wpAny (model prog w) A (call (.builtin "len") [.ref PL]) Q E s := by
  have e : ((pcRefs ps).toArray.size : Int) = (ps.length : Int) := by rw [List.size_toArray, pcRefs_len]
  exact call_len_list ⟨_, N.get hm, rfl, n, rfl⟩ (by rw [e]; omega) (by rw [e]; exact h)
theorem cut_any {M : Model} {α : Type} {c : Sem α} {Q : α → Shared → Prop} {h : Heap} {g : Array GenState} {d : Drawn} {t : Nat} {o : OsState} (k : ∀ t, wpAny M A c Q E (Shared.mk h g d t o)) : wpAny M A c Q E (Shared.mk h g d t o) := k _
theorem item_ref {value slice : Expr} {PL n : Nat} {ps : List Pc} {q : Pc} {k : Nat} {u : Tok} {Q : Value → Shared → Prop} (N : News h₀ L s.heap news) (hm : (PL, listOf (pcRefs ps).toArray n) ∈ news) (hk : k ≤ 1000) (hq : ps[k]? = some q) (h : Q (.ref q.a) s)
    (hs : subscripted slice false (.ref PL) (.int (k : Int) u) = operate [.ref PL, .int (k : Int) u] (getItem (.ref PL) (.int (k : Int) u))) (hg : ∀ r, letTemporaryGo value (.ref PL) r = pure ()) :
    wpAny (model prog w) A (subscriptTail value slice (.ref PL) (.int (k : Int) u)) Q E s :=
  subscriptTail_builtin (T := "list") ⟨_, N.get hm, rfl⟩ slot_list_getitem.lookup (wpAny_getItem_list ⟨_, N.get hm, rfl, n, rfl⟩ (by omega) (by omega) (by simp [pcRefs, hq]) h) hs hg
end
local macro_rules | `(tactic| walk_at "call builtin:len") => `(tactic| (k_here; refine Held.out ?_))
local macro_rules | `(tactic| walk_at "exec For") => `(tactic| (k_here; refine Held.out ?_))
local macro_rules | `(tactic| walk_at "exec For Name Call cons nil") => `(tactic| (k_here; refine Held.out ?_))
local macro_rules | `(tactic| walk_at "pyIter ref") => `(tactic| (k_here; refine Held.out ?_))
local macro_rules | `(tactic| walk_at "subscriptTail") => `(tactic| (k_here; refine Held.out ?_))
section
variable {w : World} {p : Program} {loose : List Str} {mean : ExcName → Option Value} {mg mb : Str → Option Value} {dp un : Nat} {gd : Option (List Code)} {cn : Str} {cs : Scope} {a : Addr} {ccd : Value} {cl : List (Str × Addr)} {outer : List Env} {A₀ : Around} {base h₀ : Heap} {L : Addr} {m : Str → Option Value} {news : List (Addr × Obj)} {s : Shared} {Q E : Value → Shared → Prop}
theorem behind_spec {ps : List Pc} {PL n : Nat}
    (B : Below A₀ base outer h₀) (F : Fr h₀ L s.heap m) (X : (hd.heap_39 w.params).In h₀) (N : News h₀ L s.heap news) (T : Top p loose mean mg mb h₀) (hk : cs.kind = .function)
    (hd : dp + 40 < recursionLimit) (hu : un + 400 < cLine) (hp : (PL, listOf (pcRefs ps).toArray n) ∈ news) (hps : ∀ q ∈ ps, (q.a, q.obj) ∈ news) (hl : ps.length ≤ 20)
    (hret : ∀ D BL nb t h' tk', (∀ q ∈ news, q.1 < D) → (BL = PL ∨ ∀ q ∈ news, q.1 < BL) → @LT.lt Nat _ BL D → Fr h₀ L h' m → News h₀ L h' ((D, tupObj #[.str (lastRoot (pcVal ps) ps.length).2 t, .ref BL]) :: (BL, listOf (pcRefs (ps.drop (lastRoot (pcVal ps) ps.length).1)).toArray nb) :: news) → Q (.ref D) { s with heap := h', toks := tk' }) :
    wpAny (model pw w) (ktrTop dp un gd cn cs L a ccd cl outer) (call (.ref 204) [.ref PL]) Q E s := by
  refine wpAny_call ?_
  k_dflt ktr_enter
  rename_i g1 L1 h1 FG1 F1 N1 B1 X1 T1
  replace F1 := fr_cast F1 (m' := fun y => if y = Str.ofString "pieces" then some (.ref PL) else none) (fun y => by show List.lookup y [(Str.ofString "pieces", Value.ref PL)] = _; exact lk1 y)
  refine cut_any ?_
  intro tk0
  k_steps
  refine Held.mk ?_
  refine wpAny_For ?_ (by intro _; rfl)
  k_steps
  refine Held.mk ?_
  k_dflt (refine len_refs (by k_asm) hp (by omega) ?_)
  k_steps
  refine Held.mk ?_
  rename_i h2a h2 F2 N2 h3 tk3 t1 u1 v1 hr F3 N3 hk3
  clear F2 N2 hk3
  try dsimp only at F3
  k_dflt (refine pyIter_range_K (n := ps.length) F3 N3 hr (small_one (by omega) (by omega) (by omega) (by omega)) (by rw [rangeSize_one]; split <;> omega) ?_)
  intro I oi h4 ltI F4 N4 hit
  have hPI : @LT.lt Nat _ PL I := ltI _ hp
  clear F3 N3 hr
  refine' for_range (n := ps.length) (a := 0) (oi := oi) (news := (PL, listOf (pcRefs (ps.drop 0)).toArray n) :: news) ?hh ?hL F4 ?hsub ?hit (fun m0 i m' news' => (∀ y, y ≠ Str.ofString "root" → y ≠ Str.ofString "behind" → y ≠ Str.ofString "i" → m' y = m0 y) ∧ ∃ rt BL nb, m' (Str.ofString "root") = some (.str (lastRoot (pcVal ps) i).2 rt) ∧ m' (Str.ofString "behind") = some (.ref BL) ∧ (BL = PL ∨ ∀ q ∈ news, q.1 < BL) ∧ (@Ne Nat BL I) ∧ news' = (BL, listOf (pcRefs (ps.drop (lastRoot (pcVal ps) i).1)).toArray nb) :: news) ?hoff ?h0 ?turn ?done ?ht
  case hh => rfl
  case hL => rfl
  case ht => intro _; rfl
  case hit => exact hit
  case hsub =>
    refine news_sub N4 fun q hq => ?_
    rcases List.mem_cons.mp hq with rfl | hq
    · exact .head _
    rcases List.mem_cons.mp hq with rfl | hq
    · exact .tail _ hp
    · exact .tail _ hq
  case hoff =>
    rintro i m' news' ⟨_, rt, BL, nb, _, _, _, hne, rfl⟩ q hq
    rcases List.mem_cons.mp hq with rfl | hq
    · exact hne
    · exact Nat.ne_of_lt (ltI q hq)
  case h0 => exact ⟨fun _ _ _ _ => rfl, tk0, PL, n, rfl, rfl, .inl rfl, Nat.ne_of_lt hPI, rfl⟩
  case turn =>
    rintro i v h9 tk9 oI m1 news1 hi ⟨ti, rfl⟩ ⟨hm, rt, BL, nb, hr1, hb1, hbl, hbI, rfl⟩ F5 N5
    replace F5 := fr_cast F5 (m' := fun y => if y = Str.ofString "i" then m1 (Str.ofString "i") else if y = Str.ofString "root" then some (.str (lastRoot (pcVal ps) i).2 rt) else if y = Str.ofString "behind" then some (.ref BL) else if y = Str.ofString "pieces" then some (.ref PL) else none) (fun y => by
      by_cases e1 : y = Str.ofString "i"
      · rw [if_pos e1, e1]
      by_cases e2 : y = Str.ofString "root"
      · rw [if_neg e1, if_pos e2, e2, hr1]
      by_cases e3 : y = Str.ofString "behind"
      · rw [if_neg e1, if_neg e2, if_pos e3, e3, hb1]
      rw [hm y e2 e3 e1]
      simp only [e1, e2, e3, if_false])
    generalize m1 (Str.ofString "i") = iv at F5
    clear hm hr1 hb1 F4 N4 hit
    rw [Int.zero_add]
    obtain ⟨q, hq⟩ : ∃ q, ps[i]? = some q := ⟨_, List.getElem?_eq_getElem hi⟩
    have hqm := hps q (List.mem_of_getElem? hq)
    have hqv := pcVal_get hq
    k_steps
    refine Held.mk ?_
    k_dflt (refine item_ref (ps := ps) (q := q) (n := n) (by k_asm) (.tail _ (.tail _ hp)) (by omega) hq ?_ (by with_unfolding_all rfl) (by intro _; with_unfolding_all rfl))
    k_steps
    refine Held.mk ?_
    k_dflt (refine item_tupleT (l := [.str q.k q.kt, .str q.w q.wt, .str q.u q.ut]) (j := 0) (x := .str q.k q.kt) ⟨_, News.get (by k_asm) (.tail _ (.tail _ hqm)), rfl, _, rfl⟩ (by decide) (by decide) rfl rfl ?_ (by with_unfolding_all rfl))
    k_steps
    · refine Held.mk ?_
      have hk := ‹(q.k == Str.ofString "root") = true›
      k_dflt (refine item_ref (ps := ps) (q := q) (n := n) (by k_asm) (.tail _ (.tail _ hp)) (by omega) hq ?_ (by with_unfolding_all rfl) (by intro _; with_unfolding_all rfl))
      k_steps
      refine Held.mk ?_
      k_dflt (refine item_tupleT (l := [.str q.k q.kt, .str q.w q.wt, .str q.u q.ut]) (j := 1) (x := .str q.w q.wt) ⟨_, News.get (by k_asm) (.tail _ (.tail _ hqm)), rfl, _, rfl⟩ (by decide) (by decide) rfl rfl ?_ (by with_unfolding_all rfl))
      k_steps
      refine Held.mk ?_
      k_dflt (refine' kmk_slice_lit (its := (pcRefs ps).toArray) (zs := pcRefs (ps.drop (i + 1))) (lo := some ((i : Int) + 1)) ?F ?N ?hl (.int _ _) .none ?e ?h ?hs ?ht ?hz)
      case F => k_asm
      case N => k_asm
      case hl => exact ⟨_, News.get (by k_asm) (.tail _ (.tail _ hp)), rfl, n, rfl⟩
      case hs => with_unfolding_all rfl
      case ht => intro _; with_unfolding_all rfl
      case e => rw [← pcRefs_drop]; exact pick_from (pcRefs ps) (i + 1) (by rw [pcRefs_len]; exact hi)
      case hz => rw [List.size_toArray, pcRefs_len, sizeLine_eq]; omega
      intro D5 h5 F6 N6 l6
      k_steps
      try dsimp only
      have e9 := lastRoot_yes hqv hk
      refine ⟨_, _, rfl, _, (D5, listOf (pcRefs (ps.drop (lastRoot (pcVal ps) (i + 1)).1)).toArray 0) :: news, by k_asm, ?_, ⟨fun y h1 h2 h3 => by simp only [h1, h2, h3, if_false], q.wt, D5, 0, ?_, rfl, .inr fun q hq => l6 q (.tail _ (.tail _ hq)), Nat.ne_of_gt (l6 _ (.head _)), rfl⟩⟩
      · rw [e9]
        refine news_sub (by k_asm) fun q hq => ?_
        rcases List.mem_cons.mp hq with rfl | hq
        · exact .tail _ (.head _)
        rcases List.mem_cons.mp hq with rfl | hq
        · exact .head _
        · exact .tail _ (.tail _ (.tail _ hq))
      · rw [e9]; rfl
    · have hk := ‹(q.k == Str.ofString "root") = false›
      try dsimp only
      have e9 := lastRoot_no hqv hk
      refine ⟨_, _, rfl, _, (BL, listOf (pcRefs (ps.drop (lastRoot (pcVal ps) (i + 1)).1)).toArray nb) :: news, by k_asm, ?_, ⟨fun y h1 h2 h3 => by simp only [h1, h2, h3, if_false], rt, BL, nb, ?_, rfl, hbl, hbI, rfl⟩⟩
      · rw [e9]; k_asm
      · rw [e9]; rfl
  case done =>
    rintro h9 tk9 m1 news1 ⟨hm, rt, BL, nb, hr1, hb1, hbl, hbI, rfl⟩ F5 N5
    replace F5 := fr_cast F5 (m' := fun y => if y = Str.ofString "i" then m1 (Str.ofString "i") else if y = Str.ofString "root" then some (.str (lastRoot (pcVal ps) ps.length).2 rt) else if y = Str.ofString "behind" then some (.ref BL) else if y = Str.ofString "pieces" then some (.ref PL) else none) (fun y => by
      by_cases e1 : y = Str.ofString "i"
      · rw [if_pos e1, e1]
      by_cases e2 : y = Str.ofString "root"
      · rw [if_neg e1, if_pos e2, e2, hr1]
      by_cases e3 : y = Str.ofString "behind"
      · rw [if_neg e1, if_neg e2, if_pos e3, e3, hb1]
      rw [hm y e2 e3 e1]
      simp only [e1, e2, e3, if_false])
    generalize m1 (Str.ofString "i") = iv at F5
    clear hm hr1 hb1 F4 N4 hit
    try dsimp only
    k_steps
    exact hret _ BL nb _ _ _ (by first | assumption | exact lt_of_all (And.right (by assumption))) hbl (by first | assumption | exact And.left (by assumption)) (by k_asm) (by k_asm)
end

end S_P24_0
section S_P25_0
section
variable {prog : Program} {w : World} {A : Around} {E : Value → Shared → Prop} {s : Shared} {h₀ : Heap} {L : Addr} {m : Str → Option Value} {news : List (Addr × Obj)}
theorem asg3 {env : Env} {a b c : Str} {pa pb pc tp : Pos} {kk : Nat} {T : Addr} {x y z : Value} {m : Str → Option Value} {Q : Unit → Shared → Prop} (hh : A.handled = none) (ht : s.heap.IsTuple T #[x, y, z])
    (ha : env.kindOf a = some .local) (hb : env.kindOf b = some .local) (hc : env.kindOf c = some .local) (hp : (env.scope.kind == .class || (env.scope.kind == .module && env.locals != env.globals)) = false) (hn : s.heap.Ns env.locals m)
    (h : ∀ (h' : Heap) (tk : Nat), h'.Ns env.locals (fun v => if v = c then some z else if v = b then some y else if v = a then some x else m v) → (∀ c o, c ≠ env.locals → s.heap.get? c = some o → h'.get? c = some o) → Q () { s with heap := h', toks := tk }) :
    wpAny (model prog w) A (assign (.Tuple [.Name a pa, .Name b pb, .Name c pc] kk tp) env (.ref T)) Q E s := by
  refine wpAny_assign_Tuple hh ht rfl rfl fun h₁ he₁ => ?_
  have hL : env.locals ≠ s.heap.objs.size := Nat.ne_of_lt hn.lt
  have hn₁ : h₁.Ns env.locals m := hn.at' fun o e => he₁ _ o hL e
  have up₁ : ∀ c o, s.heap.get? c = some o → h₁.get? c = some o := fun c o e => he₁ c o (Nat.ne_of_lt (Heap.lt_size e)) e
  show wpAny _ _ (assignInOrder [assign (.Name a pa) env, assign (.Name b pb) env, assign (.Name c pc) env] [x, y, z]) _ _ _
  refine assignInOrder_cons ?_
  refine wpAny_assign_Name (wpAny_storeName_local ha hn₁ (fun h₂ hn₂ hs₂ => ?_) hp)
  refine assignInOrder_cons ?_
  refine wpAny_assign_Name (wpAny_storeName_local hb hn₂ (fun h₃ hn₃ hs₃ => ?_) hp)
  refine assignInOrder_cons ?_
  refine wpAny_assign_Name (wpAny_storeName_local hc hn₃ (fun h₄ hn₄ hs₄ => ?_) hp)
  refine assignInOrder_nil ?_
  exact h h₄ _ hn₄ fun c o hc e => hs₄.extBut c o hc (hs₃.extBut c o hc (hs₂.extBut c o hc (up₁ c o e)))
/-- the end of a turn of a comprehension that keeps the ledger -/
def TurnEnd (h₀ : Heap) (L : Addr) (m : Str → Option Value) (s : Shared) (all : List (Addr × Obj)) (R : Value → Prop) (y : Value) (s' : Shared) : Prop :=
  ∃ h' tk', s' = { s with heap := h', toks := tk' } ∧ Fr h₀ L h' m ∧ News h₀ L h' all ∧ R y
/-- a row of tuples: their places, their objects -/
def refsOf' {α : Type} (adr : α → Nat) (ps : List α) : List Value := ps.map fun q => .ref (adr q)
theorem refsOf_len {α : Type} (adr : α → Nat) (ps : List α) : (refsOf' adr ps).length = ps.length := by unfold refsOf'; rw [List.length_map]
theorem refsOf_get {α : Type} {adr : α → Nat} {ps : List α} {i : Nat} {v : Value} (h : (refsOf' adr ps).toArray[i]? = some v) : ∃ q, v = .ref (adr q) ∧ ps[i]? = some q := by
  simp only [List.getElem?_toArray, refsOf', List.getElem?_map, Option.map_eq_some_iff] at h
  obtain ⟨q, h1, h2⟩ := h
  exact ⟨q, h2.symm, h1⟩
section
variable {α : Type} {adr : α → Nat} {obj : α → Obj} {bnd : α → (Str → Option Value) → Str → Option Value} {elts : List Expr} {tp : Pos} {kk : Nat} {elt iter : Expr} {ifs : List Expr} {scope : Scope} {cl : List (Str × Addr)} {pos : Pos} {env : Env} {PL n : Nat} {ps : List α} {Q : Value → Shared → Prop}
theorem compTR {RR : Value → Addr → Result → Shared → Prop}
    (hh : A.handled = none) (F : Fr h₀ L s.heap m) (N : News h₀ L s.heap news) (hm : (PL, listOf (refsOf' adr ps).toArray n) ∈ news) (hps : ∀ q ∈ ps, (adr q, obj q) ∈ news) (hl : ps.length ≤ 1000)
    (hcell : ∀ y ∈ scope.names, y.2 ≠ .cell) (hkind : scope.kind = .function)
    (hasg : ∀ q C m' (s' : Shared) (Q' : Unit → Shared → Prop), s'.heap.get? (adr q) = some (obj q) → s'.heap.Ns C m' → (∀ h' tk, h'.Ns C (bnd q m') → (∀ c o, c ≠ C → s'.heap.get? c = some o → h'.get? c = some o) → Q' () { s' with heap := h', toks := tk }) →
      wpAny (model prog w) A (assign (.Tuple elts kk tp) (compEnvC scope cl C env) (.ref (adr q))) Q' (fun _ _ => False) s')
    (R : Nat → List Value → Prop) (h0 : R 0 [])
    (turn : ∀ (i : Nat) (q : α) (ys : List Value) (I : Nat) (oI : Obj) (C : Nat) (oC : Obj) (D : Nat) (m₁ : Str → Option Value) (h : Heap) (tk : Nat), ps[i]? = some q → R i ys → LCg.NsObj oC (bnd q m₁) → Fr h₀ L h m → News h₀ L h ((I, oI) :: (C, oC) :: (D, LCg.lst ys) :: news) →
      wpAny (model prog w) A (forIn ifs true fun c r => if r = true then do let ok ← isTrue c (compEnvC scope cl C env) (eval c (compEnvC scope cl C env)); pure (ForInStep.yield ok) else pure (ForInStep.yield r)) (fun ok s₃ =>
        if ok = true then wpAny (model prog w) A (eval elt (compEnvC scope cl C env)) (TurnEnd h₀ L m { s with heap := h, toks := tk } ((I, oI) :: (C, oC) :: (D, LCg.lst ys) :: news) (fun y => R (i + 1) (ys ++ [y]))) (fun _ _ => False) s₃
        else TurnEnd h₀ L m { s with heap := h, toks := tk } ((I, oI) :: (C, oC) :: (D, LCg.lst ys) :: news) (fun _ => R (i + 1) ys) .none s₃) (fun _ _ => False) { s with heap := h, toks := tk })
    (hRR : ∀ D C h tk m' ys, R ps.length ys → Fr h₀ L h m → News h₀ L h ((D, LCg.lst ys) :: news) → h.Ns C m' → h₀.get? C = none → C ≠ L → D ≠ C → (∀ p ∈ news, p.1 ≠ C) → LCg.Off1 D news → RR (.ref D) C (.ok .next) { s with heap := h, toks := tk }) :
    wpAny (model prog w) A (pyIter (.ref PL)) (fun it s₂ => wpAny (model prog w) A (newList []) (fun acc s₃ => wpAny (model prog w) A (newFunctionEnv scope env.globals cl [] env.qual none .none (some env)) (fun cenv s₄ =>
      codeAny (model prog w) A (.compStart (.ListComp elt [⟨.Tuple elts kk tp, iter, ifs, 0⟩] scope pos) 0 it acc { cenv with scope := relabel scope env }) (RR acc cenv.locals) s₄) E s₃) E s₂) E s := by
  refine pyIter_list_K F N hm fun I h' ltI F' N' => ?_
  have hP : ∀ {i : Nat} {v : Value}, (refsOf' adr ps).toArray[i]? = some v → ∃ q, v = .ref (adr q) ∧ ps[i]? = some q := fun e => refsOf_get e
  have hsz : (refsOf' adr ps).toArray.size = ps.length := by rw [List.size_toArray, refsOf_len]
  have hIl : h'.IsListIter I PL 0 := ⟨_, (N' _ (.head _)).1, rfl, rfl⟩
  refine comp_blockR (I := I) (n := (refsOf' adr ps).toArray.size) (news := news) (fun i v m' => match ps[i]? with
      | some q => bnd q m'
      | none => m') (fun i ys nw => nw = news ∧ R i ys) (Walks.list hh I PL (Nat.ne_of_lt (ltI _ hm)) (refsOf' adr ps).toArray) (by rw [hsz, sizeLine_eq]; omega) (fun i h st => let ⟨o, ho, _⟩ := st.1; ⟨o, ho⟩)
    ?_ ?_ ?_ hcell hkind ⟨hIl, _, (N' _ (.tail _ hm)).1, rfl, n, rfl⟩ ?_ F' (fun q hq => N' q (.tail _ hq)) (Ne.symm (N' _ (.head _)).2.1) (N' _ (.head _)).2.2 (fun q hq => Nat.ne_of_lt (ltI q hq)) ⟨rfl, h0⟩ ?_ ?_
  · rintro i j h h2 o ys nw ⟨st1, st2⟩ e e' _ N2 ⟨rfl, _⟩
    obtain ⟨o', ho, r⟩ := st1
    rw [e] at ho; cases ho
    exact ⟨⟨o, e', r⟩, ⟨_, (N2 _ hm).1, rfl, n, rfl⟩⟩
  · intro i v s' Q' hv st hq
    obtain ⟨q, rfl, _⟩ := hP hv
    exact wpAny_letOwnedTupleGo_listiter st.1 hq
  · rintro i v ys nw C m' s' Q' hv ⟨rfl, _⟩ N2 hn hq
    obtain ⟨q, rfl, hq1⟩ := hP hv
    refine hasg q C m' s' Q' (N2 _ (hps q (List.mem_of_getElem? hq1))).1 hn fun h2 tk hn2 hk2 => ?_
    refine hq h2 tk ?_ hk2
    rw [hq1]
    exact hn2
  · intro b hb
    rcases List.mem_cons.mp hb with rfl | hb
    · exact Heap.lt_size (N' _ (.head _)).1
    · rw [List.mem_singleton.mp hb]; exact Heap.lt_size (N' _ (.tail _ hm)).1
  · rintro i v ys nw oI C oC D m₁ h tk hi hv ⟨rfl, hR⟩ hoC F3 N3 off ne
    obtain ⟨q, rfl, hq1⟩ := hP hv
    rw [hq1] at hoC
    refine wpAny_mono (turn i q ys I oI C oC D m₁ h tk hq1 hR hoC F3 N3) (fun ok s₃ h₃ => ?_) fun _ _ e => e
    cases ok with
    | true =>
      rw [if_pos rfl] at h₃ ⊢
      refine wpAny_mono h₃ (fun y s₄ h₄ => ?_) fun _ _ e => e
      obtain ⟨h4, tk4, rfl, F4, N4, hR4⟩ := h₄
      exact LCg.CompEnd.intro F4 N4 nw (fun p hp => hp) off trivial ⟨rfl, hR4⟩
    | false =>
      rw [if_neg Bool.false_ne_true] at h₃ ⊢
      obtain ⟨h4, tk4, rfl, F4, N4, hR4⟩ := h₃
      exact LCg.CompEnd.intro F4 N4 nw (fun p hp => hp) off trivial ⟨rfl, hR4⟩
  · rintro D C h tk m' ys nw ⟨rfl, hR⟩ F3 N3 off hn hC₀ hCL hDC offC
    rw [hsz] at hR
    exact hRR D C h tk m' ys hR F3 N3 hn hC₀ hCL hDC offC off
theorem fin_E {D C : Addr} {h : Heap} {tk : Nat} {m' : Str → Option Value} {news : List (Addr × Obj)} {oD : Obj} (F' : Fr h₀ L h m) (N' : News h₀ L h ((D, oD) :: news)) (hn : h.Ns C m') (hC₀ : h₀.get? C = none) (hCL : C ≠ L) (hDC : D ≠ C) (offC : ∀ p ∈ news, p.1 ≠ C)
    (fin : ∀ h, Fr h₀ L h m → News h₀ L h ((D, oD) :: news) → Q (.ref D) { s with heap := h, toks := tk }) : compPost (model prog w) A E none Q (.ref D) C (.ok .next) { s with heap := h, toks := tk } :=
  ⟨m', hn, fun h'' hs'' => fin h'' (F'.change hs'' hCL hC₀) (fun p hp => by
    refine ⟨hs''.extBut _ _ ?_ (N' p hp).1, (N' p hp).2⟩
    rcases List.mem_cons.mp hp with rfl | hp
    · exact hDC
    · exact offC p hp)⟩
theorem fin_A {y : Str} {py : Pos} {D C : Addr} {h : Heap} {tk : Nat} {m' : Str → Option Value} {news : List (Addr × Obj)} {oD : Obj} (hLe : env.locals = L) (hy : env.kindOf y = some .local) (hp : (env.scope.kind == .class || (env.scope.kind == .module && env.locals != env.globals)) = false)
    (F' : Fr h₀ L h m) (N' : News h₀ L h ((D, oD) :: news)) (hn : h.Ns C m') (hC₀ : h₀.get? C = none) (hCL : C ≠ L) (hDC : D ≠ C) (offC : ∀ p ∈ news, p.1 ≠ C)
    (fin : ∀ h tk, Fr h₀ L h (fun z => if z = y then some (.ref D) else m z) → News h₀ L h ((D, oD) :: news) → Q .none { s with heap := h, toks := tk }) : compPost (model prog w) A E (some (assign (.Name y py) env)) Q (.ref D) C (.ok .next) { s with heap := h, toks := tk } := by
  subst hLe
  show wpAny _ A (assign (.Name y py) env (.ref D)) _ _ _
  refine wpAny_assign_Name (wpAny_storeName_local hy F'.ns (fun h₂ hn₂ hs₂ => ?_) hp)
  have hL₀ : h₀.get? env.locals = none := Heap.get?_none_of_le F'.above
  have F₂ : Fr h₀ env.locals h₂ (fun z => if z = y then some (.ref D) else m z) := ⟨hn₂, fun b o e => hs₂.extBut b o (fun q => by rw [q, hL₀] at e; cases e) (F'.keep b o e), F'.above⟩
  refine ⟨m', hn.sameBut hs₂ hCL, fun h'' hs'' => fin h'' _ (F₂.change hs'' hCL hC₀) (fun p hp => ?_)⟩
  have z : h₂.get? p.1 = some p.2 := hs₂.extBut _ _ (N' p hp).2.1 (N' p hp).1
  refine ⟨hs''.extBut _ _ ?_ z, (N' p hp).2⟩
  rcases List.mem_cons.mp hp with rfl | hp
  · exact hDC
  · exact offC p hp
end
end

end S_P25_0
section S_P26_0
def Pr.obj (q : Pr) : Obj := tupObj #[.str q.w q.wt, .str q.u q.ut]
def prLed (ks : List Pr) : List (Addr × Obj) := ks.map fun q => (q.a, q.obj)
theorem flat_rep (d : Nat) (v : Value) : (List.replicate d [v]).flatten = List.replicate d v := by
  induction d with
  | zero => rfl
  | succ d ih => rw [List.replicate_succ, List.flatten_cons, ih, List.replicate_succ]; rfl
theorem lk2 {a b : Str} {v u : Value} (y : Str) : List.lookup y [(a, v), (b, u)] = if y = a then some v else if y = b then some u else none := by
  by_cases e : y = a
  · subst e; simp [List.lookup]
  · simp only [e, if_false, List.lookup, beq_eq_false_iff_ne.mpr e]
    by_cases e2 : y = b
    · subst e2; simp
    · simp only [e2, if_false, beq_eq_false_iff_ne.mpr e2]
section
variable {prog : Program} {w : World} {A : Around} {E : Value → Shared → Prop} {s : Shared} {h₀ : Heap} {L : Addr} {m : Str → Option Value} {news news' : List (Addr × Obj)}
theorem asgF3 {env : Env} {a b c : Str} {pa pb pc tp : Pos} {kk : Nat} {T : Addr} {x y z : Value} {Q : Unit → Shared → Prop} (hL : env.locals = L) (hh : A.handled = none) (F : Fr h₀ L s.heap m) (N : News h₀ L s.heap news) (ht : (T, tupObj #[x, y, z]) ∈ news)
    (ha : env.kindOf a = some .local) (hb : env.kindOf b = some .local) (hc : env.kindOf c = some .local) (hp : (env.scope.kind == .class || (env.scope.kind == .module && env.locals != env.globals)) = false)
    (h : ∀ (h' : Heap) (tk : Nat), Fr h₀ L h' (fun v => if v = c then some z else if v = b then some y else if v = a then some x else m v) → News h₀ L h' news → Q () { s with heap := h', toks := tk }) :
    wpAny (model prog w) A (assign (.Tuple [.Name a pa, .Name b pb, .Name c pc] kk tp) env (.ref T)) Q E s := by
  subst hL
  refine asg3 hh ⟨_, (N _ ht).1, rfl, _, rfl⟩ ha hb hc hp F.ns fun h' tk hn hk => h h' tk ?_ ?_
  · have hL₀ : h₀.get? env.locals = none := Heap.get?_none_of_le F.above
    exact ⟨hn, fun b o e => hk b o (fun q => by rw [q, hL₀] at e; cases e) (F.keep b o e), F.above⟩
  · exact fun p hp => ⟨hk _ _ (N p hp).2.1 (N p hp).1, (N p hp).2⟩
theorem insert0_ref {D n : Nat} {k : List Pr} {q : Pr} {u : Tok} {Q : Value → Shared → Prop}
    (F : Fr h₀ L s.heap m) (N : News h₀ L s.heap news) (U : Upd D (listOf (refsOf' Pr.a k).toArray n) (listOf (refsOf' Pr.a (q :: k)).toArray (n + 1)) news news') (hz : k.length ≤ 1000000)
    (h : ∀ h', Fr h₀ L h' m → News h₀ L h' news' → Q .none { s with heap := h' }) : wpAny (model prog w) A (call (.builtin "list.insert") [.ref D, .int 0 u, .ref q.a]) Q E s := by
  refine kl_insert (its := (refsOf' Pr.a k).toArray) (l := refsOf' Pr.a (q :: k)) F N (by decide) ?_ U ?_ h
  · unfold kl_ins; simp [refsOf']
  · rw [sizeLine_eq]; show (refsOf' Pr.a k).length ≤ _; rw [refsOf_len]; omega
theorem for_listT {α : Type} {adr : α → Nat} {ps : List α} {R : Result → Shared → Prop} {elts : List Expr} {kk : Nat} {tp : Pos} {body : List Stmt} {env : Env} {I D n : Nat}
    (hh : A.handled = none) (hL : env.locals = L)
    (F : Fr h₀ L s.heap m) (N : News h₀ L s.heap ((I, litObj D) :: news)) (hne : D ≠ I)
    (J : (Str → Option Value) → Nat → (Str → Option Value) → List (Addr × Obj) → Prop)
    (hD : ∀ i m' news', J m i m' news' → (D, listOf (refsOf' adr ps).toArray n) ∈ news')
    (hoff : ∀ i m' news', J m i m' news' → ∀ q ∈ news', q.1 ≠ I)
    (h0 : J m 0 m news)
    (turn : ∀ i q h tk oI m₁ news₁, ps[i]? = some q → J m i m₁ news₁ → Fr h₀ L h m₁ → News h₀ L h ((I, oI) :: news₁) →
      wpAny (model prog w) A (assign (.Tuple elts kk tp) env (.ref (adr q))) (fun _ s₂ => wpAny (model prog w) A (execs body env) (fun f s₃ => match f with
        | .next | .cont => LoopEnd (∃ h' tk', s₃ = { s with heap := h', toks := tk' } ∧ ∃ m₂ news₂, Fr h₀ L h' m₂ ∧ News h₀ L h' ((I, oI) :: news₂) ∧ J m (i + 1) m₂ news₂)
        | .ret v => R (.ok (.ret v)) s₃
        | .brk => R (.ok .next) s₃) (fun _ _ => False) s₂) (fun _ _ => False) { s with heap := h, toks := tk })
    (done : ∀ h tk m₁ news₁, J m ps.length m₁ news₁ → Fr h₀ L h m₁ → News h₀ L h news₁ → R (.ok .next) { s with heap := h, toks := tk }) :
    codeAny (model prog w) A (.forLoop (.Tuple elts kk tp) (.ref I) body [] env) R s := by
  have hsz : (refsOf' adr ps).toArray.size = ps.length := by rw [List.size_toArray, refsOf_len]
  refine for_walkG (Walks.list hh I D hne (refsOf' adr ps).toArray) (fun _ _ st => let ⟨o, ho, _⟩ := st.1; ⟨o, ho⟩) hL F N ⟨⟨_, (N _ (.head _)).1, rfl, rfl⟩, ⟨_, (N _ (.tail _ (hD _ _ _ h0))).1, rfl, n, rfl⟩⟩ J
    (fun b hb => by
      rcases List.mem_cons.mp hb with rfl | hb
      · exact .inl rfl
      · rw [List.mem_singleton.mp hb]; exact .inr ⟨_, hD⟩) hoff h0 (fun i v h tk oI m₁ news₁ _ hv hJ F' N' => ?_) (fun h tk m₁ news₁ hJ => done h tk m₁ news₁ (hsz ▸ hJ)) (fun i v s' Q' hv st hq => ?_)
  · obtain ⟨q, rfl, hq⟩ := refsOf_get hv
    exact turn i q h tk oI m₁ news₁ hq hJ F' N'
  · obtain ⟨q, rfl, _⟩ := refsOf_get hv
    exact wpAny_letOwnedTupleGo_listiter st.1 hq
end
local macro_rules | `(tactic| walk_at "exec For") => `(tactic| (k_here; refine Held.out ?_))
local macro_rules | `(tactic| walk_at "exec For Tuple Subscript cons nil") => `(tactic| (k_here; refine Held.out ?_))
local macro_rules | `(tactic| walk_at "pyIter ref") => `(tactic| (k_here; refine Held.out ?_))
local macro_rules | `(tactic| walk_at "subscriptTail") => `(tactic| (k_here; refine Held.out ?_))
local macro_rules | `(tactic| walk_at "call builtin:list.insert") => `(tactic| (k_here; refine Held.out ?_))
local macro_rules | `(tactic| walk_at "binaryOp Mult ref int") => `(tactic| (k_here; refine Held.out ?_))
local macro_rules | `(tactic| walk_at "binaryOp Add ref ref") => `(tactic| (k_here; refine Held.out ?_))
local macro_rules | `(tactic| walk_at "compareOp Eq ref ref") => `(tactic| (k_here; refine Held.out ?_))
section
variable {w : World} {p : Program} {loose : List Str} {mean : ExcName → Option Value} {mg mb : Str → Option Value} {dp un : Nat} {gd : Option (List Code)} {cn : Str} {cs : Scope} {a : Addr} {ccd : Value} {cl : List (Str × Addr)} {outer : List Env} {A₀ : Around} {base h₀ : Heap} {L : Addr} {m : Str → Option Value} {news : List (Addr × Obj)} {s : Shared} {Q E : Value → Shared → Prop}
theorem left_spec {root : Str} {t : Tok} {bs : List Pc} {BL n : Nat}
    (B : Below A₀ base outer h₀) (F : Fr h₀ L s.heap m) (X : (hd.heap_39 w.params).In h₀) (N : News h₀ L s.heap news) (T : Top p loose mean mg mb h₀) (hk : cs.kind = .function)
    (hd : dp + 40 < recursionLimit) (hu : un + 400 < cLine) (hp : (BL, listOf (refsOf' Pc.a bs).toArray n) ∈ news) (hps : ∀ q ∈ bs, (q.a, q.obj) ∈ news) (hl : bs.length ≤ 20)
    (hret : ∀ KL ks nk h' tk', prVal ks = leftOver root (pcVal bs) → (∀ r ∈ news, r.1 < KL) → (∀ q ∈ ks, ∀ r ∈ news, r.1 < q.a) → Fr h₀ L h' m → News h₀ L h' ((KL, listOf (refsOf' Pr.a ks).toArray nk) :: (prLed ks ++ news)) → Q (.ref KL) { s with heap := h', toks := tk' }) :
    wpAny (model pw w) (ktrTop dp un gd cn cs L a ccd cl outer) (call (.ref 211) [.str root t, .ref BL]) Q E s := by
  refine wpAny_call ?_
  k_dflt ktr_enter
  rename_i g1 L1 h1 FG1 F1 N1 B1 X1 T1
  replace F1 := fr_cast F1 (m' := fun y => if y = Str.ofString "root" then some (.str root t) else if y = Str.ofString "behind" then some (.ref BL) else none) (fun y => by show List.lookup y [(Str.ofString "behind", Value.ref BL), (Str.ofString "root", Value.str root t)] = _; exact (lk2 y).trans (by by_cases e : y = Str.ofString "behind"; (subst e; rfl); (simp only [e, if_false])))
  refine cut_any ?_
  intro tk0
  k_steps
  refine Held.mk ?_
  refine wpAny_For ?_ (by intro _; rfl)
  k_steps
  refine Held.mk ?_
  rename_i KL h2a ltK h2b h2 F2 N2
  try dsimp only at F2
  k_dflt (refine' krv_lit (its := (refsOf' Pc.a bs).toArray) (zs := refsOf' Pc.a bs.reverse) ?F ?N ?hl (.int _ _) ?e ?_ ?hs ?ht ?hz)
  case F => k_asm
  case N => k_asm
  case hl => exact ⟨_, News.get N2 (.tail _ hp), rfl, n, rfl⟩
  case e => show (refsOf' Pc.a bs).reverse = _; unfold refsOf'; rw [List.map_reverse]
  case hs => with_unfolding_all rfl
  case ht => intro _; with_unfolding_all rfl
  case hz => rw [List.size_toArray, refsOf_len, sizeLine_eq]; omega
  intro RL h3 F3 N3 ltR
  k_steps
  refine Held.mk ?_
  k_dflt (refine pyIter_list_K (D := RL) F3 N3 (.head _) ?_)
  intro I h4 ltI F4 N4
  have o1 : @LT.lt Nat _ KL RL := ltR _ (.head _)
  have o2 : @LT.lt Nat _ RL I := ltI _ (.head _)
  have o3 : ∀ r ∈ news, @LT.lt Nat _ r.1 KL := ltK
  clear F2 N2 F3 N3 ltR ltI h2a
  refine' for_listT (adr := Pc.a) (ps := bs.reverse) (n := 0) (D := RL) (news := (KL, listOf (refsOf' Pr.a []).toArray 0) :: (RL, listOf (refsOf' Pc.a bs.reverse).toArray 0) :: (prLed [] ++ news)) ?hh ?hL F4 ?N ?hne (fun m0 i m' news' => (∀ y, y ≠ Str.ofString "kind" → y ≠ Str.ofString "word" → y ≠ Str.ofString "written" → y ≠ Str.ofString "debt" → m' y = m0 y) ∧ ∃ d k nk td, m' (Str.ofString "debt") = some (.int ((d : Nat) : Int) td) ∧ (d, prVal k) = loAt (pcVal bs) i ∧ (∀ q ∈ k, @LT.lt Nat _ I q.a) ∧ news' = (KL, listOf (refsOf' Pr.a k).toArray nk) :: (RL, listOf (refsOf' Pc.a bs.reverse).toArray 0) :: (prLed k ++ news)) ?hD ?hoff ?h0 ?turn ?done
  case hh => rfl
  case hL => rfl
  case hne => exact Nat.ne_of_lt o2
  case N =>
    refine news_sub N4 fun q hq => ?_
    rcases List.mem_cons.mp hq with rfl | hq
    · exact .head _
    rcases List.mem_cons.mp hq with rfl | hq
    · exact .tail _ (.tail _ (.head _))
    rcases List.mem_cons.mp hq with rfl | hq
    · exact .tail _ (.head _)
    · exact .tail _ (.tail _ (.tail _ hq))
  case hD => rintro i m' news' ⟨_, d, k, nk, td, _, _, _, rfl⟩; exact .tail _ (.head _)
  case hoff =>
    rintro i m' news' ⟨_, d, k, nk, td, _, _, hk, rfl⟩ q hq
    rcases List.mem_cons.mp hq with rfl | hq
    · exact Nat.ne_of_lt (Nat.lt_trans o1 o2)
    rcases List.mem_cons.mp hq with rfl | hq
    · exact Nat.ne_of_lt o2
    rcases List.mem_append.mp hq with hq | hq
    · obtain ⟨z, hz, rfl⟩ := List.mem_map.mp hq
      exact Nat.ne_of_gt (hk z hz)
    · exact Nat.ne_of_lt (Nat.lt_trans (o3 q hq) (Nat.lt_trans o1 o2))
  case h0 => exact ⟨fun _ _ _ _ _ => rfl, 0, [], 0, tk, rfl, rfl, (fun _ h => nomatch h), rfl⟩
  case turn =>
    rintro i q h9 tk9 oI m1 news1 hq ⟨hm, d, k, nk, td, hdb, hlo, hk, rfl⟩ F5 N5
    replace F5 := fr_cast F5 (m' := fun y => if y = Str.ofString "kind" then m1 (Str.ofString "kind") else if y = Str.ofString "word" then m1 (Str.ofString "word") else if y = Str.ofString "written" then m1 (Str.ofString "written") else if y = Str.ofString "debt" then some (.int (d : Int) td) else if y = Str.ofString "kept" then some (.ref KL) else if y = Str.ofString "root" then some (.str root t) else if y = Str.ofString "behind" then some (.ref BL) else none) (fun y => by
      by_cases e1 : y = Str.ofString "kind"
      · rw [if_pos e1, e1]
      by_cases e2 : y = Str.ofString "word"
      · rw [if_neg e1, if_pos e2, e2]
      by_cases e3 : y = Str.ofString "written"
      · rw [if_neg e1, if_neg e2, if_pos e3, e3]
      by_cases e4 : y = Str.ofString "debt"
      · rw [if_neg e1, if_neg e2, if_neg e3, if_pos e4, e4, hdb]
      rw [hm y e1 e2 e3 e4]
      simp only [e1, e2, e3, e4, if_false])
    generalize m1 (Str.ofString "kind") = iv1 at F5
    generalize m1 (Str.ofString "word") = iv2 at F5
    generalize m1 (Str.ofString "written") = iv3 at F5
    clear hm hdb F4 N4
    have hqb : q ∈ bs := List.mem_reverse.mp (List.mem_of_getElem? hq)
    have hqm := hps q hqb
    have hil : i < bs.length := by have := (List.getElem?_eq_some_iff.mp hq).1; rwa [List.length_reverse] at this
    have hqv : (pcVal bs).reverse[i]? = some q.tri := by unfold pcVal; rw [← List.map_reverse, List.getElem?_map, hq]; rfl
    have hle := loAt_le (pcVal bs) i
    rw [← hlo] at hle
    have hd0 : d ≤ 20 := by have : d + (prVal k).length ≤ i := hle; omega
    have hsu := loAt_succ hqv
    rw [← hlo] at hsu
    clear hle
    refine asgF3 (by rfl) (by rfl) F5 N5 (.tail _ (.tail _ (.tail _ (List.mem_append_right _ hqm)))) (by rfl) (by rfl) (by rfl) (by rfl) ?_
    intro h6 tk6 F6 N6
    clear F5 N5
    have hdn : (0 : Int) ≤ (d : Int) := by omega
    have hdx : (d : Int) ≤ 20 := by omega
    have hall : ∀ x ∈ prLed k ++ news, x.1 ≠ KL := fun x hx => by
      rcases List.mem_append.mp hx with hx | hx
      · obtain ⟨z, hz, rfl⟩ := List.mem_map.mp hx
        exact Nat.ne_of_gt (Nat.lt_trans (Nat.lt_trans o1 o2) (hk z hz))
      · exact Nat.ne_of_lt (o3 x hx)
    k_steps
    · have c1 := ‹(q.k == Str.ofString "up") = true›
      try dsimp only
      exact ⟨_, _, rfl, _, _, by k_asm, by k_asm, ⟨fun y h1 h2 h3 h4 => by simp only [h1, h2, h3, h4, if_false], d + 1, k, nk, _, rfl, by rw [hsu]; exact (loStep_up (p := q.tri) (st := (d, prVal k)) c1).symm, hk, rfl⟩⟩
    · have c1 := ‹(q.k == Str.ofString "up") = false›
      have c2 := ‹(q.k == Str.ofString "name") = true›
      have hd1 : d ≠ 0 := by omega
      have e1 : (d : Int) - 1 = ((d - 1 : Nat) : Int) := by omega
      try dsimp only
      exact ⟨_, _, rfl, _, _, by k_asm, by k_asm, ⟨fun y h1 h2 h3 h4 => by simp only [h1, h2, h3, h4, if_false], d - 1, k, nk, _, congrArg (fun z => some (Value.int z _)) e1, by rw [hsu]; exact (loStep_pay (p := q.tri) c1 c2 hd1).symm, hk, rfl⟩⟩
    · refine Held.mk ?_
      have c1 := ‹(q.k == Str.ofString "up") = false›
      have c2 := ‹(q.k == Str.ofString "name") = true›
      have hd1 : d = 0 := by omega
      rename_i tka T6 h7 F7 N7 l7
      have o6 : @LT.lt Nat _ I T6 := l7.1
      k_dflt (refine' insert0_ref (D := KL) (n := nk) (k := k) (q := ⟨T6, q.w, q.wt, q.u, q.ut⟩) ?F ?N ?U ?z ?_)
      case F => exact F7
      case N => exact N7
      case U => k_upd
      case z => have : d + (prVal k).length ≤ i := by (have h := loAt_le (pcVal bs) i); rw [← hlo] at h; exact h
                have e : (prVal k).length = k.length := by unfold prVal; rw [List.length_map]
                omega
      intro h8 F8 N8
      have N9 := Held.mk N8
      k_steps
      try dsimp only
      refine ⟨_, _, rfl, _, (KL, listOf (refsOf' Pr.a (⟨T6, q.w, q.wt, q.u, q.ut⟩ :: k)).toArray (nk + 1)) :: (RL, listOf (refsOf' Pc.a bs.reverse).toArray 0) :: (prLed (⟨T6, q.w, q.wt, q.u, q.ut⟩ :: k) ++ news), by k_asm, news_sub (Held.out N9) (fun x hx => ?_), ⟨fun y h1 h2 h3 h4 => by simp only [h1, h2, h3, h4, if_false], d, ⟨T6, q.w, q.wt, q.u, q.ut⟩ :: k, nk + 1, _, rfl, by rw [hsu]; exact (loStep_keep (p := q.tri) c1 c2 hd1).symm, fun z hz => ?_, rfl⟩⟩
      · rcases List.mem_cons.mp hx with rfl | hx
        · exact .tail _ (.head _)
        rcases List.mem_cons.mp hx with rfl | hx
        · exact .tail _ (.tail _ (.head _))
        rcases List.mem_cons.mp hx with rfl | hx
        · exact .tail _ (.tail _ (.tail _ (.head _)))
        rcases List.mem_cons.mp hx with rfl | hx
        · exact .head _
        · exact .tail _ (.tail _ (.tail _ (.tail _ hx)))
      · rcases List.mem_cons.mp hz with rfl | hz
        · exact o6
        · exact hk z hz
    · have c1 := ‹(q.k == Str.ofString "up") = false›
      have c2 := ‹(q.k == Str.ofString "name") = false›
      try dsimp only
      exact ⟨_, _, rfl, _, _, by k_asm, by k_asm, ⟨fun y h1 h2 h3 h4 => by simp only [h1, h2, h3, h4, if_false], d, k, nk, _, rfl, by rw [hsu]; exact (loStep_still (p := q.tri) (st := (d, prVal k)) c1 c2).symm, hk, rfl⟩⟩
  case done =>
    rintro h9 tk9 m1 news1 ⟨hm, d, k, nk, td, hdb, hlo, hk, rfl⟩ F5 N5
    rw [List.length_reverse, loAt_all (pcVal bs) (by unfold pcVal; rw [List.length_map]; exact Nat.le_refl _)] at hlo
    replace F5 := fr_cast F5 (m' := fun y => if y = Str.ofString "kind" then m1 (Str.ofString "kind") else if y = Str.ofString "word" then m1 (Str.ofString "word") else if y = Str.ofString "written" then m1 (Str.ofString "written") else if y = Str.ofString "debt" then some (.int (d : Int) td) else if y = Str.ofString "kept" then some (.ref KL) else if y = Str.ofString "root" then some (.str root t) else if y = Str.ofString "behind" then some (.ref BL) else none) (fun y => by
      by_cases e1 : y = Str.ofString "kind"
      · rw [if_pos e1, e1]
      by_cases e2 : y = Str.ofString "word"
      · rw [if_neg e1, if_pos e2, e2]
      by_cases e3 : y = Str.ofString "written"
      · rw [if_neg e1, if_neg e2, if_pos e3, e3]
      by_cases e4 : y = Str.ofString "debt"
      · rw [if_neg e1, if_neg e2, if_neg e3, if_pos e4, e4, hdb]
      rw [hm y e1 e2 e3 e4]
      simp only [e1, e2, e3, e4, if_false])
    generalize m1 (Str.ofString "kind") = iv1 at F5
    generalize m1 (Str.ofString "word") = iv2 at F5
    generalize m1 (Str.ofString "written") = iv3 at F5
    clear hm hdb F4 N4
    have hle := loAt_le (pcVal bs) bs.length
    rw [loAt_all (pcVal bs) (by unfold pcVal; rw [List.length_map]; exact Nat.le_refl _), ← hlo] at hle
    have hd0 : d ≤ 20 := by have : d + (prVal k).length ≤ bs.length := hle; omega
    have hdn : (0 : Int) ≤ (d : Int) := by omega
    have hdx : (d : Int) ≤ 20 := by omega
    have hk0 : k.length ≤ 20 := by (have : d + (prVal k).length ≤ bs.length := hle); (have e : (prVal k).length = k.length := by unfold prVal; rw [List.length_map]); omega
    clear hle
    try dsimp only
    k_steps
    · refine Held.mk ?_
      rename_i hroot T0 h6a l6 L0 h6 F6 N6 l7
      obtain ⟨pT, hpT⟩ : ∃ pT : Pr, pT = ⟨T0, Str.ofString "..", tk, Str.ofString "..", tk + 1⟩ := ⟨_, rfl⟩
      have eT : Value.ref T0 = .ref pT.a := by rw [hpT]
      have oT : (T0, tupObj #[.str (Str.ofString "..") tk, .str (Str.ofString "..") (tk + 1)]) = (pT.a, pT.obj) := by rw [hpT]; rfl
      have eV : prVal (List.replicate d pT ++ k) = List.replicate (loRun (pcVal bs)).1 (Str.ofString "..", Str.ofString "..") ++ (loRun (pcVal bs)).2 := by
        rw [← hlo]; unfold prVal; rw [List.map_append, List.map_replicate, hpT]
      have lT : ∀ r ∈ news, @LT.lt Nat _ r.1 T0 := fun r hr => lt_of_all l6.2.2 r (List.mem_append_right _ hr)
      k_dflt (refine' KMa.mul (vs := [.ref T0]) (ws := List.replicate d (.ref T0)) F6 N6 ?hl ?lo ?hi ?z ?e ?_)
      case hl => exact ⟨_, News.get N6 (.head _), rfl, 0, rfl⟩
      case lo => omega
      case hi => omega
      case z => show 1 * (d : Int).toNat ≤ 256; omega
      case e => rw [Int.toNat_natCast]; exact flat_rep d _
      intro M0 h7 F7 N7 l8
      have N8 := Held.mk N7
      k_steps
      refine Held.mk ?_
      k_dflt (refine' kmk_add_lit (its := (List.replicate d (Value.ref T0)).toArray) (its2 := (refsOf' Pr.a k).toArray) (zs := refsOf' Pr.a (List.replicate d pT ++ k)) ?F (Held.out N8) ?ha ?hb ?e ?_ ?hz)
      case F => k_asm
      case ha => exact ⟨_, News.get (Held.out N8) (.head _), rfl, 0, rfl⟩
      case hb => exact ⟨_, News.get (Held.out N8) (.tail _ (.tail _ (.tail _ (.head _)))), rfl, nk, rfl⟩
      case e => unfold refsOf'; rw [List.map_append, List.map_replicate, ← eT]
      case hz => rw [sizeLine_eq]; show (List.replicate d _).length + (refsOf' Pr.a k).length ≤ _; rw [List.length_replicate, refsOf_len]; omega
      intro K5 h8 F8 N9 l9
      have N10 := Held.mk N9
      k_steps
      refine Held.mk ?_
      rename_i h8a E0 h9b F10 N11 l10
      have N12 := Held.mk N11
      by_cases hnil : List.replicate d pT ++ k = []
      · k_dflt (refine' SeqAt.eq_listAt (items := (refsOf' Pr.a (List.replicate d pT ++ k)).toArray) (items2 := #[]) (e := fun _ => true) ?ha ?hb ?hsz ?hu ?he ?_)
        case ha => exact ⟨_, News.get N11 (.tail _ (.head _)), rfl, 0, rfl⟩
        case hb => exact ⟨_, News.get N11 (.head _), rfl, 0, rfl⟩
        case hsz => rw [hnil]; rfl
        case hu => ktr_units
        case he => intro j h1; rw [hnil] at h1; exact absurd h1 (Nat.not_lt_zero _)
        rw [show ((List.range (refsOf' Pr.a (List.replicate d pT ++ k)).toArray.size).all fun _ => true) = true from by rw [hnil]; rfl]
        k_steps
        rename_i tkA DT hA lA LK hB lB hC FC NC kF kN kT kX
        refine hret LK [⟨DT, Str.ofString ".", tkA, Str.ofString ".", tkA + 1⟩] 0 _ _ ?_ (fun r hr => lt_of_all lB.2.2.2.2.2.2.2.2 r (List.mem_append_right _ hr)) (fun q hq r hr => ?_) kF (news_sub kN fun x hx => ?_)
        · rw [leftOver_none hroot (by rw [← eV, hnil]; rfl)]; rfl
        · rw [List.mem_singleton.mp hq]; exact lt_of_all lA.2.2.2.2.2.2.2 r (List.mem_append_right _ hr)
        · rcases List.mem_cons.mp hx with rfl | hx
          · exact .head _
          rcases List.mem_cons.mp hx with rfl | hx
          · exact .tail _ (.head _)
          · exact .tail _ (.tail _ (.tail _ (.tail _ (.tail _ (.tail _ (.tail _ (.tail _ (.tail _ (List.mem_append_right _ hx)))))))))
      · k_dflt (refine' SeqAt.eq_list_lengthsAt (items := (refsOf' Pr.a (List.replicate d pT ++ k)).toArray) (items2 := #[]) ?ha ?hb ?hsz ?hu ?_)
        case ha => exact ⟨_, News.get N11 (.tail _ (.head _)), rfl, 0, rfl⟩
        case hb => exact ⟨_, News.get N11 (.head _), rfl, 0, rfl⟩
        case hsz => rw [List.size_toArray, refsOf_len]; exact bne_iff_ne.mpr (fun e => hnil (List.length_eq_zero_iff.mp e))
        case hu => ktr_units
        k_steps
        refine hret K5 (List.replicate d pT ++ k) 0 _ _ (eV.trans (leftOver_some hroot ?_).symm) (fun r hr => l9 r ?_) (fun q hq r hr => ?_) (by k_asm) (news_sub (by k_asm) fun x hx => ?_)
        · rw [← eV]
          exact fun e => hnil (List.map_eq_nil_iff.mp e)
        · exact .tail _ (.tail _ (.tail _ (.tail _ (.tail _ (List.mem_append_right _ hr)))))
        · rcases List.mem_append.mp hq with hq | hq
          · rw [(List.mem_replicate.mp hq).2, hpT]; exact lT r hr
          · exact Nat.lt_trans (o3 r hr) (Nat.lt_trans (Nat.lt_trans o1 o2) (hk q hq))
        · rcases List.mem_cons.mp hx with rfl | hx
          · exact .tail _ (.head _)
          rcases List.mem_append.mp hx with hx | hx
          · obtain ⟨z, hz, rfl⟩ := List.mem_map.mp hx
            rcases List.mem_append.mp hz with hz | hz
            · rw [(List.mem_replicate.mp hz).2, ← oT]
              exact .tail _ (.tail _ (.tail _ (.tail _ (.head _))))
            · exact .tail _ (.tail _ (.tail _ (.tail _ (.tail _ (.tail _ (.tail _ (List.mem_append_left _ (List.mem_map_of_mem hz))))))))
          · exact .tail _ (.tail _ (.tail _ (.tail _ (.tail _ (.tail _ (.tail _ (List.mem_append_right _ hx)))))))
    · refine hret KL k nk _ _ ?_ o3 (fun q hq r hr => Nat.lt_trans (o3 r hr) (Nat.lt_trans (Nat.lt_trans o1 o2) (hk q hq))) (by k_asm) (news_sub (by k_asm) fun x hx => ?_)
      · rw [leftOver_root (by assumption), ← hlo]
      · rcases List.mem_cons.mp hx with rfl | hx
        · exact .head _
        · exact .tail _ (.tail _ hx)
end

end S_P26_0
section S_P27_0
def pcLed (ps : List Pc) : List (Addr × Obj) := ps.map fun q => (q.a, q.obj)
theorem pcLed_mem {q : Pc} {ps : List Pc} (h : q ∈ ps) : (q.a, q.obj) ∈ pcLed ps := List.mem_map_of_mem (f := fun q : Pc => (q.a, q.obj)) h
theorem prLed_mem {q : Pr} {ps : List Pr} (h : q ∈ ps) : (q.a, q.obj) ∈ prLed ps := List.mem_map_of_mem (f := fun q : Pr => (q.a, q.obj)) h
theorem rc_strs {A : Around} {s : Shared} {NL WL n n2 : Nat} {k wl : List (Str × Tok)} (hk : s.heap.get? NL = some (listOf (strValues k).toArray n)) (hw : s.heap.get? WL = some (listOf (strValues wl).toArray n2)) (e : k.map (·.1) = wl.map (·.1)) (hu : A.units < cLine) :
    SeqAt.RcAt A s (.ref NL) (.ref WL) true := by
  have hl : k.length = wl.length := by have h := congrArg List.length e; rwa [List.length_map, List.length_map] at h
  have z := SeqAt.RcAt.lists (A := A) (s := s) (items := (strValues k).toArray) (items2 := (strValues wl).toArray) (e := fun _ => true) ⟨_, hk, rfl, n, rfl⟩ ⟨_, hw, rfl, n2, rfl⟩ (by simp [strValues, hl]) hu (fun j h1 h2 => by
    have hj1 : j < k.length := by simpa [strValues] using h1
    have hj2 : j < wl.length := by simpa [strValues] using h2
    have e1 : (strValues k).toArray[j] = .str k[j].1 k[j].2 := by simp [strValues]
    have e2 : (strValues wl).toArray[j] = .str wl[j].1 wl[j].2 := by simp [strValues]
    have e3 : k[j].1 = wl[j].1 := by
      have h := congrArg (fun l : List Str => l[j]?) e
      simpa [hj1, hj2] using h
    rw [e1, e2, e3]
    exact fun prog w E Q hq => eqBool_str (by rw [beq_self_eq_true]; exact hq))
  rwa [show ((List.range (strValues k).toArray.size).all fun _ => true) = true by simp] at z
theorem told_ok {x : Str} {ws : List Str} (h : readsOf x ws = true) (hok : ∀ y ∈ ws, PyData.strOk y = true) : ∀ y ∈ (tokN (ws.length + 2) (signs x) 1).1, PyData.strOk y = true := by
  unfold readsOf at h
  have h1 := of_decide_eq_true (Bool.and_eq_true_iff.mp h).1
  intro y hy
  rw [h1] at hy
  rcases List.mem_append.mp hy with hy | hy
  · exact hok y hy
  · simp only [List.mem_cons, List.not_mem_nil, or_false, or_self] at hy
    rw [hy]; decide +kernel
/-- what the second reading asks: the words of the pieces that write something -/
def askW (ps : List Tri) : List Str := (ps.filter (fun p => ne p.2.2)).map (·.2.1)
theorem askW_yes {ps : List Tri} {p : Tri} {i : Nat} (h : ps[i]? = some p) (e : ne p.2.2 = true) : askW (ps.take (i + 1)) = askW (ps.take i) ++ [p.2.1] := by
  unfold askW
  rw [List.take_add_one, h, List.filter_append, List.map_append]
  show _ ++ List.map _ (List.filter _ [p]) = _
  rw [List.filter_cons_of_pos (p := fun p : Tri => ne p.2.2) e]; rfl
theorem askW_no {ps : List Tri} {p : Tri} {i : Nat} (h : ps[i]? = some p) (e : ne p.2.2 = false) : askW (ps.take (i + 1)) = askW (ps.take i) := by
  unfold askW
  rw [List.take_add_one, h, List.filter_append, List.map_append]
  show _ ++ List.map _ (List.filter _ [p]) = _
  rw [List.filter_cons_of_neg (p := fun p : Tri => ne p.2.2) (by rw [e]; exact Bool.false_ne_true)]; exact List.append_nil _
theorem leftOver_len (root : Str) (ps : List Tri) : (leftOver root ps).length ≤ ps.length + 1 := by
  have h := loAt_le ps ps.length
  rw [loAt_all ps (Nat.le_refl _)] at h
  unfold leftOver
  split
  · split
    · show 1 ≤ _; omega
    · rw [List.length_append, List.length_replicate]; omega
  · omega
theorem off1_mem {D : Addr} : ∀ {l : List (Addr × Obj)}, LCg.Off1 D l → ∀ p ∈ l, p.1 ≠ D
  | [], _, _, h => nomatch h
  | _ :: _, x, p, h => by
    rcases List.mem_cons.mp h with rfl | h
    · exact x.1
    · exact off1_mem x.2 p h
theorem assign_comp {prog : Program} {w : World} {A : Around} {E : Value → Shared → Prop} {s : Shared} {elt iter target : Expr} {ifs : List Expr} {y : Str} {py : Pos} {scope : Scope} {cl : List (Str × Addr)} {pos spos : Pos} {env : Env} {Q : Flow → Shared → Prop}
    (hsw : swapsWith (.ListComp elt [⟨target, iter, ifs, 0⟩] scope pos) (some (.Name y py)) spos.line env = pure true)
    (hclos : closureFor scope env = pure cl) (hkind : scope.kind = .function) (hnames : ∀ z ∈ scope.names, z.2 = .local → scope.names.lookup z.1 = some .local)
    (h : wpAny (model prog w) A (eval iter env) (fun x s₁ => wpAny (model prog w) A (pyIter x) (fun it s₂ => wpAny (model prog w) A (newList []) (fun acc s₃ =>
      wpAny (model prog w) A (newFunctionEnv scope env.globals cl [] env.qual none .none (some env)) (fun cenv s₄ =>
        codeAny (model prog w) A (.compStart (.ListComp elt [⟨target, iter, ifs, 0⟩] scope pos) 0 it acc { cenv with scope := relabel scope env }) (compPost (model prog w) A E (some (assign (.Name y py) env)) (fun _ s' => Q .next s') acc cenv.locals) s₄) E s₃) E s₂) E s₁) E s)
    (hs : ∀ x, foldedSetIterable iter env x = pure x := by intro _; rfl) :
    wpAny (model prog w) A (exec (.Assign [.Name y py] (.ListComp elt [⟨target, iter, ifs, 0⟩] scope pos) spos) env) Q E s := by
  rw [exec_Assign_Name_used _ _ _ _ hsw]
  refine wpAny_bind (wpAny_standAt (wpAny_bind ?_))
  show wpAny _ A (do let _ ← comprehension (.ListComp elt [⟨target, iter, ifs, 0⟩] scope pos) scope env _ (newList []) false (eval iter env) (some (assign (.Name y py) env))) _ _ s
  exact wpAny_bind (wpAny_mono (wpAny_comprehension_free (use := some (assign (.Name y py) env)) (Q := fun _ s' => Q .next s') rfl hs hclos hkind hnames h) (fun _ s' hq => wpAny_pure (wpAny_pure hq)) fun _ _ e => e)
theorem lsum_le10 : ∀ l : List Str, (∀ x ∈ l, x.length ≤ 10) → lsum l ≤ 10 * l.length
  | [], _ => Nat.le_refl _
  | a :: l, h => by
    have := lsum_le10 l (fun x hx => h x (.tail _ hx))
    have := h a (.head _)
    rw [lsum_cons, List.length_cons]; omega
local macro_rules | `(tactic| walk_at "exec Assign cons ListComp") => `(tactic| (k_here; refine Held.out ?_))
local macro_rules | `(tactic| walk_at "CompSrc") => `(tactic| (k_here; refine Held.out ?_))
local macro_rules | `(tactic| walk_at "call ref") => `(tactic| (k_here; (with_reducible show wpAny _ _ (call (Value.ref 197) [Value.int _ _]) _ _ _); refine Held.out ?_))
local macro_rules | `(tactic| walk_at "call ref") => `(tactic| (k_here; (first | (with_reducible show wpAny _ _ (call (Value.ref 115) _) _ _ _) | (with_reducible show wpAny _ _ (call (Value.ref 204) _) _ _ _) | (with_reducible show wpAny _ _ (call (Value.ref 211) _) _ _ _) | (with_reducible show wpAny _ _ (call (Value.ref 136) _) _ _ _) | (with_reducible show wpAny _ _ (call (Value.ref 216) _) _ _ _) | (with_reducible show wpAny _ _ (call (Value.ref 223) _) _ _ _)); refine Held.out ?_))
local macro_rules | `(tactic| walk_at "compareOp Eq ref ref") => `(tactic| (k_here; refine Held.out ?_))
local macro_rules | `(tactic| walk_at "eval ListComp") => `(tactic| (k_here; refine Held.out ?_))
theorem law_holds : PySem.Challenge.rw_pd0185_01.Holds := hd (by
  k_go0
  all_goals try k_fold
  rename_i hX0 hT0 hK0 hF0 hN0 l0
  k_dflt (refine cut_any ?_)
  intro tk0
  k_steps
  refine Held.mk ?_
  k_dflt (refine LCg.Assign_ListComp_U (F₀ := by k_asm) (by rfl) (by with_unfolding_all rfl) (by with_unfolding_all rfl) (by decide) (by rfl) (by decide) (by rfl) (by rfl) (by rfl) ?_)
  k_steps
  refine Held.mk ?_
  rename_i l1 h1 lt1 D1 ws1 h2 hI1 hC1 hL1 lt2 SD ws h3 F3 N3 hI lt3
  generalize hcells : ([22, 6, 2, 134] ++ List.take 14 _ : List Int) = cells at hI
  have hcl : cells.length ≤ 18 := by rw [← hcells, List.length_append, List.length_take]; show 4 + _ ≤ 18; omega
  have hne : cells ≠ [] := by rw [← hcells]; exact List.cons_ne_nil _ _
  have hwl : ws.length = cells.length := hI.length
  have l180 : @LT.lt Nat _ 180 SD := lt3.2.2
  clear hcells hI1 hC1 hL1 lt1 lt2
  k_dflt (refine LCg.CompSrc.ledger (ax := SD) (its := ws.toArray) (k := 0) (news := [(SD, listOf ws.toArray 0), (180, tabObj #[])]) rfl F3 ?hN (.head _) ?hsz (fun g => compRest_of (n := ws.toArray.size) (fun i ys nw => ∃ ps : List Pc, ys = refsOf' Pc.a ps ∧ pcVal ps = (cells.take i).map (fun x => pieceOf (x.fmod 256)) ∧ nw = pcLed ps ++ [(SD, listOf ws.toArray 0), (180, tabObj #[])] ∧ ∀ q ∈ ps, @LT.lt Nat _ 180 q.a) ?turn ?fin _ 0 [] _ (Nat.zero_add _) ⟨[], rfl, rfl, rfl, fun _ h => nomatch h⟩))
  case hN =>
    refine news_sub N3 fun q hq => ?_
    rcases List.mem_cons.mp hq with rfl | hq
    · exact .head _
    · exact .tail _ (.tail _ (.tail _ hq))
  case hsz => rw [List.size_toArray, sizeLine_eq]; omega
  case turn =>
    rintro i v ys nw I oI C oC D m₂ h tk E' hi ⟨ps, rfl, hpv, rfl, hpa⟩ hP hoC hm F4 N4 off ne
    obtain ⟨x, tx, rfl, hx⟩ := hI.at i v (by simpa using hP)
    have e256 := Int.fmod_eq_emod_of_nonneg x (b := 256) (by decide)
    k_steps
    refine Held.mk ?_
    k_dflt (refine' piece_spec (c := x.fmod 256) (by omega) (by omega) ?k1 ?k2 ?k3 ?k4 ?k5 ?kK ?kd ?ku ?_; (case k1 => k_asm); (case k2 => k_asm); (case k3 => k_asm); (case k4 => k_asm); (case k5 => k_asm); (case kK => exact rfl); (case kd => ktr_room); (case ku => ktr_units); k_whole)
    intro T6 t60 t61 t62 h6 tk6 lt6 F6 N6
    have hpv2 : pcVal (ps ++ [⟨T6, (pieceOf (x.fmod 256)).1, t60, (pieceOf (x.fmod 256)).2.1, t61, (pieceOf (x.fmod 256)).2.2, t62⟩]) = (cells.take (i + 1)).map (fun x => pieceOf (x.fmod 256)) := by
      rw [List.take_add_one, hx, List.map_append, ← hpv]; unfold pcVal; rw [List.map_append]; rfl
    have l6 : @LT.lt Nat _ 180 T6 := lt6 (180, tabObj #[]) (.tail _ (.tail _ (.tail _ (List.mem_append_right _ (.tail _ (.head _))))))
    refine LCg.CompEnd.intro F6 N6 (pcLed (ps ++ [⟨T6, (pieceOf (x.fmod 256)).1, t60, (pieceOf (x.fmod 256)).2.1, t61, (pieceOf (x.fmod 256)).2.2, t62⟩]) ++ [(SD, listOf ws.toArray 0), (180, tabObj #[])]) (fun q hq => ?_) (LCg.Off3.of fun q hq => ?_) (.inr ⟨_, List.mem_append_right _ (.head _), rfl, _, rfl⟩) ⟨_, ?_, hpv2, rfl, fun q hq => ?_⟩
    · rcases List.mem_cons.mp hq with rfl | hq
      · exact .tail _ (.head _)
      rcases List.mem_cons.mp hq with rfl | hq
      · exact .tail _ (.tail _ (.head _))
      rcases List.mem_cons.mp hq with rfl | hq
      · exact .tail _ (.tail _ (.tail _ (.head _)))
      rcases List.mem_append.mp hq with hq | hq
      · unfold pcLed at hq
        rw [List.map_append] at hq
        rcases List.mem_append.mp hq with hq | hq
        · exact .tail _ (.tail _ (.tail _ (.tail _ (List.mem_append_left _ hq))))
        · rw [List.mem_singleton.mp hq]; exact .head _
      · exact .tail _ (.tail _ (.tail _ (.tail _ (List.mem_append_right _ hq))))
    · have old := off.mem q
      rcases List.mem_append.mp hq with hq | hq
      · unfold pcLed at hq
        rw [List.map_append] at hq
        rcases List.mem_append.mp hq with hq | hq
        · exact old (List.mem_append_left _ hq)
        · rw [List.mem_singleton.mp hq]
          exact ⟨Nat.ne_of_gt (lt6 (I, oI) (.head _)), Nat.ne_of_gt (lt6 (C, oC) (.tail _ (.head _))), Nat.ne_of_gt (lt6 (D, _) (.tail _ (.tail _ (.head _))))⟩
      · exact old (List.mem_append_right _ hq)
    · unfold refsOf'; rw [List.map_append]; rfl
    · rcases List.mem_append.mp hq with hq | hq
      · exact hpa q hq
      · rw [List.mem_singleton.mp hq]; exact l6
  case fin =>
    rintro ys nw ⟨ps, rfl, hpv, rfl, hpa⟩ PL h5 tk5 F5 N5 off5
    rw [List.size_toArray, hwl, List.take_of_length_le (Nat.le_refl _)] at hpv
    clear F3 N3 hI
    try dsimp only
    k_steps
    refine Held.mk ?_
    rw [eval_ListComp]
    refine wpAny_comprehension_free (use := none) rfl (by intro _; rfl) (cl := []) (by with_unfolding_all rfl) (by rfl) (by decide) ?_
    k_dflt (show wpAny _ _ (eval (Expr.Name _ _) _) _ _ _)
    k_dflt walk1
    have hps : ∀ q ∈ ps, (q.a, q.obj) ∈ (PL, LCg.lst (refsOf' Pc.a ps)) :: (pcLed ps ++ [(SD, listOf ws.toArray 0), (180, tabObj #[])]) := fun q hq => .tail _ (List.mem_append_left _ (List.mem_map_of_mem hq))
    have hpl : ps.length ≤ 18 := by
      have e := congrArg List.length hpv
      unfold pcVal at e
      rw [List.length_map, List.length_map] at e; omega
    k_dflt (refine' compTR (adr := Pc.a) (obj := Pc.obj) (ps := ps) (n := (refsOf' Pc.a ps).length) (bnd := fun q m' z => if z = Str.ofString "written" then some (.str q.u q.ut) else if z = Str.ofString "word" then some (.str q.w q.wt) else if z = Str.ofString "kind" then some (.str q.k q.kt) else m' z) rfl ?F ?N (.head _) hps (by omega) (by decide) rfl ?hasg (fun i ys => ∃ l : List (Str × Tok), ys = strValues l ∧ l.map (·.1) = (ps.map Pc.u).take i) ⟨[], rfl, rfl⟩ ?turn ?hRR)
    case F => k_asm
    case N => k_asm
    case hasg =>
      intro q C m' s' Q' he hn hq
      exact asg3 (env := compEnvC _ [] C _) rfl ⟨_, he, rfl, _, rfl⟩ (lookup_relabel_local rfl) (lookup_relabel_local rfl) (lookup_relabel_local rfl) rfl hn hq
    case turn =>
      rintro i q ys I oI C oC D m₁ h tk hq ⟨l, rfl, hl⟩ hoC F6 N6
      refine wpAny_tests_nil ?_
      rw [if_pos rfl]
      have hmu : (fun z => if z = Str.ofString "written" then some (Value.str q.u q.ut) else if z = Str.ofString "word" then some (.str q.w q.wt) else if z = Str.ofString "kind" then some (.str q.k q.kt) else m₁ z) (Str.ofString "written") = some (.str q.u q.ut) := if_pos rfl
      generalize (fun z => if z = Str.ofString "written" then some (Value.str q.u q.ut) else if z = Str.ofString "word" then some (.str q.w q.wt) else if z = Str.ofString "kind" then some (.str q.k q.kt) else m₁ z) = m₂ at hoC hmu
      k_steps
      exact ⟨_, _, rfl, by k_asm, by k_asm, l ++ [(q.u, q.ut)], (strValues_snoc l (q.u, q.ut)).symm, by rw [List.map_append, hl, List.take_add_one, List.getElem?_map, hq]; rfl⟩
    case hRR =>
      rintro CL C h6 tk6 m6 ys ⟨l, rfl, hl⟩ F6 N6 hn6 hC6 hCL6 hDC6 hoC6 _
      rw [List.take_of_length_le (by rw [List.length_map]; exact Nat.le_refl _)] at hl
      refine fin_E F6 N6 hn6 hC6 hCL6 hDC6 hoC6 fun h7 F7 N7 => ?_
      clear F6 N6 hn6 hC6 hCL6 hDC6 hoC6
      try dsimp only
      have hok : ∀ p ∈ pcVal ps, PieceOk p := fun p hp => by
        rw [hpv] at hp
        obtain ⟨x, _, rfl⟩ := List.mem_map.mp hp
        exact piece_ok _
      have LP := law_plain (pcVal ps) hok
      have eu : l.map (·.1) = (pcVal ps).map (·.2.2) := by rw [hl]; unfold pcVal; rw [List.map_map]; rfl
      have hll : l.length = ps.length := by have e := congrArg List.length hl; rwa [List.length_map, List.length_map] at e
      have hsum : lsum (l.map (·.1)) ≤ 10 * (l.map (·.1)).length := lsum_le10 _ fun x hx => by
        rw [eu] at hx
        obtain ⟨p, hp, rfl⟩ := List.mem_map.mp hx
        exact (hok p hp).len.1
      rw [List.length_map] at hsum
      k_dflt (refine' star_seq (ws := strValues l) F7 N7 (.head _) rfl rfl (.inl rfl) ?eee ?zzz ?_)
      case eee => rfl
      case zzz => rw [List.size_toArray, strValues_length, sizeLine_eq]; omega
      intro h8 F8 N8
      obtain ⟨q0, r, rfl⟩ : ∃ q0 r, l = q0 :: r := by
        cases l with
        | nil =>
          exfalso
          have e := congrArg List.length hpv
          unfold pcVal at e
          rw [List.length_map, List.length_map] at e
          exact hne (List.length_eq_zero_iff.mp (by rw [← e, ← hll]; rfl))
        | cons q0 r => exact ⟨q0, r, rfl⟩
      refine ⟨fun b o e => F8.keep b o (hX0 b o e), ?_⟩
      clear F7 N7
      rw [List.map_cons, lsum_cons] at hsum
      rw [List.length_cons] at hsum hll
      rw [List.nil_append, strValues_cons]
      k_dflt (refine' join_spec (x := q0.1) (t := q0.2) (r := r) ?k1 ?k2 ?k3 ?k4 ?k5 ?kK ?kd ?ku (by omega) (by omega) (by omega) ?_; (case k1 => k_asm); (case k2 => k_asm); (case k3 => k_asm); (case k4 => k_asm); (case k5 => k_asm); (case kK => exact rfl); (case kd => ktr_room); (case ku => ktr_units); k_whole)
      intro tj h9 tk9 hjl F9 N9
      have eC : joinRun q0.1 (r.map (·.1)) = joinRun (Str.ofString "") ((pcVal ps).map (·.2.2)) := by rw [join_start, ← eu]; rfl
      rw [eC] at hjl ⊢
      generalize hCR : joinRun (Str.ofString "") ((pcVal ps).map (·.2.2)) = CR at hjl LP ⊢
      have hcrl : CR.length ≤ 300 := by omega
      clear eC hjl hsum eu F8 N8
      k_steps
      refine Held.mk ?_
      k_dflt (refine' behind_spec (ps := ps) (PL := PL) (n := (refsOf' Pc.a ps).length) ?k1 ?k2 ?k3 ?k4 ?k5 ?kK ?kd ?ku ?kp ?kq (by omega) ?_; (case k1 => k_asm); (case k2 => k_asm); (case k3 => k_asm); (case k4 => k_asm); (case k5 => k_asm); (case kK => exact rfl); (case kd => ktr_room); (case ku => ktr_units); (case kp => repeat (first | exact .head _ | refine .tail _ ?_)); (case kq => (intro q hq; repeat (first | exact List.mem_append_left _ (List.mem_map_of_mem hq) | refine .tail _ ?_))); k_whole)
      intro D1 BL nb tB h10 tk10 ltD hBL hlt F10 N10
      have elen : (pcVal ps).length = ps.length := by unfold pcVal; rw [List.length_map]
      rw [elen] at LP
      have hrl : (lastRoot (pcVal ps) ps.length).2.length ≤ 10 := by
        obtain ⟨n, e, _⟩ := root_inv (pcVal ps) hok ps.length (by rw [elen]; exact Nat.le_refl _)
        rw [e]; exact keptRoot_len n
      generalize hLR : lastRoot (pcVal ps) ps.length = LR at LP N10 hrl ⊢
      have ebs : (pcVal ps).drop LR.1 = pcVal (ps.drop LR.1) := by unfold pcVal; rw [List.map_drop]
      rw [ebs] at LP
      have hbsm : ∀ q ∈ ps.drop LR.1, q ∈ ps := fun q hq => List.mem_of_mem_drop hq
      have hbsl : (ps.drop LR.1).length ≤ 18 := by rw [List.length_drop]; omega
      change News _ _ _ (_ :: (BL, listOf (refsOf' Pc.a (ps.drop LR.1)).toArray nb) :: _) at N10
      generalize ps.drop LR.1 = bs at LP N10 hbsm hbsl ⊢
      clear ebs elen hLR
      k_steps
      refine Held.mk ?_
      rename_i hA hB h11 F11 N11
      have hB180 : BL ≠ 180 := by
        rcases hBL with h | h
        · rw [h]; exact Ne.symm (off1_mem off5 (180, tabObj #[]) (List.mem_append_right _ (.tail _ (.head _))))
        · exact Nat.ne_of_gt (h (180, tabObj #[]) (.tail _ (.tail _ (List.mem_append_right _ (.tail _ (.head _))))))
      have N12 := news_sub (news' := (180, tabObj #[]) :: (BL, listOf (refsOf' Pc.a bs).toArray nb) :: pcLed bs) N11 (fun q hq => by
        rcases List.mem_cons.mp hq with rfl | hq
        · exact .tail _ (.tail _ (.tail _ (.tail _ (List.mem_append_right _ (.tail _ (.head _))))))
        rcases List.mem_cons.mp hq with rfl | hq
        · exact .tail _ (.head _)
        · obtain ⟨z, hz, rfl⟩ := List.mem_map.mp hq
          exact .tail _ (.tail _ (.tail _ (.tail _ (List.mem_append_left _ (List.mem_map_of_mem (hbsm z hz)))))))
      have hpa2 : ∀ q ∈ bs, @LT.lt Nat _ 180 q.a := fun q hq => hpa q (hbsm q hq)
      clear N11 hBL hbsm hA hB off5 hpa hps ltD
      k_dflt (refine' left_spec (root := LR.2) (bs := bs) (BL := BL) (n := nb) ?k1 ?k2 ?k3 N12 ?k5 ?kK ?kd ?ku (.tail _ (.head _)) (fun q hq => .tail _ (.tail _ (pcLed_mem hq))) (by omega) ?_; (case k1 => k_asm); (case k2 => k_asm); (case k3 => k_asm); (case k5 => k_asm); (case kK => exact rfl); (case kd => ktr_room); (case ku => ktr_units); k_whole)
      intro KL ks nk h13 tk13 hks hKL hkq F13 N13
      have hksl : ks.length ≤ 19 := by
        have e := congrArg List.length hks
        have e2 := leftOver_len LR.2 (pcVal bs)
        unfold prVal pcVal at e
        unfold pcVal at e2
        rw [List.length_map] at e e2; omega
      rw [← hks] at LP
      have k180 : @LT.lt Nat _ 180 KL := hKL _ (.head _)
      have q180 : ∀ q ∈ ks, @LT.lt Nat _ 180 q.a := fun q hq => hkq q hq _ (.head _)
      clear F11 N12 hKL hkq hks
      replace N13 := news_sub (news' := (180, tabObj #[]) :: (KL, listOf (refsOf' Pr.a ks).toArray nk) :: (prLed ks ++ (BL, listOf (refsOf' Pc.a bs).toArray nb) :: pcLed bs)) N13 (fun q hq => by
        rcases List.mem_cons.mp hq with rfl | hq
        · exact .tail _ (List.mem_append_right _ (.head _))
        rcases List.mem_cons.mp hq with rfl | hq
        · exact .head _
        rcases List.mem_append.mp hq with hq | hq
        · exact .tail _ (List.mem_append_left _ hq)
        · exact .tail _ (List.mem_append_right _ (.tail _ hq)))
      k_steps
      refine Held.mk ?_
      rename_i h14 F14 N14
      k_dflt (refine assign_comp (cl := []) (by with_unfolding_all rfl) (by with_unfolding_all rfl) (by rfl) (by decide) ?_)
      k_dflt (show wpAny _ _ (eval (Expr.Name _ _) _) _ _ _)
      k_dflt walk1
      k_dflt (refine' compTR (adr := Pr.a) (obj := Pr.obj) (ps := ks) (n := nk) (PL := KL) (bnd := fun q m' z => if z = Str.ofString "written" then some (.str q.u q.ut) else if z = Str.ofString "word" then some (.str q.w q.wt) else m' z) rfl F14 N14 (.tail _ (.head _)) (fun q hq => .tail _ (.tail _ (List.mem_append_left _ (prLed_mem hq)))) (by omega) (by decide) rfl ?hasg (fun i ys => ∃ l : List (Str × Tok), ys = strValues l ∧ l.map (·.1) = (ks.map Pr.w).take i) ⟨[], rfl, rfl⟩ ?turn ?hRR)
      case hasg =>
        intro q C m' s' Q' he hn hq
        exact kcp_assign (env := compEnvC _ [] C _) rfl ⟨_, he, rfl, _, rfl⟩ (lookup_relabel_local rfl) (lookup_relabel_local rfl) rfl hn hq
      case turn =>
        rintro i q ys I oI C oC D m₁ h tk hq ⟨l, rfl, hl⟩ hoC F6 N6
        refine wpAny_tests_nil ?_
        rw [if_pos rfl]
        have hmu : (fun z => if z = Str.ofString "written" then some (Value.str q.u q.ut) else if z = Str.ofString "word" then some (.str q.w q.wt) else m₁ z) (Str.ofString "word") = some (.str q.w q.wt) := (if_neg (by decide +kernel)).trans (if_pos rfl)
        generalize (fun z => if z = Str.ofString "written" then some (Value.str q.u q.ut) else if z = Str.ofString "word" then some (.str q.w q.wt) else m₁ z) = m₂ at hoC hmu
        clear F14 N14
        k_steps
        exact ⟨_, _, rfl, by k_asm, by k_asm, l ++ [(q.w, q.wt)], (strValues_snoc l (q.w, q.wt)).symm, by rw [List.map_append, hl, List.take_add_one, List.getElem?_map, hq]; rfl⟩
      case hRR =>
        rintro WL C h6 tk6 m6 ys ⟨wl, rfl, hwl⟩ F6 N6 hn6 hC6 hCL6 hDC6 hoC6 hoD6
        rw [List.take_of_length_le (by rw [List.length_map]; exact Nat.le_refl _)] at hwl
        refine fin_A rfl rfl rfl F6 N6 hn6 hC6 hCL6 hDC6 hoC6 fun h15 tk15 F15 N15 => ?_
        clear F6 N6 hn6 hC6 hCL6 hDC6 F14 N14
        have hW180 : WL ≠ 180 := Ne.symm (off1_mem hoD6 (180, tabObj #[]) (.head _))
        clear hoC6 hoD6
        try dsimp only
        k_steps
        refine Held.mk ?_
        k_dflt (refine' normpath_spec (x := CR) ?k1 ?k2 ?k3 ?k4 ?k5 ?kK ?kd ?ku (by omega) ?_; (case k1 => k_asm); (case k2 => k_asm); (case k3 => k_asm); (case k4 => k_asm); (case k5 => k_asm); (case kK => exact rfl); (case kd => ktr_room); (case ku => ktr_units); k_whole)
        intro tS h16 tk16 F16 N16
        generalize hST : normOf CR = ST at LP ⊢
        clear hST F15 N15
        k_steps
        refine Held.mk ?_
        rename_i h17 F17 N17
        rw [eval_ListComp]
        refine wpAny_comprehension_free (use := none) rfl (by intro _; rfl) (cl := []) (by with_unfolding_all rfl) (by rfl) (by decide) ?_
        k_dflt (show wpAny _ _ (eval (Expr.Name _ _) _) _ _ _)
        k_dflt walk1
        k_dflt (refine' compTR (adr := Pr.a) (obj := Pr.obj) (ps := ks) (n := nk) (PL := KL) (bnd := fun q m' z => if z = Str.ofString "written" then some (.str q.u q.ut) else if z = Str.ofString "word" then some (.str q.w q.wt) else m' z) rfl F17 N17 (.tail _ (.tail _ (.head _))) (fun q hq => .tail _ (.tail _ (.tail _ (List.mem_append_left _ (prLed_mem hq))))) (by omega) (by decide) rfl ?hasg (fun i ys => ∃ l : List (Str × Tok), ys = strValues l ∧ l.map (·.1) = (ks.map Pr.u).take i) ⟨[], rfl, rfl⟩ ?turn ?hRR)
        case hasg =>
          intro q C m' s' Q' he hn hq
          exact kcp_assign (env := compEnvC _ [] C _) rfl ⟨_, he, rfl, _, rfl⟩ (lookup_relabel_local rfl) (lookup_relabel_local rfl) rfl hn hq
        case turn =>
          rintro i q ys I oI C oC D m₁ h tk hq ⟨l, rfl, hl⟩ hoC F6 N6
          refine wpAny_tests_nil ?_
          rw [if_pos rfl]
          have hmu : (fun z => if z = Str.ofString "written" then some (Value.str q.u q.ut) else if z = Str.ofString "word" then some (.str q.w q.wt) else m₁ z) (Str.ofString "written") = some (.str q.u q.ut) := if_pos rfl
          generalize (fun z => if z = Str.ofString "written" then some (Value.str q.u q.ut) else if z = Str.ofString "word" then some (.str q.w q.wt) else m₁ z) = m₂ at hoC hmu
          clear F17 N17
          k_steps
          exact ⟨_, _, rfl, by k_asm, by k_asm, l ++ [(q.u, q.ut)], (strValues_snoc l (q.u, q.ut)).symm, by rw [List.map_append, hl, List.take_add_one, List.getElem?_map, hq]; rfl⟩
        case hRR =>
          rintro UL C h6 tk6 m6 ys ⟨ul, rfl, hul⟩ F6 N6 hn6 hC6 hCL6 hDC6 hoC6 hoD6
          rw [List.take_of_length_le (by rw [List.length_map]; exact Nat.le_refl _)] at hul
          refine fin_E F6 N6 hn6 hC6 hCL6 hDC6 hoC6 fun h18 F18 N18 => ?_
          clear F6 N6 hn6 hC6 hCL6 hDC6 hoC6 hoD6 F17 N17
          have eul : ul.map (·.1) = (prVal ks).map (·.2) := by rw [hul]; unfold prVal; rw [List.map_map]; rfl
          have hsu : lsum (ul.map (·.1)) ≤ 10 * (ul.map (·.1)).length := lsum_le10 _ fun x hx => by
            rw [eul] at hx
            obtain ⟨k, hk, rfl⟩ := List.mem_map.mp hx
            exact (LP.2.2.2.2.1 k hk).lu
          have hull : (ul.map (·.1)).length = ks.length := by rw [hul, List.length_map]
          have hjok : ((ul.map (·.1)).map (·.length)).sum + (ul.map (·.1)).length * (Str.ofString "/").length ≤ 16777216 := by
            rw [show (Str.ofString "/").length = 1 by decide +kernel]; unfold lsum at hsu; omega
          have hjl : (Txt.join (Str.ofString "/") (ul.map (·.1))).length ≤ 300 := by
            have h1 := StrLaws.join_length_le (Str.ofString "/") (ul.map (·.1))
            rw [show Txt.join (Str.ofString "/") (ul.map (·.1)) = Str.join (Str.ofString "/") (ul.map (·.1)) from StrLaws.glued_eq_join _ _]
            rw [show (Str.ofString "/").length = 1 by decide +kernel] at h1; unfold lsum at hsu; omega
          have eST : LR.2 ++ Txt.join (Str.ofString "/") (ul.map (·.1)) = ST := by rw [LP.1, txt_join, eul]
          try dsimp only
          k_steps
          refine SC.join (l := ul) ⟨_, News.get (by k_asm) (.head _), rfl, (strValues ul).length, rfl⟩ rfl (joinOk_of hjok) ?_
          intro tj2 kj2
          generalize hJ : Txt.join (Str.ofString "/") (ul.map (·.1)) = JJ at hjl eST ⊢
          have hSTl : ST.length ≤ 400 := by rw [← eST, Str.length_append]; omega
          clear hJ hjok hull hsu eul hul
          k_steps
          refine Held.mk ?_
          have hwl2 : wl.map (·.1) = (prVal ks).map (·.1) := by rw [hwl]; unfold prVal; rw [List.map_map]; rfl
          have hwll : wl.length = ks.length := by have e := congrArg List.length hwl; rwa [List.length_map, List.length_map] at e
          have hwok : ∀ y ∈ wl.map (·.1), PyData.strOk y = true := fun y hy => by
            rw [hwl2] at hy
            obtain ⟨k, hk, rfl⟩ := List.mem_map.mp hy
            exact (LP.2.2.2.2.1 k hk).ok
          have hws : lsum (wl.map (·.1)) ≤ 10 * (wl.map (·.1)).length := lsum_le10 _ fun x hx => by
            rw [hwl2] at hx
            obtain ⟨k, hk, rfl⟩ := List.mem_map.mp hx
            exact (LP.2.2.2.2.1 k hk).lw
          rw [List.length_map] at hws
          have hr1 : readsOf ST (wl.map (·.1)) = true := by rw [hwl2]; exact LP.2.1
          have hwt := told_ok hr1 hwok
          rw [List.length_map] at hwt
          have hoff : ∀ q ∈ (WL, LCg.lst (strValues wl)) :: (KL, listOf (refsOf' Pr.a ks).toArray nk) :: (prLed ks ++ (BL, listOf (refsOf' Pc.a bs).toArray nb) :: pcLed bs), q.1 ≠ 180 := fun q hq => by
            rcases List.mem_cons.mp hq with rfl | hq
            · exact hW180
            rcases List.mem_cons.mp hq with rfl | hq
            · exact Nat.ne_of_gt k180
            rcases List.mem_append.mp hq with hq | hq
            · obtain ⟨z, hz, rfl⟩ := List.mem_map.mp hq
              exact Nat.ne_of_gt (q180 z hz)
            rcases List.mem_cons.mp hq with rfl | hq
            · exact hB180
            · obtain ⟨z, hz, rfl⟩ := List.mem_map.mp hq
              exact Nat.ne_of_gt (hpa2 z hz)
          have N19 := news_sub (news' := (180, tabObj #[]) :: (WL, LCg.lst (strValues wl)) :: (KL, listOf (refsOf' Pr.a ks).toArray nk) :: (prLed ks ++ (BL, listOf (refsOf' Pc.a bs).toArray nb) :: pcLed bs)) N18 (fun q hq => by
            rcases List.mem_cons.mp hq with rfl | hq
            · exact .tail _ (.tail _ (.head _))
            rcases List.mem_cons.mp hq with rfl | hq
            · exact .tail _ (.head _)
            · exact .tail _ (.tail _ (.tail _ hq)))
          k_dflt (refine' reads_spec (x := ST) (tab := #[]) (lo := 0) (WL := WL) (wl := wl) (nw := (strValues wl).length) (news := (WL, LCg.lst (strValues wl)) :: (KL, listOf (refsOf' Pr.a ks).toArray nk) :: (prLed ks ++ (BL, listOf (refsOf' Pc.a bs).toArray nb) :: pcLed bs)) ?k1 ?k2 ?k3 ?k4 ?k5 ?kK ?kC ?kd ?ku (by omega) hoff (.inl rfl) (.head _) (by omega) (by omega) hwok hwt ?_; (case k1 => k_asm); (case k2 => k_asm); (case k3 => k_asm); (case k4 => exact N19); (case k5 => k_asm); (case kK => exact rfl); (case kC => first | assumption | kn_code); (case kd => ktr_room); (case ku => ktr_units); k_whole)
          intro c oc vs tq h20 tk20 hc180 dd1 dd2 F20 N20
          rw [hr1]
          clear hr1 hwt hws hjl
          clear N18 N19 F18
          k_steps
          refine Held.mk ?_
          rw [eval_ListComp]
          refine wpAny_comprehension_free (use := none) rfl (by intro _; rfl) (cl := []) (by with_unfolding_all rfl) (by rfl) (by decide) ?_
          k_dflt (show wpAny _ _ (eval (Expr.Name _ _) _) _ _ _)
          k_dflt walk1
          k_dflt (refine' compTR (adr := Pc.a) (obj := Pc.obj) (ps := bs) (n := nb) (PL := BL) (bnd := fun q m' z => if z = Str.ofString "written" then some (.str q.u q.ut) else if z = Str.ofString "word" then some (.str q.w q.wt) else if z = Str.ofString "kind" then some (.str q.k q.kt) else m' z) rfl F20 N20 (.tail _ (.tail _ (.tail _ (.tail _ (List.mem_append_right _ (.head _)))))) (fun q hq => .tail _ (.tail _ (.tail _ (.tail _ (List.mem_append_right _ (.tail _ (pcLed_mem hq))))))) (by omega) (by decide) rfl ?hasg (fun i ys => ∃ l : List (Str × Tok), ys = strValues l ∧ l.map (·.1) = askW ((pcVal bs).take i)) ⟨[], rfl, rfl⟩ ?turn ?hRR)
          case hasg =>
            intro q C m' s' Q' he hn hq
            exact asg3 (env := compEnvC _ [] C _) rfl ⟨_, he, rfl, _, rfl⟩ (lookup_relabel_local rfl) (lookup_relabel_local rfl) (lookup_relabel_local rfl) rfl hn hq
          case turn =>
            rintro i q ys I oI C oC D m₁ h tk hq ⟨l, rfl, hl⟩ hoC F6 N6
            refine wpAny_tests_one ?_
            have hqv := pcVal_get hq
            have hmu : (fun z => if z = Str.ofString "written" then some (Value.str q.u q.ut) else if z = Str.ofString "word" then some (.str q.w q.wt) else if z = Str.ofString "kind" then some (.str q.k q.kt) else m₁ z) (Str.ofString "written") = some (.str q.u q.ut) := if_pos rfl
            have hmw : (fun z => if z = Str.ofString "written" then some (Value.str q.u q.ut) else if z = Str.ofString "word" then some (.str q.w q.wt) else if z = Str.ofString "kind" then some (.str q.k q.kt) else m₁ z) (Str.ofString "word") = some (.str q.w q.wt) := (if_neg (by decide +kernel)).trans (if_pos rfl)
            generalize (fun z => if z = Str.ofString "written" then some (Value.str q.u q.ut) else if z = Str.ofString "word" then some (.str q.w q.wt) else if z = Str.ofString "kind" then some (.str q.k q.kt) else m₁ z) = m₂ at hoC hmu hmw
            clear F20 N20
            k_steps
            · have e : ne q.tri.2.2 = true := ‹(q.u != Str.ofString "") = true›
              exact ⟨_, _, rfl, by k_asm, by k_asm, l ++ [(q.w, q.wt)], (strValues_snoc l (q.w, q.wt)).symm, by rw [List.map_append, hl, askW_yes hqv e]; rfl⟩
            · have e : ne q.tri.2.2 = false := ‹(q.u != Str.ofString "") = false›
              exact ⟨_, _, rfl, by k_asm, by k_asm, l, rfl, by rw [hl, askW_no hqv e]⟩
          case hRR =>
            rintro AL C h6 tk6 m6 ys ⟨al, rfl, hal⟩ F6 N6 hn6 hC6 hCL6 hDC6 hoC6 hoD6
            refine fin_E F6 N6 hn6 hC6 hCL6 hDC6 hoC6 fun h21 F21 N21 => ?_
            clear F6 N6 hn6 hC6 hCL6 hDC6 hoC6 F20 N20
            rw [List.take_of_length_le (by unfold pcVal; rw [List.length_map]; exact Nat.le_refl _)] at hal
            have hall : al.length ≤ 18 := by
              have e := congrArg List.length hal
              have e2 := List.length_filter_le (fun p : Tri => ne p.2.2) (pcVal bs)
              unfold askW at e
              unfold pcVal at e e2
              rw [List.length_map] at e e2
              rw [List.length_map] at e
              omega
            have hA180 : AL ≠ 180 := Ne.symm (off1_mem hoD6 (180, _) (.head _))
            have haok : ∀ y ∈ al.map (·.1), PyData.strOk y = true := fun y hy => by
              rw [hal] at hy
              obtain ⟨k, hk, rfl⟩ := List.mem_map.mp hy
              exact (LP.2.2.2.2.2 k hk).ok
            have has : lsum (al.map (·.1)) ≤ 10 * (al.map (·.1)).length := lsum_le10 _ fun x hx => by
              rw [hal] at hx
              obtain ⟨k, hk, rfl⟩ := List.mem_map.mp hx
              exact (LP.2.2.2.2.2 k hk).lw
            rw [List.length_map] at has
            have hr2 : readsOf CR (al.map (·.1)) = true := by rw [hal]; exact LP.2.2.1
            have hat := told_ok hr2 haok
            rw [List.length_map] at hat
            clear hoD6 hal
            try dsimp only
            k_steps
            refine Held.mk ?_
            have hoff2 : ∀ q ∈ (AL, LCg.lst (strValues al)) :: (c, oc) :: (WL, LCg.lst (strValues wl)) :: (KL, listOf (refsOf' Pr.a ks).toArray nk) :: (prLed ks ++ (BL, listOf (refsOf' Pc.a bs).toArray nb) :: pcLed bs), q.1 ≠ 180 := fun q hq => by
              rcases List.mem_cons.mp hq with rfl | hq
              · exact hA180
              rcases List.mem_cons.mp hq with rfl | hq
              · exact hc180
              · exact hoff q hq
            have N22 := news_sub (news' := (180, tabObj #[rawInt 181, rawInt 18, .ref c]) :: (AL, LCg.lst (strValues al)) :: (c, oc) :: (WL, LCg.lst (strValues wl)) :: (KL, listOf (refsOf' Pr.a ks).toArray nk) :: (prLed ks ++ (BL, listOf (refsOf' Pc.a bs).toArray nb) :: pcLed bs)) N21 (fun q hq => by
              rcases List.mem_cons.mp hq with rfl | hq
              · exact .tail _ (.head _)
              rcases List.mem_cons.mp hq with rfl | hq
              · exact .head _
              · exact .tail _ (.tail _ hq))
            k_dflt (refine' reads_spec (x := CR) (tab := #[rawInt 181, rawInt 18, .ref c]) (lo := c + 1) (WL := AL) (wl := al) (nw := (strValues al).length) (news := (AL, LCg.lst (strValues al)) :: (c, oc) :: (WL, LCg.lst (strValues wl)) :: (KL, listOf (refsOf' Pr.a ks).toArray nk) :: (prLed ks ++ (BL, listOf (refsOf' Pc.a bs).toArray nb) :: pcLed bs)) ?k1 ?k2 ?k3 ?k4 ?k5 ?kK ?kC ?kd ?ku (by omega) hoff2 (.inr ⟨c, oc, vs, tq, rfl, .tail _ (.head _), Nat.lt_succ_self _, dd1, dd2⟩) (.head _) (by omega) (by omega) haok hat ?_; (case k1 => k_asm); (case k2 => k_asm); (case k3 => k_asm); (case k4 => exact N22); (case k5 => k_asm); (case kK => exact rfl); (case kC => first | assumption | kn_code); (case kd => ktr_room); (case ku => ktr_units); k_whole)
            intro c2 oc2 vs2 tq2 h23 tk23 hc2 ee1 ee2 F23 N23
            rw [hr2]
            clear hr2 hat has haok N21 N22 F21
            k_steps
            refine Held.mk ?_
            k_dflt (refine' climb_spec (x := ST) (c := c2) (oc := oc2) (vs := vs2) (tq := tq2) (rh := LR.2) (rn := (prVal ks).map (·.1)) (fuel := (prVal ks).length + 1) ?k1 ?k2 ?k3 ?k4 ?k5 ?kK ?kC ?kd ?ku (by omega) ?kt ?ko ee1 ee2 LP.2.2.2.1 ?kf ?_; (case k1 => k_asm); (case k2 => k_asm); (case k3 => k_asm); (case k4 => exact N23); (case k5 => k_asm); (case kK => exact rfl); (case kC => first | assumption | kn_code); (case kd => ktr_room); (case ku => ktr_units); (case kt => exact .head _); (case ko => exact .tail _ (.head _)); (case kf => (unfold prVal; rw [List.length_map]; omega)); k_whole)
            intro D4 NL n4 k4 t4 h24 tk24 hk4 hNL hND F24 N24
            have hNW : NL ≠ WL := Nat.ne_of_gt (hNL (WL, _) (.tail _ (.tail _ (.tail _ (.tail _ (.head _))))))
            rw [← hwl2] at hk4
            clear F23 N23 hNL
            k_steps
            rename_i T9 h25 F25 N25 l25
            k_dflt (refine' SeqAt.eq_tupleAt (items := #[.str LR.2 t4, .ref NL]) (items2 := #[.str LR.2 tB, .ref WL]) (e := fun _ => true) ?ha ?hb ?hu ?he ?_)
            case ha => exact ⟨_, News.get N25 (.tail _ (.head _)), rfl, _, rfl⟩
            case hb => exact ⟨_, News.get N25 (.head _), rfl, _, rfl⟩
            case hu => ktr_units
            case he =>
              intro j h1 h2
              match j, h1, h2 with
              | 0, _, _ => exact fun prog w E Q hq => eqBool_str (by rw [beq_self_eq_true]; exact hq)
              | 1, _, _ => exact SeqAt.EqAt.of_refs hNW (rc_strs (News.get N25 (.tail _ (.tail _ (.head _)))) (News.get N25 (.tail _ (.tail _ (.tail _ (.tail _ (.tail _ (.tail _ (.tail _ (.head _)))))))))  hk4 (by ktr_units))
              | j + 2, h, _ => exact absurd h (by intro hh; simp at hh; omega)
            rw [show (((List.range (min (#[Value.str LR.2 t4, Value.ref NL] : Array Value).size (#[Value.str LR.2 tB, Value.ref WL] : Array Value).size)).all fun _ => true) && (#[Value.str LR.2 t4, Value.ref NL] : Array Value).size == (#[Value.str LR.2 tB, Value.ref WL] : Array Value).size) = true from rfl]
            k_steps)

end S_P27_0
end Mine
theorem PySem.Challenge.cw_pd0185_01_holds : PySem.Challenge.rw_pd0185_01.Holds := by
  exact Mine.law_holds
