import PyProof.Rows.All
import Wide.All
import OpenK.AllK
import Wide.FinOn
import Lean
import PySem.Challenge.RW_dm5018_01

section
open PySem PySem.W PyProof.Rows
set_option Elab.async false
namespace Mine
set_option maxRecDepth 100000 in
set_option maxHeartbeats 8000000 in
open_top hd for PySem.Challenge.rw_dm5018_01
end Mine

end
section
open PySem PySem.W PyProof.Rows PySem.Spec PySem.Calls
set_option Elab.async false
namespace Mine
def rd : List Nat → List Nat → Option (List Nat)
  | out, [] => some out
  | out, [c] => if c = 34 ∨ c = 92 then none else some (out ++ [c])
  | out, c :: d :: r =>
    if c = 34 then none
    else if c = 92 then (if d = 34 ∨ d = 92 then rd (out ++ [d]) r else none)
    else rd (out ++ [c]) (d :: r)

def rdVal (x : Str) (t : Tok) : Value := match rd [] x.cps.toList with
  | none => .none
  | some r => .str ⟨r.toArray⟩ t

abbrev RdS := Str × Tok × Int × Tok
def rdPs (c : RdS) : List (Str × Value) := [(Str.ofString "out", .str c.1 c.2.1), (Str.ofString "at", .int c.2.2.1 c.2.2.2)]
def rdP (x : Str) (c : RdS) : Prop := ∃ n : Nat, c.2.2.1 = (n : Int) ∧ n ≤ x.length ∧ c.1.length ≤ n ∧ rd c.1.cps.toList (x.cps.toList.drop n) = rd [] x.cps.toList

theorem quote_eq (c : Nat) : ((⟨#[c]⟩ : Str) == Str.ofString "\"") = decide (c = 34) := by
  have h : Str.ofString "\"" = ⟨#[34]⟩ := by decide +kernel
  rw [h]
  by_cases e : c = 34
  · subst e; decide
  · simp [e]
theorem back_eq (c : Nat) : ((⟨#[c]⟩ : Str) == Str.ofString "\\") = decide (c = 92) := by
  have h : Str.ofString "\\" = ⟨#[92]⟩ := by decide +kernel
  rw [h]
  by_cases e : c = 92
  · subst e; decide
  · simp [e]
theorem item_at {x : Str} {n : Nat} (h : (n : Int) < x.length) : ∃ c r, x.cps.toList.drop n = c :: r ∧ Txt.item x (n : Int) = ⟨#[c]⟩ ∧ x.cps.toList.drop (n + 1) = r := by
  have hn : n < x.cps.toList.length := by
    have : n < x.length := by omega
    simpa [Str.length] using this
  refine ⟨x.cps.toList[n], x.cps.toList.drop (n + 1), ?_, ?_, rfl⟩
  · exact List.drop_eq_getElem_cons hn
  · have e := item_closes (x := x) (i := (n : Int)) ⟨by omega, h⟩
    have e' := eq_of_beq e
    rw [e']
    have hn' : n < x.cps.size := by simpa using hn
    simp [Array.getD, hn']
theorem app_one (o : Str) (c : Nat) : (o ++ (⟨#[c]⟩ : Str)).cps.toList = o.cps.toList ++ [c] := by
  rw [Str.cps_append]; simp
theorem len_app_one (o : Str) (c : Nat) : (o ++ (⟨#[c]⟩ : Str)).length = o.length + 1 := by
  rw [Str.length_append]; rfl
theorem rd_nil (o : List Nat) : rd o [] = some o := by unfold rd; rfl
theorem rd_cons (o : List Nat) (c : Nat) (r : List Nat) (h1 : c ≠ 34) (h2 : c ≠ 92) : rd o (c :: r) = rd (o ++ [c]) r := by
  cases r with
  | nil => rw [rd_nil]; simp [rd, h1, h2]
  | cons d r => simp [rd, h1, h2]
theorem rd_q (o : List Nat) (r : List Nat) : rd o (34 :: r) = none := by cases r <;> simp [rd]
theorem rd_b1 (o : List Nat) : rd o [92] = none := by simp [rd]
theorem rd_b (o : List Nat) (d : Nat) (r : List Nat) (h : d = 34 ∨ d = 92) : rd o (92 :: d :: r) = rd (o ++ [d]) r := by simp [rd, h]
theorem rd_bn (o : List Nat) (d : Nat) (r : List Nat) (h : ¬ (d = 34 ∨ d = 92)) : rd o (92 :: d :: r) = none := by simp [rd, h]

section
variable {x o : Str} {n : Nat} {t1 t2 : Tok} {s : Str}
theorem hret_as {h₀ : Heap} {L : Addr} {m : Str → Option Value} {news : List (Addr × Obj)} {s : Shared} {Q : Value → Shared → Prop} {R : Tok → Value} {v : Value} {h' : Heap} {tk' : Nat}
    (hret : ∀ (t : Tok) (h' : Heap) (tk' : Nat), Fr h₀ L h' m → News h₀ L h' news → Q (R t) { s with heap := h', toks := tk' }) (t : Tok) (e : R t = v) (F : Fr h₀ L h' m) (N : News h₀ L h' news) : Q v { s with heap := h', toks := tk' } := by
  subst e; exact hret t h' tk' F N
theorem news_drop {h₀ h : Heap} {L : Addr} {news : List (Addr × Obj)} {p : Addr × Obj} (N : News h₀ L h (p :: news)) : News h₀ L h news := fun q hq => N q (.tail _ hq)
theorem e_quote (t : Tok) (hp : rd o.cps.toList (x.cps.toList.drop n) = rd [] x.cps.toList) (h : (n : Int) < x.length) (q : (Txt.item x (n : Int) == Str.ofString "\"") = true) : rdVal x t = .none := by
  obtain ⟨c, r, h1, h2, h3⟩ := item_at h
  rw [h2, quote_eq] at q
  have q := of_decide_eq_true q
  subst q
  rw [h1, rd_q] at hp
  unfold rdVal; rw [← hp]
theorem e_end (t : Tok) (hp : rd o.cps.toList (x.cps.toList.drop n) = rd [] x.cps.toList) (h : (n : Int) < x.length) (q : (Txt.item x (n : Int) == Str.ofString "\\") = true) (h' : (n : Int) + 1 = x.length) : rdVal x t = .none := by
  obtain ⟨c, r, h1, h2, h3⟩ := item_at h
  rw [h2, back_eq] at q
  have q := of_decide_eq_true q
  subst q
  have hr : r = [] := by
    rw [← h3]
    have : x.cps.toList.length = n + 1 := by
      have : x.length = n + 1 := by omega
      simpa [Str.length] using this
    rw [← this]; exact List.drop_length
  subst hr
  rw [h1, rd_b1] at hp
  unfold rdVal; rw [← hp]
theorem e_not (t : Tok) (hp : rd o.cps.toList (x.cps.toList.drop n) = rd [] x.cps.toList) (h : (n : Int) < x.length) (q : (Txt.item x (n : Int) == Str.ofString "\\") = true) (_hle : n ≤ x.length) (h' : (n : Int) + 1 ≠ x.length)
    (q' : ([Str.ofString "\"", Str.ofString "\\"].any fun y => y == Txt.item x ((n : Int) + 1)) = false) : rdVal x t = .none := by
  obtain ⟨c, r, h1, h2, h3⟩ := item_at h
  rw [h2, back_eq] at q
  have q := of_decide_eq_true q
  subst q
  obtain ⟨d, r', k1, k2, k3⟩ := item_at (x := x) (n := n + 1) (by omega)
  have k2' : Txt.item x ((n : Int) + 1) = ⟨#[d]⟩ := k2
  rw [k2'] at q'
  simp only [List.any_cons, List.any_nil, Bool.or_false, Bool.or_eq_false_iff] at q'
  rw [BEq.comm, quote_eq, BEq.comm (a := Str.ofString "\\"), back_eq] at q'
  have hd : ¬ (d = 34 ∨ d = 92) := fun hh => hh.elim (fun e => of_decide_eq_false q'.1 e) fun e => of_decide_eq_false q'.2 e
  rw [h1, ← h3, k1, rd_bn _ _ _ hd] at hp
  unfold rdVal; rw [← hp]
theorem e_two (hp : rd o.cps.toList (x.cps.toList.drop n) = rd [] x.cps.toList) (ho : o.length ≤ n) (h : (n : Int) < x.length) (q : (Txt.item x (n : Int) == Str.ofString "\\") = true) (_hle : n ≤ x.length) (h' : (n : Int) + 1 ≠ x.length)
    (q' : ([Str.ofString "\"", Str.ofString "\\"].any fun y => y == Txt.item x ((n : Int) + 1)) = true) : rdP x (o ++ Txt.item x ((n : Int) + 1), t1, (n : Int) + 1 + 1, t2) := by
  obtain ⟨c, r, h1, h2, h3⟩ := item_at h
  rw [h2, back_eq] at q
  have q := of_decide_eq_true q
  subst q
  obtain ⟨d, r', k1, k2, k3⟩ := item_at (x := x) (n := n + 1) (by omega)
  have k2' : Txt.item x ((n : Int) + 1) = ⟨#[d]⟩ := k2
  rw [k2'] at q' ⊢
  simp only [List.any_cons, List.any_nil, Bool.or_false, Bool.or_eq_true] at q'
  rw [BEq.comm, quote_eq, BEq.comm (a := Str.ofString "\\"), back_eq] at q'
  have hd : d = 34 ∨ d = 92 := q'.imp of_decide_eq_true of_decide_eq_true
  refine ⟨n + 2, by dsimp only; omega, by omega, ?_, ?_⟩
  · dsimp only; rw [len_app_one]; omega
  · dsimp only
    rw [app_one, ← hp, h1, ← h3, k1, rd_b _ _ _ hd]
    exact congrArg _ k3
theorem e_one (hp : rd o.cps.toList (x.cps.toList.drop n) = rd [] x.cps.toList) (ho : o.length ≤ n) (h : (n : Int) < x.length) (q0 : (Txt.item x (n : Int) == Str.ofString "\"") = false) (q : (Txt.item x (n : Int) == Str.ofString "\\") = false) : rdP x (o ++ Txt.item x (n : Int), t1, (n : Int) + 1, t2) := by
  obtain ⟨c, r, h1, h2, h3⟩ := item_at h
  rw [h2, back_eq] at q
  rw [h2, quote_eq] at q0
  have q := of_decide_eq_false q
  have q0 := of_decide_eq_false q0
  rw [h2]
  refine ⟨n + 1, by dsimp only; omega, by omega, ?_, ?_⟩
  · dsimp only; rw [len_app_one]; omega
  · dsimp only
    rw [app_one, ← hp, h1, h3, rd_cons _ _ _ q0 q]
theorem e_done (t : Tok) (hp : rd o.cps.toList (x.cps.toList.drop n) = rd [] x.cps.toList) (h : (x.length : Int) ≤ n) : rdVal x t = .str o t := by
  have e : x.cps.toList.drop n = [] := by
    apply List.drop_eq_nil_of_le
    have : x.length ≤ n := by omega
    simpa [Str.length] using this
  rw [e, rd_nil] at hp
  unfold rdVal; rw [← hp]
theorem rdP_start (x : Str) (t1 t2 : Tok) : rdP x (Str.ofString "", t1, 0, t2) := ⟨0, rfl, Nat.zero_le _, (by decide +kernel : (Str.ofString "").length ≤ 0), by
  have e : (Str.ofString "").cps.toList = [] := by decide +kernel
  dsimp only; rw [e]; rfl⟩
end
end Mine

end
section
open PySem PySem.W PyProof.Rows PySem.Spec PySem.Calls PySem.Builtin PySem.Builtin.Str
set_option Elab.async false
namespace Mine
section
variable {prog : Program} {w : World} {A : Around} {E : Value → Shared → Prop} {s : Shared} {x y z : Str} {t u v : Tok} {Q : Value → Shared → Prop}
theorem replace_on (hu : u ≠ 0) (hv : v ≠ 0) (huv : u ≠ v) (hyz : (y == z) = false) (hx : x.length ≤ 1048576) (hz : z.length ≤ 14)
    (hq : ∀ t' k, s.toks ≤ k → Q (.str (Txt.replace x y z) t') { s with toks := k }) : wpAny (model prog w) A (call (.builtin "str.replace") [.str x t, .str y u, .str z v]) Q E s := by
  have hn := StrLaws.occ_length_le x y 0 x.length (x.length + 1)
  have hm : (PySem.Builtin.Str.occurrences x y 0 x.length (x.length + 1)).length * z.length ≤ (x.length + 1) * 14 := Nat.mul_le_mul hn hz
  have hm' : (x.length + 1) * z.length ≤ (x.length + 1) * 14 := Nat.mul_le_mul_left _ hz
  have hbig : x.length + (x.length + 1) * z.length ≤ 16777216 := by omega
  refine call_gives F.slot_str_replace (typeIs_str _ _ _) F.entry_str_replace (F.args_str_replace_3 _ _ _)
    (gives_str_replace x y z t u v fun _ => ⟨by simp [hu, hv], by simp [huv], hyz, by unfold tooLong; rw [sizeLine_eq]; exact decide_eq_false (by omega)⟩) ?_
  unfold Txt.replace at hq
  split
  · rename_i hc
    rw [if_pos hc] at hq
    exact hq t s.toks (Nat.le_refl _)
  · rename_i hc
    rw [if_neg hc] at hq
    exact ⟨fits_replaced y hbig, hq _ _ (Nat.le_succ _)⟩
end

def subC (c : Nat) (z : List Nat) (l : List Nat) : List Nat := l.flatMap fun a => if a = c then z else [a]
theorem subC_free (c : Nat) (z : List Nat) : ∀ l : List Nat, c ∉ l → subC c z l = l
  | [], _ => rfl
  | k :: r, h => by
    have h1 : ¬ k = c := fun e => h (e ▸ List.mem_cons_self ..)
    have h2 : c ∉ r := fun m => h (List.mem_cons_of_mem _ m)
    have ih := subC_free c z r h2
    unfold subC at ih ⊢
    rw [List.flatMap_cons, if_neg h1, ih]; rfl
theorem subC_append (c : Nat) (z a b : List Nat) : subC c z (a ++ b) = subC c z a ++ subC c z b := by
  unfold subC; rw [List.flatMap_append]
theorem subC_join (c : Nat) (z : Str) : ∀ parts : List Str, (∀ p ∈ parts, c ∉ p.cps.toList) → subC c z.cps.toList (Str.join ⟨#[c]⟩ parts).cps.toList = (Str.join z parts).cps.toList
  | [], _ => rfl
  | [p], h => subC_free c _ _ (h p (List.mem_singleton.mpr rfl))
  | p :: q :: r, h => by
    have ih := subC_join c z (q :: r) fun a ha => h a (List.mem_cons_of_mem _ ha)
    show subC c z.cps.toList (p ++ ⟨#[c]⟩ ++ Str.join ⟨#[c]⟩ (q :: r)).cps.toList = (p ++ z ++ Str.join z (q :: r)).cps.toList
    simp only [Str.cps_append, Array.toList_append]
    rw [subC_append, subC_append, ih, subC_free c _ _ (h p (List.mem_cons_self ..))]
    have e : subC c z.cps.toList [c] = z.cps.toList := by simp [subC]
    rw [e]
theorem replace_subC (x z : Str) (c : Nat) : (Txt.replace x ⟨#[c]⟩ z).cps.toList = subC c z.cps.toList x.cps.toList := by
  rw [StrLaws.replace_one, ← subC_join c z _ (StrLaws.split_free x c), StrLaws.join_split]

def esc (l : List Nat) : List Nat := l.flatMap fun a => if a = 34 ∨ a = 92 then [92, a] else [a]
theorem esc_two (l : List Nat) : subC 34 [92, 34] (subC 92 [92, 92] l) = esc l := by
  induction l with
  | nil => rfl
  | cons a r ih =>
    have e1 : subC 92 [92, 92] (a :: r) = (if a = 92 then [92, 92] else [a]) ++ subC 92 [92, 92] r := by unfold subC; rw [List.flatMap_cons]
    have e2 : esc (a :: r) = (if a = 34 ∨ a = 92 then [92, a] else [a]) ++ esc r := by unfold esc; rw [List.flatMap_cons]
    rw [e1, e2, subC_append, ih]
    congr 1
    by_cases h : a = 92
    · subst h; rfl
    · by_cases h' : a = 34
      · subst h'; rfl
      · simp [subC, h, h']
theorem esc_length_le (l : List Nat) : (esc l).length ≤ 2 * l.length := by
  induction l with
  | nil => exact Nat.le_refl _
  | cons a r ih =>
    have e2 : esc (a :: r) = (if a = 34 ∨ a = 92 then [92, a] else [a]) ++ esc r := by unfold esc; rw [List.flatMap_cons]
    rw [e2, List.length_append, List.length_cons]
    have : (if a = 34 ∨ a = 92 then [92, a] else [a]).length ≤ 2 := by split <;> simp
    omega
def escS (v : Str) : Str := ⟨(esc v.cps.toList).toArray⟩
theorem escS_toList (v : Str) : (escS v).cps.toList = esc v.cps.toList := rfl
theorem escS_length (v : Str) : (escS v).length = (esc v.cps.toList).length := by simp [escS, Str.length]
theorem escS_length_le (v : Str) : (escS v).length ≤ 2 * v.length := by
  rw [escS_length]
  have := esc_length_le v.cps.toList
  simpa [Str.length] using this
theorem str_ext {a b : Str} (h : a.cps.toList = b.cps.toList) : a = b := by
  obtain ⟨⟨a⟩⟩ := a
  obtain ⟨⟨b⟩⟩ := b
  have h' : a = b := h
  subst h'; rfl
theorem replace_esc (v : Str) : Txt.replace (Txt.replace v (Str.ofString "\\") (Str.ofString "\\\\")) (Str.ofString "\"") (Str.ofString "\\\"") = escS v := by
  have h1 : Str.ofString "\\" = ⟨#[92]⟩ := by decide +kernel
  have h2 : Str.ofString "\\\\" = ⟨#[92, 92]⟩ := by decide +kernel
  have h3 : Str.ofString "\"" = ⟨#[34]⟩ := by decide +kernel
  have h4 : Str.ofString "\\\"" = ⟨#[92, 34]⟩ := by decide +kernel
  rw [h1, h2, h3, h4]
  apply str_ext
  rw [replace_subC, replace_subC]
  exact esc_two _
theorem replace_b_len (v : Str) (n : Nat) (h : v.length ≤ n) : (Txt.replace v (Str.ofString "\\") (Str.ofString "\\\\")).length ≤ 2 * n := by
  have h1 : Str.ofString "\\" = ⟨#[92]⟩ := by decide +kernel
  have h2 : Str.ofString "\\\\" = ⟨#[92, 92]⟩ := by decide +kernel
  rw [h1, h2]
  have e := replace_subC v ⟨#[92, 92]⟩ 92
  have l1 : (Txt.replace v ⟨#[92]⟩ ⟨#[92, 92]⟩).length = (subC 92 [92, 92] v.cps.toList).length := by
    have := congrArg List.length e
    simpa [Str.length] using this
  rw [l1]
  have l2 : ∀ l : List Nat, (subC 92 [92, 92] l).length ≤ 2 * l.length := by
    intro l
    induction l with
    | nil => exact Nat.le_refl _
    | cons a r ih =>
      have e1 : subC 92 [92, 92] (a :: r) = (if a = 92 then [92, 92] else [a]) ++ subC 92 [92, 92] r := by unfold subC; rw [List.flatMap_cons]
      rw [e1, List.length_append, List.length_cons]
      have : (if a = 92 then [92, 92] else [a]).length ≤ 2 := by split <;> simp
      omega
  have := l2 v.cps.toList
  have e3 : v.cps.toList.length = v.length := by simp [Str.length]
  omega
end Mine

end
section
open PySem PySem.W PyProof.Rows PySem.Spec PySem.Calls
set_option Elab.async false
namespace Mine
theorem turn0 (elt target iter target2 iter2 : Expr) (scope : Scope) (pos : Pos) (it acc : Value) (env : Env) :
    compTurn (.ListComp elt [⟨target, iter, [], 0⟩, ⟨target2, iter2, [], 0⟩] scope pos) 0 it acc env = (standAt iter.pos >>= fun _ => pyNext it >>= fun r => match r with
      | none => pure (.done .next)
      | some v => letOwnedTupleGo target it v >>= fun _ => assign target env v >>= fun _ =>
        eval iter2 env >>= fun x => standAt iter2.pos >>= fun _ => foldedSetIterable iter2 env x >>= fun x => holding [x] (pyIter x) >>= fun i =>
          runOwn (.compStart (.ListComp elt [⟨target, iter, [], 0⟩, ⟨target2, iter2, [], 0⟩] scope pos) 1 i acc env) env >>= fun _ =>
          again (.compLoop (.ListComp elt [⟨target, iter, [], 0⟩, ⟨target2, iter2, [], 0⟩] scope pos) 0 it acc env)) := by rfl
theorem turn1 (elt target iter target2 iter2 : Expr) (scope : Scope) (pos : Pos) (it acc : Value) (env : Env) :
    compTurn (.ListComp elt [⟨target, iter, [], 0⟩, ⟨target2, iter2, [], 0⟩] scope pos) 1 it acc env = (standAt iter2.pos >>= fun _ => pyNext it >>= fun r => match r with
      | none => pure (.done .next)
      | some v => letOwnedTupleGo target2 it v >>= fun _ => assign target2 env v >>= fun _ =>
        (eval elt env >>= fun x => call (.builtin "list.append") [acc, x] >>= fun _ => pure ()) >>= fun _ =>
          again (.compLoop (.ListComp elt [⟨target, iter, [], 0⟩, ⟨target2, iter2, [], 0⟩] scope pos) 1 it acc env)) := by rfl
section
variable {prog : Program} {w : World} {A : Around} {R : Result → Shared → Prop} {s : Shared}
/-- one rule for the inner loop's turns -/
theorem loop1 {elt target iter target2 iter2 : Expr} {scope : Scope} {pos : Pos} {it acc : Value} {env : Env} (I : Nat → Shared → Prop)
    (turn : ∀ n s, I n s → wpAny (model prog w) A (pyNext it) (fun r s₁ => match r with
      | none => R (.ok .next) s₁
      | some v => wpAny (model prog w) A (assign target2 env v) (fun _ s₂ => wpAny (model prog w) A (eval elt env) (fun x s₃ =>
          wpAny (model prog w) A (call (.builtin "list.append") [acc, x]) (fun _ s₄ => ∃ m, m < n ∧ I m s₄) (notedBy (model prog w) A env fun e s' => R (.error e) s') s₃)
          (notedBy (model prog w) A env fun e s' => R (.error e) s') s₂) (notedBy (model prog w) A env fun e s' => R (.error e) s') s₁) (notedBy (model prog w) A env fun e s' => R (.error e) s') s)
    (n : Nat) (h : I n s) (ht : ∀ v, letOwnedTupleGo target2 it v = pure () := by intro _; rfl) :
    codeAny (model prog w) A (.compLoop (.ListComp elt [⟨target, iter, [], 0⟩, ⟨target2, iter2, [], 0⟩] scope pos) 1 it acc env) R s := by
  refine codeAny_loop rfl I (fun n s hI => ?_) n h
  show wpAny _ A ((compTurn (.ListComp elt [⟨target, iter, [], 0⟩, ⟨target2, iter2, [], 0⟩] scope pos) 1 it acc env).onRaise (fun x => do noteFrame x env; theTreesLotGoes x)) _ _ s
  refine wpAny_noted ?_
  rw [turn1]
  refine wpAny_bind (wpAny_standAt (wpAny_bind (wpAny_mono (turn n s hI) (fun r s₁ h₁ => ?_) fun _ _ h' => h')))
  cases r with
  | none => exact wpAny_pure h₁
  | some v =>
    refine wpAny_bind (wpAny_of_eq (ht v) ?_)
    exact wpAny_bind (wpAny_mono h₁ (fun _ s₂ h₂ => wpAny_bind (wpAny_bind (wpAny_mono h₂ (fun x s₃ h₃ => wpAny_bind (wpAny_mono h₃
      (fun _ s₄ h₄ => wpAny_pure (wpAny_pure ⟨rfl, h₄⟩)) fun _ _ h' => h')) fun _ _ h' => h'))) fun _ _ h' => h')
theorem loop0 {elt target iter target2 iter2 : Expr} {scope : Scope} {pos : Pos} {it acc : Value} {env : Env} (I : Nat → Shared → Prop)
    (turn : ∀ n s, I n s → wpAny (model prog w) A (pyNext it) (fun r s₁ => match r with
      | none => R (.ok .next) s₁
      | some v => wpAny (model prog w) A (assign target env v) (fun _ s₂ => wpAny (model prog w) A (eval iter2 env) (fun x s₃ => wpAny (model prog w) A (pyIter x) (fun i s₄ =>
          codeAny (model prog w) A (.compStart (.ListComp elt [⟨target, iter, [], 0⟩, ⟨target2, iter2, [], 0⟩] scope pos) 1 i acc env) (fun r s₅ => match r with
            | .ok _ => ∃ m, m < n ∧ I m s₅
            | .error e => cameBackBy (model prog w) A env (notedBy (model prog w) A env fun e s' => R (.error e) s') e s₅) s₄)
          (notedBy (model prog w) A env fun e s' => R (.error e) s') s₃)
          (notedBy (model prog w) A env fun e s' => R (.error e) s') s₂) (notedBy (model prog w) A env fun e s' => R (.error e) s') s₁) (notedBy (model prog w) A env fun e s' => R (.error e) s') s)
    (n : Nat) (h : I n s) (ht : ∀ v, letOwnedTupleGo target it v = pure () := by intro _; rfl) (hs : ∀ x, foldedSetIterable iter2 env x = pure x := by intro _; rfl) :
    codeAny (model prog w) A (.compLoop (.ListComp elt [⟨target, iter, [], 0⟩, ⟨target2, iter2, [], 0⟩] scope pos) 0 it acc env) R s := by
  refine codeAny_loop rfl I (fun n s hI => ?_) n h
  show wpAny _ A ((compTurn (.ListComp elt [⟨target, iter, [], 0⟩, ⟨target2, iter2, [], 0⟩] scope pos) 0 it acc env).onRaise (fun x => do noteFrame x env; theTreesLotGoes x)) _ _ s
  refine wpAny_noted ?_
  rw [turn0]
  refine wpAny_bind (wpAny_standAt (wpAny_bind (wpAny_mono (turn n s hI) (fun r s₁ h₁ => ?_) fun _ _ h' => h')))
  cases r with
  | none => exact wpAny_pure h₁
  | some v =>
    refine wpAny_bind (wpAny_of_eq (ht v) ?_)
    refine wpAny_bind (wpAny_mono h₁ (fun _ s₂ h₂ => wpAny_bind (wpAny_mono h₂ (fun x s₃ h₃ => wpAny_bind (wpAny_standAt (wpAny_bind (wpAny_of_eq (hs x) (wpAny_bind (wpAny_holding (wpAny_mono h₃ (fun i s₄ h₄ => ?_) fun _ _ h' => h'))))))) fun _ _ h' => h')) fun _ _ h' => h')
    refine wpAny_bind (wpAny_runOwn (codeAny_mono h₄ (fun r s₅ h₅ => ?_)))
    cases r with
    | ok f => exact wpAny_pure ⟨rfl, h₅⟩
    | error e => exact h₅
theorem start1 {elt target iter target2 iter2 : Expr} {scope : Scope} {pos : Pos} {it acc : Value} {env : Env}
    (h0 : codeAny (model prog w) A (.compLoop (.ListComp elt [⟨target, iter, [], 0⟩, ⟨target2, iter2, [], 0⟩] scope pos) 1 it acc env) R s)
    (h : wpAny (model prog w) A (pyIter it) (fun it' s' => codeAny (model prog w) A (.compLoop (.ListComp elt [⟨target, iter, [], 0⟩, ⟨target2, iter2, [], 0⟩] scope pos) 1 it' acc env) R s')
      (notedBy (model prog w) A env fun x s' => R (.error x) s') s) :
    codeAny (model prog w) A (.compStart (.ListComp elt [⟨target, iter, [], 0⟩, ⟨target2, iter2, [], 0⟩] scope pos) 1 it acc env) R s := by
  refine codeAny_of_tree ?_
  show wpAny _ _ ((compStart (.ListComp elt [⟨target, iter, [], 0⟩, ⟨target2, iter2, [], 0⟩] scope pos) 1 it acc env).onRaise (fun x => do noteFrame x env; standAt theWindowsPlace)) _ _ s
  refine wpAny_notedAt ?_
  unfold compStart
  show wpAny _ _ (ask >>= _) _ _ s
  refine wpAny_bind (wpAny_askSetting (wpAny_ite ?_))
  split
  · first
      | exact wpAny_bind (wpAny_pure (wpAny_pure (And.intro rfl h0)))
      | exact wpAny_pure (And.intro rfl h0)
  · first
      | exact wpAny_bind (wpAny_rule (wpAny_bind (wpAny_standAt (wpAny_bind (wpAny_mono h (fun it' s' h' => wpAny_pure (And.intro rfl h')) fun _ _ x => x)))))
      | (refine wpAny_bind (wpAny_rule ?_); show wpAny _ _ (standAt iter2.pos >>= _) _ _ s; exact wpAny_bind (wpAny_standAt (wpAny_bind (wpAny_mono h (fun it' s' h' => wpAny_pure (And.intro rfl h')) fun _ _ x => x))))
end
end Mine

end
section
open PySem PySem.W PyProof.Rows PySem.Spec PySem.Calls PyProof.Rows.LCg
set_option Elab.async false
namespace Mine
theorem strs_snoc {y : PySem.Str} {t : Tok} : ∀ {vs : List Value} {ys : List PySem.Str}, StrsAre vs ys → StrsAre (vs ++ [.str y t]) (ys ++ [y])
  | _, _, .nil => .cons y t .nil
  | _, _, .cons z u r => .cons z u (strs_snoc r)
section
variable {prog : Program} {w : World} {A : Around} {R : Result → Shared → Prop} {E : Value → Shared → Prop} {s : Shared}
abbrev gens2 (tN sN : Str) (iter iter2 : Expr) (pt ps : Pos) : List Comprehension := [⟨.Name tN pt, iter, [], 0⟩, ⟨.Name sN ps, iter2, [], 0⟩]
abbrev eltTS (tN sN : Str) (p1 p2 p3 : Pos) : Expr := .BinOp (.Name tN p1) .Add (.Name sN p2) p3

theorem inner {tN sN : Str} {iter iter2 : Expr} {pt ps p1 p2 p3 pos : Pos} {scope : Scope} {cenv : Env} {sx D : Addr} {ws us : List Value} {ys : List Str} {x : Str} {tx : Tok} {m : Str → Option Value}
    (hh : A.handled = none) (hS : cenv.kindOf sN = some .local) (hT : cenv.kindOf tN = some .local) (hne : tN ≠ sN) (hk : cenv.scope.kind = .function)
    (hp : (cenv.scope.kind == .class || (cenv.scope.kind == .module && cenv.locals != cenv.globals)) = false) (hd1 : (tN == ("__debug__" : Str)) = false) (hd2 : (sN == ("__debug__" : Str)) = false)
    (hl : s.heap.IsList sx ws.toArray) (hW : StrsAre ws ys) (hacc : s.heap.get? D = some (lst us)) (hn : s.heap.Ns cenv.locals m) (hm : m tN = some (.str x tx))
    (h1 : sx ≠ cenv.locals) (h2 : sx ≠ D) (h3 : D ≠ cenv.locals) (hx : x.length ≤ 1000) (hy : ∀ y ∈ ys, y.length ≤ 1000) (hsz : us.length + ws.length ≤ 1000000)
    (hR : ∀ h' tk m' us', h'.Ns cenv.locals m' → h'.get? D = some (lst (us ++ us')) → StrsAre us' (ys.map (x ++ ·)) →
      (∀ b o, b ≠ cenv.locals → b ≠ D → s.heap.get? b = some o → h'.get? b = some o) → R (.ok .next) { s with heap := h', toks := tk }) :
    wpAny (model prog w) A (pyIter (.ref sx)) (fun i s₄ => codeAny (model prog w) A (.compStart (.ListComp (eltTS tN sN p1 p2 p3) (gens2 tN sN iter iter2 pt ps) scope pos) 1 i (.ref D) cenv) R s₄) E s := by
  refine wpAny_pyIter_list hl ?_
  have hlt : sx < s.heap.objs.size := by obtain ⟨_, e, _⟩ := hl; exact Heap.lt_size e
  have W := Walks.list (prog := prog) (w := w) hh s.heap.objs.size sx (Nat.ne_of_lt hlt) ws.toArray
  have hlen : ws.toArray.size = ws.length := by simp
  rw [hlen] at W
  have hCl : cenv.locals < s.heap.objs.size := hn.lt
  have hDl : D < s.heap.objs.size := Heap.lt_size hacc
  have hwl := hW.length
  generalize hI1 : s.heap.objs.size = I1 at W hCl hDl hlt
  have up : ∀ b o, s.heap.get? b = some o → (s.heap.push { cls := .type "list_iterator", data := .fields #[.ref sx, .int 0 0] }).get? b = some o := fun b o e => Heap.get?_push_of_some _ e
  have loop : ∀ s₃ : Shared, s₃ = { s with heap := s.heap.push { cls := .type "list_iterator", data := .fields #[.ref sx, .int 0 0] } } →
      codeAny (model prog w) A (.compLoop (.ListComp (eltTS tN sN p1 p2 p3) (gens2 tN sN iter iter2 pt ps) scope pos) 1 (.ref I1) (.ref D) cenv) R s₃ := by
    rintro s₃ rfl
    refine loop1 (fun k s' => ∃ h' tk i us' m', s' = { s with heap := h', toks := tk } ∧ i ≤ ws.length ∧ k = ws.length + 1 - i ∧ (h'.IsListIter I1 sx i ∧ h'.IsList sx ws.toArray) ∧ h'.Ns cenv.locals m' ∧ m' tN = some (.str x tx) ∧
        h'.get? D = some (lst (us ++ us')) ∧ StrsAre us' ((ys.take i).map (x ++ ·)) ∧ (∀ b o, b ≠ cenv.locals → b ≠ D → s.heap.get? b = some o → h'.get? b = some o)) ?_ (ws.length + 1)
      ⟨_, s.toks, 0, [], m, rfl, Nat.zero_le _, rfl, ⟨⟨_, by rw [← hI1]; exact Heap.get?_push_size _ rfl, rfl, rfl⟩, hl.push _⟩, hn.at' fun o e => up _ o e, hm, by rw [List.append_nil]; exact up _ _ hacc, by simpa using StrsAre.nil, fun b o _ _ e => up b o e⟩
    rintro k s' ⟨h', tk, i, us', m', rfl, hi, rfl, hst, hn', hm', hD', hU, hkeep⟩
    by_cases hlt' : i < ws.length
    · refine W.item i _ _ _ hlt' hst fun v h₂ tk₂ hP hst₂ hk₂ => ?_
      have hvi : ws[i]? = some v := by simpa using hP
      obtain ⟨y, ty, rfl, hyi⟩ := hW.item i v hvi
      have hCI : cenv.locals ∉ [I1] := fun q => absurd (List.mem_singleton.mp q) (Nat.ne_of_lt hCl)
      have hDI : D ∉ [I1] := fun q => absurd (List.mem_singleton.mp q) (Nat.ne_of_lt hDl)
      refine wpAny_assign_Name (wpAny_storeName_local hS (hn'.at' fun o e => hk₂ _ o hCI e) (fun h₃ hn₃ hs₃ => ?_) hp)
      have hst₃ := W.frame _ _ h₃ hst₂ (fun b hb o e => hs₃.extBut b o (fun q => by
        rcases List.mem_cons.mp hb with e1 | hb
        · exact absurd (q.symm.trans e1) (Nat.ne_of_lt hCl)
        · exact h1 ((List.mem_singleton.mp hb).symm.trans q)) e)
      have hD₃ : h₃.get? D = some (lst (us ++ us')) := hs₃.extBut _ _ h3 (hk₂ _ _ hDI hD')
      refine wpAny_BinOp (wpAny_Name (wpAny_loadName_local (v := .str x tx) hk hT hn₃ (by rw [if_neg hne]; exact hm') (wpAny_Name (wpAny_loadName_local (v := .str y ty) hk hS hn₃ (by rw [if_pos rfl]) ?_) hd2)) hd1)
      have hyl : y.length ≤ 1000 := hy y (List.mem_of_getElem? hyi)
      refine KXadd.add hx hyl (by decide) fun t' k' _ => ?_
      have hul : us'.length = i := by
        have := hU.length
        rw [List.length_map, List.length_take] at this
        omega
      refine append_at (hsz := by show (us ++ us').toArray.size ≤ sizeLine; rw [List.size_toArray, List.length_append, sizeLine_eq]; omega) hD₃ fun h₅ hs₅ hD₅ => ?_
      refine ⟨ws.length + 1 - (i + 1), by omega, h₅, _, i + 1, us' ++ [.str (x ++ y) t'], _, rfl, hlt', rfl, ?_, hn₃.sameBut hs₅ (Ne.symm h3), ?_, ?_, ?_, fun b o hb1 hb2 e => ?_⟩
      · exact W.frame _ _ h₅ hst₃ (fun b hb o e => hs₅.extBut b o (fun q => by
          rcases List.mem_cons.mp hb with e1 | hb
          · exact absurd (q.symm.trans e1) (Nat.ne_of_lt hDl)
          · exact h2 ((List.mem_singleton.mp hb).symm.trans q)) e)
      · rw [if_neg hne]; exact hm'
      · rw [← List.append_assoc, ← lst_snoc]; exact hD₅
      · rw [List.take_add_one, hyi]
        simpa using strs_snoc (t := t') hU
      · refine hs₅.extBut b o hb2 (hs₃.extBut b o hb1 (hk₂ b o (fun q => ?_) (hkeep b o hb1 hb2 e)))
        have := Heap.lt_size e
        rw [List.mem_singleton.mp q, hI1] at this
        exact Nat.lt_irrefl _ this
    · obtain rfl : i = ws.length := Nat.le_antisymm hi (Nat.not_lt.mp hlt')
      refine W.done _ _ _ hst fun h₂ tk₂ hk₂ => ?_
      have hCI : cenv.locals ∉ [I1] := fun q => absurd (List.mem_singleton.mp q) (Nat.ne_of_lt hCl)
      have hDI : D ∉ [I1] := fun q => absurd (List.mem_singleton.mp q) (Nat.ne_of_lt hDl)
      refine hR h₂ tk₂ m' us' (hn'.at' fun o e => hk₂ _ o hCI e) (hk₂ _ _ hDI hD') ?_ fun b o hb1 hb2 e => hk₂ b o (fun q => ?_) (hkeep b o hb1 hb2 e)
      · rwa [hwl, List.take_length] at hU
      · have := Heap.lt_size e
        rw [List.mem_singleton.mp q, hI1] at this
        exact Nat.lt_irrefl _ this
  have st0 : (s.heap.push { cls := .type "list_iterator", data := .fields #[.ref sx, .int 0 0] }).IsListIter I1 sx 0 ∧ (s.heap.push { cls := .type "list_iterator", data := .fields #[.ref sx, .int 0 0] }).IsList sx ws.toArray :=
    ⟨⟨_, by rw [← hI1]; exact Heap.get?_push_size _ rfl, rfl, rfl⟩, hl.push _⟩
  exact start1 (loop _ rfl) (W.self 0 _ _ _ st0 (loop _ rfl))
end
end Mine

end
section
open PySem PySem.W PyProof.Rows PySem.Spec PySem.Calls PyProof.Rows.LCg
set_option Elab.async false
namespace Mine
def pairsUp (xs ys : List Str) : List Str := xs.flatMap fun x => ys.map (x ++ ·)
section
variable {prog : Program} {w : World} {A : Around} {E : Value → Shared → Prop} {s : Shared} {h₀ : Heap} {m : Str → Option Value} {env : Env} {news : List (Addr × Obj)}

theorem strs_app {vs ws : List Value} {xs ys : List Str} (h : StrsAre vs xs) (k : StrsAre ws ys) : StrsAre (vs ++ ws) (xs ++ ys) := StrsAre.append' h k

/-- `y = [t + s for t in last for s in signs]` over two made lists of texts -/
theorem Assign_two {tN sN y : Str} {iter iter2 : Expr} {pt ps p1 p2 p3 pos py spos : Pos} {scope : Scope} {cl : List (Str × Addr)} {ax sx : Addr} {n1 n2 : Nat} {vs ws : List Value} {xs ys : List Str} {Q : Flow → Shared → Prop}
    (F : Fr h₀ env.locals s.heap m) (N : News h₀ env.locals s.heap news) (hh : A.handled = none)
    (hax : (ax, listOf vs.toArray n1) ∈ news) (hV : StrsAre vs xs) (hsx : (sx, listOf ws.toArray n2) ∈ news) (hW : StrsAre ws ys)
    (hxl : ∀ x ∈ xs, x.length ≤ 1000) (hyl : ∀ y ∈ ys, y.length ≤ 1000) (hvl : vs.length ≤ 1000) (hwl : ws.length ≤ 100)
    (hsw : swapsWith (.ListComp (eltTS tN sN p1 p2 p3) (gens2 tN sN iter iter2 pt ps) scope pos) (some (.Name y py)) spos.line env = pure true)
    (hclos : closureFor scope env = pure cl) (hcell : ∀ z ∈ scope.names, z.2 ≠ .cell) (hkind : scope.kind = .function)
    (hnames : ∀ z ∈ scope.names, z.2 = .local → scope.names.lookup z.1 = some .local) (htN : scope.names.lookup tN = some .local) (hsN : scope.names.lookup sN = some .local) (hne : tN ≠ sN)
    (hd1 : (tN == ("__debug__" : Str)) = false) (hd2 : (sN == ("__debug__" : Str)) = false)
    (hy : env.kindOf y = some .local) (hp : (env.scope.kind == .class || (env.scope.kind == .module && env.locals != env.globals)) = false)
    (hit : ∀ (Q : Value → Shared → Prop) (E : Value → Shared → Prop), Q (.ref ax) s → wpAny (model prog w) A (eval iter env) Q E s)
    (hit2 : ∀ (C : Addr) (s₂ : Shared) (Q : Value → Shared → Prop) (E : Value → Shared → Prop), (∀ p ∈ news, s₂.heap.get? p.1 = some p.2) → Q (.ref sx) s₂ → wpAny (model prog w) A (eval iter2 (compEnvC scope cl C env)) Q E s₂)
    (hs2 : ∀ (C : Addr) (x : Value), foldedSetIterable iter2 (compEnvC scope cl C env) x = pure x)
    (done : ∀ D us h tk, Fr h₀ env.locals h (fun z => if z = y then some (.ref D) else m z) → News h₀ env.locals h ((D, lst us) :: news) → (∀ p ∈ news, p.1 < D) → StrsAre us (pairsUp xs ys) → Q .next { s with heap := h, toks := tk })
    (hs : ∀ x, foldedSetIterable iter env x = pure x := by intro _; rfl) :
    wpAny (model prog w) A (exec (.Assign [.Name y py] (.ListComp (eltTS tN sN p1 p2 p3) (gens2 tN sN iter iter2 pt ps) scope pos) spos) env) Q E s := by
  rw [exec_Assign_Name_used _ _ _ _ hsw]
  refine wpAny_bind (wpAny_standAt (wpAny_bind ?_))
  show wpAny _ A (do let _ ← comprehension (.ListComp (eltTS tN sN p1 p2 p3) (gens2 tN sN iter iter2 pt ps) scope pos) scope env _ (newList []) false (eval iter env) (some (assign (.Name y py) env))) _ _ s
  refine wpAny_bind (wpAny_mono (wpAny_comprehension_free (use := some (assign (.Name y py) env)) (Q := fun _ s' => Q .next s') rfl hs hclos hkind hnames
    (hit _ _ ?_)) (fun _ s' hq => wpAny_pure (wpAny_pure hq)) fun _ _ e => e)
  have hl : s.heap.IsList ax vs.toArray := ⟨_, (N _ hax).1, rfl, _, rfl⟩
  have hlt : ax < s.heap.objs.size := Heap.lt_size (N _ hax).1
  have hsl : sx < s.heap.objs.size := Heap.lt_size (N _ hsx).1
  refine wpAny_pyIter_list hl ?_
  have W := Walks.list (prog := prog) (w := w) hh s.heap.objs.size ax (Nat.ne_of_lt hlt) vs.toArray
  have hlen : vs.toArray.size = vs.length := by simp
  rw [hlen] at W
  have up : ∀ b o, s.heap.get? b = some o → (s.heap.push { cls := .type "list_iterator", data := .fields #[.ref ax, .int 0 0] }).get? b = some o := fun b o e => Heap.get?_push_of_some _ e
  have hst0 : (s.heap.push { cls := .type "list_iterator", data := .fields #[.ref ax, .int 0 0] }).IsListIter s.heap.objs.size ax 0 ∧ (s.heap.push { cls := .type "list_iterator", data := .fields #[.ref ax, .int 0 0] }).IsList ax vs.toArray :=
    ⟨⟨_, Heap.get?_push_size _ rfl, rfl, rfl⟩, hl.push _⟩
  have hsz1 : (s.heap.push { cls := .type "list_iterator", data := .fields #[.ref ax, .int 0 0] }).objs.size = s.heap.objs.size + 1 := Heap.size_push _ _
  generalize hH1 : s.heap.push { cls := .type "list_iterator", data := .fields #[.ref ax, .int 0 0] } = H1 at up hst0 hsz1 ⊢
  refine wpAny_newObj_type (wpAny_newFunctionEnv hcell (by intro y hy; simp at hy) (fun h₁ hns₁ hsb₁ => ?_) hkind)
  dsimp only at hns₁ hsb₁ ⊢
  generalize hH2 : H1.push { cls := .type "list", dict := none, data := .seq ([] : List Value).toArray } = H2 at hns₁ hsb₁ ⊢
  have hC : H2.objs.size = s.heap.objs.size + 2 := by rw [← hH2, Heap.size_push, hsz1]
  -- the addresses
  have hacc : h₁.get? H1.objs.size = some (lst []) := hsb₁.extBut _ _ (by rw [hC, hsz1]; exact Nat.ne_of_lt (Nat.lt_succ_self _)) (Heap.get?_push_of_some _ (hH2 ▸ Heap.get?_push_size _ rfl))
  have old : ∀ b o, H1.get? b = some o → h₁.get? b = some o := fun b o e => hsb₁.extBut b o (by have := Heap.lt_size e; rw [hC]; rw [hsz1] at this; exact Nat.ne_of_lt (Nat.lt_succ_of_lt this)) (Heap.get?_push_of_some _ (hH2 ▸ Heap.get?_push_of_some _ e))
  have hLlt : env.locals < s.heap.objs.size := F.ns.lt
  have fresh₀ : ∀ a, s.heap.objs.size ≤ a → h₀.get? a = none := fun a ha => by
    cases e : h₀.get? a with
    | none => rfl
    | some o' => exact absurd (Heap.lt_size (F.keep a o' e)) (Nat.not_lt.mpr ha)
  have F₁ : Fr h₀ env.locals h₁ m := F.keeps fun b o e => old b o (up b o e)
  have N₁ : News h₀ env.locals h₁ news := N.grown fun b o e => old b o (up b o e)
  have hst1 := W.frame _ _ h₁ hst0 fun b _ o e => old b o e
  have hlow : ∀ p ∈ news, p.1 < s.heap.objs.size := fun p hp => Heap.lt_size (N p hp).1
  obtain ⟨I0, hI0⟩ : ∃ i, i = s.heap.objs.size := ⟨_, rfl⟩
  obtain ⟨D, hD⟩ : ∃ d, d = H1.objs.size := ⟨_, rfl⟩
  obtain ⟨C, hCe⟩ : ∃ c, c = H2.objs.size := ⟨_, rfl⟩
  have eD : D = I0 + 1 := by rw [hD, hsz1, hI0]
  have eC : C = I0 + 2 := by rw [hCe, hC, hI0]
  rw [← hI0] at W hst1 hLlt fresh₀ hlow
  show codeAny (model prog w) A (.compStart (.ListComp (eltTS tN sN p1 p2 p3) (gens2 tN sN iter iter2 pt ps) scope pos) 0 (.ref s.heap.objs.size) (.ref H1.objs.size) (compEnvC scope cl H2.objs.size env)) _ _
  rw [← hI0, ← hD, ← hCe]
  rw [← hD] at hacc
  rw [← hCe] at hns₁
  clear hsb₁ hH2 hH1 hst0 up old hsz1 hC
  have hIC : I0 < C := by omega
  have hID : I0 < D := by omega
  have hDCne : D ≠ C := by omega
  have nC : ∀ p ∈ news, p.1 ≠ C := fun p hp => Nat.ne_of_lt (Nat.lt_trans (hlow p hp) hIC)
  have nD : ∀ p ∈ news, p.1 ≠ D := fun p hp => Nat.ne_of_lt (Nat.lt_trans (hlow p hp) hID)
  have hCL : C ≠ env.locals := Nat.ne_of_gt (Nat.lt_trans hLlt hIC)
  have hDL : D ≠ env.locals := Nat.ne_of_gt (Nat.lt_trans hLlt hID)
  have hCn : h₀.get? C = none := fresh₀ _ (Nat.le_of_lt hIC)
  have hDn : h₀.get? D = none := fresh₀ _ (Nat.le_of_lt hID)
  have hxsl := hV.length
  -- the outer loop
  have loop : ∀ s₃ : Shared, s₃ = { s with heap := h₁, toks := s.toks + ([] : List (Str × Value)).length } →
      codeAny (model prog w) A (.compLoop (.ListComp (eltTS tN sN p1 p2 p3) (gens2 tN sN iter iter2 pt ps) scope pos) 0 (.ref I0) (.ref D) (compEnvC scope cl C env)) (compPost (model prog w) A E (some (assign (.Name y py) env)) (fun _ s' => Q .next s') (.ref D) C) s₃ := by
    rintro s₃ rfl
    refine loop0 (fun k s' => ∃ h' tk i us m', s' = { s with heap := h', toks := tk } ∧ i ≤ vs.length ∧ k = vs.length + 1 - i ∧ (h'.IsListIter I0 ax i ∧ h'.IsList ax vs.toArray) ∧ h'.Ns C m' ∧
        h'.get? D = some (lst us) ∧ StrsAre us (pairsUp (xs.take i) ys) ∧ Fr h₀ env.locals h' m ∧ News h₀ env.locals h' news) ?_ (vs.length + 1)
      ⟨h₁, _, 0, [], _, rfl, Nat.zero_le _, rfl, hst1, hns₁, hacc, by simpa [pairsUp] using StrsAre.nil, F₁, N₁⟩ (hs := hs2 C)
    rintro k s' ⟨h', tk, i, us, m', rfl, hi, rfl, hst, hn', hD', hU, F', N'⟩
    have hCI : C ∉ [I0] := fun q => by have := List.mem_singleton.mp q; omega
    have hDI : D ∉ [I0] := fun q => by have := List.mem_singleton.mp q; omega
    have hLI : env.locals ≠ I0 := Nat.ne_of_lt hLlt
    have hIn : h₀.get? I0 = none := fresh₀ _ (Nat.le_refl _)
    by_cases hlt' : i < vs.length
    · refine W.item i _ _ _ hlt' hst fun v h₂ tk₂ hP hst₂ hk₂ => ?_
      have hvi : vs[i]? = some v := by simpa using hP
      obtain ⟨x, tx, rfl, hxi⟩ := hV.item i v hvi
      have hxm : x ∈ xs := List.mem_of_getElem? hxi
      refine wpAny_assign_Name (wpAny_storeName_local (lookup_relabel_local htN) (hn'.at' fun o e => hk₂ _ o hCI e) (fun h₃ hn₃ hs₃ => ?_) (by simp [compEnvC, relabel, hkind]))
      have hn₃' : h₃.Ns C (fun z => if z = tN then some (.str x tx) else m' z) := hn₃
      have hs₃' : Heap.SameBut C h₂ h₃ := hs₃
      have hst₃ := W.frame _ _ h₃ hst₂ (fun b hb o e => hs₃'.extBut b o (fun q => by
        rcases List.mem_cons.mp hb with e1 | hb
        · exact hCI (List.mem_singleton.mpr (q.symm.trans e1))
        · exact nC _ hax ((List.mem_singleton.mp hb).symm.trans q)) e)
      have F₂ : Fr h₀ env.locals h₂ m := fr_but F' hk₂ hLI hIn
      have N₂ : News h₀ env.locals h₂ news := news_but N' hk₂ fun p hp => Nat.ne_of_lt (hlow p hp)
      have F₃ : Fr h₀ env.locals h₃ m := F₂.change hs₃' hCL hCn
      have N₃ : News h₀ env.locals h₃ news := fun p hp => ⟨hs₃'.extBut _ _ (nC p hp) (N₂ p hp).1, (N₂ p hp).2⟩
      have hD₃ : h₃.get? D = some (lst us) := hs₃'.extBut _ _ hDCne (hk₂ _ _ hDI hD')
      refine hit2 C _ _ _ (fun p hp => (N₃ p hp).1) ?_
      have hul : us.length = i * ys.length := by
        have := hU.length
        rw [this, pairsUp]
        have gen : ∀ l : List Str, (l.flatMap fun x => ys.map (x ++ ·)).length = l.length * ys.length := by
          intro l
          induction l with
          | nil => simp
          | cons a r ih => rw [List.flatMap_cons, List.length_append, ih, List.length_map, List.length_cons, Nat.succ_mul, Nat.add_comm]
        rw [gen, List.length_take]
        have : min i xs.length = i := by omega
        rw [this]
      have hyw := hW.length
      have hub : us.length ≤ 1000 * 100 := by
        rw [hul]
        exact Nat.mul_le_mul (by omega) (by omega)
      refine inner (s := { s with heap := h₃, toks := _ }) (cenv := compEnvC scope cl C env) (x := x) (tx := tx) (ys := ys) (ws := ws) (us := us) (D := D) (m := fun z => if z = tN then some (.str x tx) else m' z) hh (lookup_relabel_local hsN) (lookup_relabel_local htN) hne (by simp [compEnvC, relabel, hkind]) (by simp [compEnvC, relabel, hkind]) hd1 hd2
        ⟨_, (N₃ _ hsx).1, rfl, _, rfl⟩ hW hD₃ hn₃' (by rw [if_pos rfl]) (nC _ hsx) (nD _ hsx) hDCne (hxl x hxm) hyl (by omega) ?_
      intro h₄ tk₄ m₄ us' hn₄ hD₄ hU₄ hk₄
      have hk4 : ∀ b o, b ≠ C → b ≠ D → h₃.get? b = some o → h₄.get? b = some o := hk₄
      refine ⟨vs.length + 1 - (i + 1), by omega, h₄, _, i + 1, us ++ us', m₄, rfl, hlt', rfl, ?_, hn₄, hD₄, ?_, ?_, fun p hp => ?_⟩
      · refine W.frame _ _ h₄ hst₃ fun b hb o e => hk4 b o (fun q => ?_) (fun q => ?_) e
        · rcases List.mem_cons.mp hb with e1 | hb
          · exact hCI (List.mem_singleton.mpr (q.symm.trans e1))
          · exact nC _ hax ((List.mem_singleton.mp hb).symm.trans q)
        · rcases List.mem_cons.mp hb with e1 | hb
          · exact hDI (List.mem_singleton.mpr (q.symm.trans e1))
          · exact nD _ hax ((List.mem_singleton.mp hb).symm.trans q)
      · have e : pairsUp (xs.take (i + 1)) ys = pairsUp (xs.take i) ys ++ ys.map (x ++ ·) := by
          unfold pairsUp
          rw [List.take_add_one, hxi]
          simp
        rw [e]
        exact strs_app hU hU₄
      · exact ⟨F₃.ns.at' fun o e => hk4 _ o (Ne.symm hCL) (Ne.symm hDL) e, fun b o e => hk4 b o (fun q => by rw [q, hCn] at e; cases e) (fun q => by rw [q, hDn] at e; cases e) (F₃.keep b o e), F₃.above⟩
      · exact ⟨hk4 _ _ (nC p hp) (nD p hp) (N₃ p hp).1, (N₃ p hp).2⟩
    · obtain rfl : i = vs.length := Nat.le_antisymm hi (Nat.not_lt.mp hlt')
      refine W.done _ _ _ hst fun h₂ tk₂ hk₂ => ?_
      have F₂ : Fr h₀ env.locals h₂ m := fr_but F' hk₂ hLI hIn
      have N₂ : News h₀ env.locals h₂ news := news_but N' hk₂ fun p hp => Nat.ne_of_lt (hlow p hp)
      have hD₂ : h₂.get? D = some (lst us) := hk₂ _ _ hDI hD'
      have hn₂ : h₂.Ns C m' := hn'.at' fun o e => hk₂ _ o hCI e
      rw [hxsl, List.take_length] at hU
      show wpAny _ A (assign (.Name y py) env (.ref D)) _ _ _
      refine wpAny_assign_Name (wpAny_storeName_local hy F₂.ns (fun h₃ hn₃ hs₃ => ?_) hp)
      have hL₀ : h₀.get? env.locals = none := Heap.get?_none_of_le F₂.above
      have F₃ : Fr h₀ env.locals h₃ (fun z => if z = y then some (.ref D) else m z) := ⟨hn₃, fun b o e => hs₃.extBut b o (fun q => by rw [q, hL₀] at e; cases e) (F₂.keep b o e), F₂.above⟩
      refine ⟨m', hn₂.sameBut hs₃ hCL, fun h'' hs'' => done D us h'' _ (F₃.change hs'' hCL hCn) (fun p hp => ?_) (fun p hp => Nat.lt_trans (hlow p hp) hID) hU⟩
      rcases List.mem_cons.mp hp with rfl | hp
      · exact ⟨hs''.extBut _ _ hDCne (hs₃.extBut _ _ hDL hD₂), hDL, hDn⟩
      · exact ⟨hs''.extBut _ _ (nC p hp) (hs₃.extBut _ _ (N₂ p hp).2.1 (N₂ p hp).1), (N₂ p hp).2⟩
  exact codeAny_compStart_list (loop _ rfl) (W.self 0 _ _ _ hst1 (loop _ rfl))
end
end Mine
namespace Mine
section
variable {prog : Program} {w : World} {A : Around} {E : Value → Shared → Prop} {s : Shared} {h₀ : Heap} {m : Str → Option Value} {env : Env} {news : List (Addr × Obj)}
theorem Assign_names {tN sN y lx gx : Str} {pl pg pt ps p1 p2 p3 pos py spos : Pos} {scope : Scope} {cl : List (Str × Addr)} {ax sx ca : Addr} {oc : Obj} {n1 n2 : Nat} {vs ws : List Value} {xs ys : List Str} {Q : Flow → Shared → Prop}
    (F : Fr h₀ env.locals s.heap m) (N : News h₀ env.locals s.heap news) (hh : A.handled = none)
    (hm : m lx = some (.ref ax)) (hax : (ax, listOf vs.toArray n1) ∈ news) (hV : StrsAre vs xs) (hcell' : (ca, oc) ∈ news) (hoc : oc.data = .cell (some (.ref sx))) (hsx : (sx, listOf ws.toArray n2) ∈ news) (hW : StrsAre ws ys)
    (hxl : ∀ x ∈ xs, x.length ≤ 1000) (hyl : ∀ y ∈ ys, y.length ≤ 1000) (hvl : xs.length ≤ 1000) (hwl : ws.length ≤ 100)
    (hsw : swapsWith (.ListComp (eltTS tN sN p1 p2 p3) (gens2 tN sN (.Name lx pl) (.Name gx pg) pt ps) scope pos) (some (.Name y py)) spos.line env = pure true)
    (hclos : closureFor scope env = pure cl) (hcl : cl.lookup gx = some ca) (hcell : ∀ z ∈ scope.names, z.2 ≠ .cell) (hkind : scope.kind = .function)
    (hnames : ∀ z ∈ scope.names, z.2 = .local → scope.names.lookup z.1 = some .local) (htN : scope.names.lookup tN = some .local) (hsN : scope.names.lookup sN = some .local) (hne : tN ≠ sN)
    (hd1 : (tN == ("__debug__" : Str)) = false) (hd2 : (sN == ("__debug__" : Str)) = false) (hd3 : (lx == ("__debug__" : Str)) = false) (hd4 : (gx == ("__debug__" : Str)) = false)
    (hy : env.kindOf y = some .local) (hek : env.scope.kind = .function) (hlx : env.kindOf lx = some .local) (hp : (env.scope.kind == .class || (env.scope.kind == .module && env.locals != env.globals)) = false)
    (hgx : ∀ C : Addr, (compEnvC scope cl C env).kindOf gx = some .cell)
    (hs2 : ∀ (C : Addr) (x : Value), foldedSetIterable (.Name gx pg) (compEnvC scope cl C env) x = pure x)
    (hs : ∀ x, foldedSetIterable (.Name lx pl) env x = pure x)
    (done : ∀ D us h tk, Fr h₀ env.locals h (fun z => if z = y then some (.ref D) else m z) → News h₀ env.locals h ((D, listOf us.toArray us.length) :: news) → (∀ p ∈ news, p.1 < D) → StrsAre us (pairsUp xs ys) → Q .next { s with heap := h, toks := tk }) :
    wpAny (model prog w) A (exec (.Assign [.Name y py] (.ListComp (eltTS tN sN p1 p2 p3) (gens2 tN sN (.Name lx pl) (.Name gx pg) pt ps) scope pos) spos) env) Q E s :=
  Assign_two F N hh hax hV hsx hW hxl hyl (by rw [hV.length]; exact hvl) hwl hsw hclos hcell hkind hnames htN hsN hne hd1 hd2 hy hp
    (fun _ _ h => wpAny_Name (wpAny_loadName_local hek hlx F.ns hm h) hd3)
    (fun C s₂ _ _ hall h => wpAny_Name (wpAny_loadName_cell (by simp [compEnvC, relabel, hkind]) (hgx C) hcl ⟨oc, hall _ hcell', hoc⟩ h) hd4)
    hs2 done hs
end
end Mine
namespace Mine
section
variable {prog : Program} {w : World} {A : Around} {E : Value → Shared → Prop} {s : Shared} {h₀ : Heap} {L : Addr} {m : Str → Option Value} {news : List (Addr × Obj)} {Q : Value → Shared → Prop}
theorem add_made {l b : Addr} {vs ws : List Value} {n1 n2 : Nat} {xs ys : List Str} (F : Fr h₀ L s.heap m) (N : News h₀ L s.heap news) (ha : (l, listOf vs.toArray n1) ∈ news) (hb : (b, listOf ws.toArray n2) ∈ news)
    (hV : StrsAre vs xs) (hW : StrsAre ws ys) (hsz : xs.length + ys.length ≤ 16777216)
    (h : ∀ D us h', Fr h₀ L h' m → News h₀ L h' ((D, listOf us.toArray 0) :: news) → (∀ p ∈ news, p.1 < D) → StrsAre us (xs ++ ys) → Q (.ref D) { s with heap := h' }) :
    wpAny (model prog w) A (binaryOp .Add (.ref l) (.ref b)) Q E s := by
  have h1 := hV.length
  have h2 := hW.length
  refine add_lists (vs := vs) (ws := ws) (hsz := by rw [sizeLine_eq]; omega) F N ⟨_, (N _ ha).1, rfl, _, rfl⟩ ⟨_, (N _ hb).1, rfl, _, rfl⟩ fun h' F' N' => ?_
  exact h _ (vs ++ ws) h' F' N' (fun p hp => Heap.lt_size (N p hp).1) (strs_app hV hW)
end
theorem pairs_len {xs ys : List Str} {a b : Nat} (hx : ∀ x ∈ xs, x.length ≤ a) (hy : ∀ y ∈ ys, y.length ≤ b) : ∀ z ∈ pairsUp xs ys, z.length ≤ a + b := by
  intro z hz
  obtain ⟨x, hx1, hz⟩ := List.mem_flatMap.mp hz
  obtain ⟨y, hy1, rfl⟩ := List.mem_map.mp hz
  have h1 := hx x hx1
  have h2 := hy y hy1
  rw [Str.length_append]
  omega
theorem pairs_count (xs ys : List Str) : (pairsUp xs ys).length = xs.length * ys.length := by
  unfold pairsUp
  induction xs with
  | nil => simp
  | cons a r ih => rw [List.flatMap_cons, List.length_append, ih, List.length_map, List.length_cons, Nat.succ_mul, Nat.add_comm]
def wordsN (ys : List Str) : Nat → List Str
  | 0 => [Str.ofString ""]
  | n + 1 => pairsUp (wordsN ys n) ys
def allTexts (ys : List Str) : List Str := ((([] ++ wordsN ys 1) ++ wordsN ys 2) ++ wordsN ys 3) ++ wordsN ys 4
theorem words_len {ys : List Str} (hy : ∀ y ∈ ys, y.length ≤ 10) : ∀ n, ∀ x ∈ wordsN ys n, x.length ≤ 10 * n
  | 0 => by intro x hx; rw [List.mem_singleton.mp hx]; decide +kernel
  | n + 1 => by
    intro x hx
    have := pairs_len (words_len hy n) hy x hx
    omega
theorem words_count (ys : List Str) : ∀ n, (wordsN ys n).length = ys.length ^ n
  | 0 => rfl
  | n + 1 => by
    show (pairsUp (wordsN ys n) ys).length = _
    rw [pairs_count, words_count ys n, Nat.pow_succ]
theorem words_le {ys : List Str} (h : ys.length ≤ 4) (n : Nat) : (wordsN ys n).length ≤ 4 ^ n := by
  rw [words_count]; exact Nat.pow_le_pow_left h n
theorem news_sub {h₀ h : Heap} {L : Addr} {news small : List (Addr × Obj)} (N : News h₀ L h news) (hs : ∀ p ∈ small, p ∈ news) : News h₀ L h small := fun p hp => N p (hs p hp)
end Mine
namespace Mine
theorem zeroW (ys : List Str) (t : Tok) : StrsAre [Value.str (Str.ofString "") t] (wordsN ys 0) := .cons _ _ .nil
end Mine

end
section
open PySem PySem.W PyProof.Rows PySem.Spec PySem.Calls
set_option Elab.async false
set_option maxRecDepth 100000
set_option maxHeartbeats 8000000
namespace Mine
def pool : List Nat := [97, 61, 59, 32, 9, 233, 8364, 90]
def sgnC (x : Int) : Nat := if x.fmod 2 = 0 then pool.getD ((x.fdiv 2).fmod 8).toNat 0 else (32 + (x.fdiv 2).fmod 8000).toNat
def sgn (x : Int) : Str := ⟨#[sgnC x]⟩
theorem sgn_even {x : Int} {k : Int} {s : Str} (h : x.fmod 2 = 0) (hk : (x.fdiv 2).fmod 8 = k) (hs : s = ⟨#[pool.getD k.toNat 0]⟩) : sgn x = s := by
  subst hk; unfold sgn sgnC; rw [if_pos h, hs]

theorem sgn_odd {x : Int} (h : x.fmod 2 ≠ 0) : sgn x = ⟨#[(32 + (x.fdiv 2).fmod 8000).toNat]⟩ := by unfold sgn sgnC; rw [if_neg h]
theorem sign_tells (w : World) (mean : ExcName → Option Value) (mg mb : Str → Option Value) (news : List (Addr × Obj)) (x : Int) (t : Tok) :
    CbClaim PySem.Challenge.rw_dm5018_01.row.prog w (Mine.hd.heap_39 w.params) Mine.hd.view_39 (looseW Mine.hd.view_39 [Str.ofString "tspecials", Str.ofString "_formatparam"]) mean mg mb 53 news [] True [.int x t] (fun t => .str (sgn x) t) := by
  k_with_none
  k_fill
  dsimp only [CbClaim, CbLists, CbRet]; intros; rename_i hret
  refine wpAny_call ?_
  k_dflt cell_enter
  k_steps
  all_goals first
    | (refine hret_as hret _ (congrArg (fun s => Value.str s _) (sgn_odd (by assumption))) ?_ ?_ <;> assumption)
    | (refine hret_as hret _ (congrArg (fun s => Value.str s _) (sgn_even (by assumption) (by assumption) (by decide +kernel))) ?_ ?_ <;> assumption)

theorem gen_toks {α : Type} {M : Model} {A : Around} {E : Value → Shared → Prop} {t : Sem α} {Q : α → Shared → Prop} {h : Heap} {g : Array GenState} {d : Drawn} {o : OsState} {n : Nat}
    (H : ∀ tk : Nat, 0 < tk → wpAny M A t Q E ⟨h, g, d, tk, o⟩) : wpAny M A t Q E ⟨h, g, d, n + 1, o⟩ := H (n + 1) (Nat.succ_pos n)
def fmtS (p v : Str) : Str := p ++ Str.ofString "=\"" ++ escS v ++ Str.ofString "\""
theorem fmtS_eq (p v : Str) : Str.empty ++ p ++ Str.ofString "=\"" ++ escS v ++ Str.ofString "\"" = fmtS p v := by unfold fmtS; rw [Str.empty_append]
theorem format_tells (w : World) (mean : ExcName → Option Value) (mg mb : Str → Option Value) (news : List (Addr × Obj)) (p v : Str) (t u : Tok) :
    CbClaim PySem.Challenge.rw_dm5018_01.row.prog w (Mine.hd.heap_39 w.params) Mine.hd.view_39 (looseW Mine.hd.view_39 [Str.ofString "tspecials", Str.ofString "_formatparam"]) mean mg mb 44 news [] (p.length ≤ 100 ∧ 0 < v.length ∧ v.length ≤ 1000) [.str p t, .str v u] (fun t => .str (fmtS p v) t) := by
  k_with_none
  k_fill
  dsimp only [CbClaim, CbLists, CbRet]; intros; rename_i hp _ _ hret
  obtain ⟨hp1, hp2, hp3⟩ := hp
  refine wpAny_call ?_
  k_dflt (refine' code_def ?k1 ?k2 ?k3 ?k4 ?k5 ?kA ?kF ?kK ?k6 ?k7 ?k8 ?k9 ?kB ?_ ?c2 ?c3 ?c4 ?c5; (case kA => exact rfl); (case kF => exact rfl); (case kK => assumption); (case k1 => k_asm); (case k2 => k_asm); (case k3 => k_asm); (case k4 => k_asm); (case k5 => k_asm); (case k6 => k_is); (case k7 => k_is); (case k8 => ktr_room); (case k9 => exact binds_K (by k_in) rfl (by k_is) rfl rfl rfl); (case c5 => decide); (case kB => exact locs rfl); (case c2 => exact rfl); (case c3 => exact rfl); (case c4 => exact rfl); k_whole; intro g' L' h' FG' F' N' B' X' T'; (try dsimp only); (try k_lift B'); (try k_fold))
  k_with "execs cons" => (refine gen_toks ?_; intro tk htk)
  k_with "call builtin:str.replace" => (refine replace_on (by (show @Ne Nat _ _); omega) (by (show @Ne Nat _ _); omega) (by (show @Ne Nat _ _); omega) (by decide +kernel) (by first | omega | exact Nat.le_trans (replace_b_len _ 1000 hp3) (by decide)) (by decide +kernel) ?_; intro t' k' hk'; dsimp only at hk'; try (rw [replace_esc]; have hesc := escS_length_le v))
  k_steps
  exact hret_as hret _ (congrArg (fun z => Value.str z _) (fmtS_eq p v).symm) (by assumption) (by assumption)
end Mine

end
section
open PySem PySem.W PyProof.Rows PySem.Spec PySem.Calls
set_option Elab.async false
set_option maxRecDepth 100000
set_option maxHeartbeats 8000000
namespace Mine
theorem reader_tells (w : World) (mean : ExcName → Option Value) (mg mb : Str → Option Value) (news : List (Addr × Obj)) (x : Str) (t : Tok) :
    CbClaim PySem.Challenge.rw_dm5018_01.row.prog w (Mine.hd.heap_39 w.params) Mine.hd.view_39 (looseW Mine.hd.view_39 [Str.ofString "tspecials", Str.ofString "_formatparam"]) mean mg mb 60 news [] (x.length ≤ 1000) [.str x t] (rdVal x) := by
  k_with_none
  k_fill
  dsimp only [CbClaim, CbLists, CbRet]; intros; rename_i hx _ _ hret
  refine wpAny_call ?_
  k_dflt cell_enter
  k_with "exec While Compare cons nil" => (
    (rename Fr _ _ _ _ => lF'); (rename News _ _ _ _ => lN');
    (with_unfolding_all refine' ksw_while (fun _ => news) rdPs (fun _ => True) [Str.ofString "sign"] (rdP x) (fun c => x.length - c.2.2.1.toNat) (_, _, 0, _) lF' lN' trivial ?kk (rdP_start _ _ _) ?_);
    (case kk => kst_all);
    clear lF' lN';
    rintro ⟨o, t1, at', t2⟩ u h tk _ ⟨n, hn, hp1, hp2, hp3⟩ F' N';
    dsimp only at hn; subst hn;
    dsimp only [rdPs, kstB] at F' hp1 hp2 hp3)
  k_steps
  all_goals first
    | (refine hret_as hret 0 (e_quote _ hp3 (by assumption) (by assumption)) ?_ ?_ <;> first | assumption | exact news_drop (by assumption))
    | (refine hret_as hret 0 (e_end _ hp3 (by assumption) (by assumption) (by assumption)) ?_ ?_ <;> first | assumption | exact news_drop (by assumption))
    | (refine hret_as hret 0 (e_not _ hp3 (by assumption) (by assumption) hp1 (by assumption) (by assumption)) ?_ ?_ <;> first | assumption | exact news_drop (by assumption))
    | (refine hret_as hret _ (e_done _ hp3 (by omega)) ?_ ?_ <;> first | assumption | exact news_drop (by assumption))
    | skip
  · (rename Fr _ _ _ _ => lF'); (rename News _ _ _ _ => lN')
    with_unfolding_all refine' ksw_end (_, _, _, _) lF' lN' ?hn trivial ?hk ?hr (e_two hp3 hp2 (by assumption) (by assumption) hp1 (by assumption) (by assumption)) ?hm
    case hn => exact fun p hp => .tail _ hp
    case hk => kst_all
    case hr => (dsimp only [rdPs]; ksw_same)
    case hm => (dsimp only; omega)
  · (rename Fr _ _ _ _ => lF'); (rename News _ _ _ _ => lN')
    with_unfolding_all refine' ksw_end (_, _, _, _) lF' lN' ?hn trivial ?hk ?hr (e_one hp3 hp2 (by assumption) (by assumption) (by assumption)) ?hm
    case hn => exact fun p hp => hp
    case hk => kst_all
    case hr => (dsimp only [rdPs]; ksw_same)
    case hm => (dsimp only; omega)
end Mine

end
section
open PySem PySem.W PyProof.Rows PySem.Spec PySem.Calls
set_option Elab.async false
set_option maxRecDepth 100000
set_option maxHeartbeats 8000000
namespace Mine
theorem texts_tells (w : World) (mean : ExcName → Option Value) (mg mb : Str → Option Value) (news : List (Addr × Obj)) (sx : Addr) (n2 : Nat) (ws : List Value) (ys : List Str)
    (hsx : (sx, listOf ws.toArray n2) ∈ news) (hW : StrsAre ws ys) (hyl : ∀ y ∈ ys, y.length ≤ 10) (hys : ys.length ≤ 4)
    (dp un : Nat) (gd : Option (List Code)) (cn : Str) (cs : Scope) (a : Addr) (ccd : Value) (cl : List (Str × Addr)) (outer : List Env) (A₀ : Around) (base h₀ : Heap) (L : Addr) (m : Str → Option Value) (s : Shared) (Q E : Value → Shared → Prop)
    (hB : Below A₀ base outer h₀) (hF : Fr h₀ L s.heap m) (hK : (Mine.hd.heap_39 w.params).In h₀) (hN : News h₀ L s.heap news) (hT : Top Mine.hd.view_39 (looseW Mine.hd.view_39 [Str.ofString "tspecials", Str.ofString "_formatparam"]) mean mg mb h₀) (hk : cs.kind = .function)
    (hdp : dp + 1 < recursionLimit) (hun : un + 8 < cLine)
    (hret : ∀ D us n h' tk', Fr h₀ L h' m → News h₀ L h' ((D, listOf us.toArray n) :: news) → (∀ p ∈ news, p.1 < D) → StrsAre us (allTexts ys) → Q (.ref D) { s with heap := h', toks := tk' }) :
    wpAny (model PySem.Challenge.rw_dm5018_01.row.prog w) (ktrTop dp un gd cn cs L a ccd cl outer) (call (.ref 65) [.ref sx]) Q E s := by
  k_with_none
  revert hK
  k_fill
  intro hK
  refine wpAny_call ?_
  k_dflt (refine' code_defC ?k1 ?k2 ?k3 ?k4 ?k5 ?kA ?kF ?kK ?k6 ?k7 ?k8 ?k9 ?kB ?kD ?_ ?c2 ?c3 ?c4; (case kA => exact rfl); (case kF => exact rfl); (case kK => assumption); (case k1 => k_asm); (case k2 => k_asm); (case k3 => k_asm); (case k4 => k_asm); (case k5 => k_asm); (case k6 => k_is); (case k7 => k_is); (case k8 => ktr_room); (case k9 => exact BindsTo.of_eq rfl); (case kB => exact rfl); (case kD => decide +kernel); (case c2 => exact rfl); (case c3 => exact rfl); (case c4 => exact rfl); k_whole; intro g' L' h' tk' cells' FG' F' N' Y' B' X' T' l1; (try k_lt l1); k_cells Y'; (try simp only [List.cons_append, List.nil_append] at N'); (try dsimp only); (try k_lift B'); (try k_fold))
  have hwl : ws.length ≤ 100 := by have := hW.length; omega
  have hyl' : ∀ y ∈ ys, y.length ≤ 1000 := fun y hy => Nat.le_trans (hyl y hy) (by decide)
  (rename Obj.data _ = _ => hcd)
  replace hcd : Obj.data _ = Data.cell (some (.ref sx)) := hcd
  have hK0 : ∀ p ∈ news, p.1 < L' := by assumption
  (rename Obj => oc)
  k_with "exec Assign" => (
    (rename Fr _ _ _ _ => lF'); (rename News _ _ _ _ => lN');
    (with_unfolding_all refine' Assign_names lF' lN' ?hh ?hm ?hax ?hV ?hcell' hcd ?hsx hW ?hxl hyl' ?hvl hwl ?hsw ?hclos ?hcl ?hcell ?hkind ?hnames ?htN ?hsN ?hne ?hd1 ?hd2 ?hd3 ?hd4 ?hy ?hek ?hlx ?hp ?hgx ?hs2 ?hs ?_);
    (case hh => exact rfl); (case hm => exact rfl); (case hax => k_mem);
    (case hV => first | assumption | exact zeroW ys _);
    (case hcell' => k_mem); (case hsx => (repeat (first | exact hsx | refine List.Mem.tail _ ?_)));
    (case hxl => exact fun x hx => Nat.le_trans (words_len hyl _ x hx) (by decide));
    (case hvl => exact Nat.le_trans (words_le hys _) (by decide));
    (case hsw => exact rfl); (case hclos => exact rfl); (case hcl => exact rfl); (case hcell => decide); (case hkind => exact rfl); (case hnames => decide);
    (case htN => exact rfl); (case hsN => exact rfl); (case hne => decide); (case hd1 => decide); (case hd2 => decide); (case hd3 => decide); (case hd4 => decide);
    (case hy => exact rfl); (case hek => exact rfl); (case hlx => exact rfl); (case hp => exact rfl); (case hgx => exact fun _ => rfl); (case hs2 => exact fun _ _ => rfl); (case hs => exact fun _ => rfl);
    clear lF' lN';
    intro Dl ul hl tkl F' N' l1 hUl; (try k_lt l1);
    (first | replace hUl : StrsAre _ (wordsN ys 1) := hUl | replace hUl : StrsAre _ (wordsN ys 2) := hUl | replace hUl : StrsAre _ (wordsN ys 3) := hUl | replace hUl : StrsAre _ (wordsN ys 4) := hUl))
  k_with "binaryOp Add ref ref" => (
    (rename Fr _ _ _ _ => lF'); (rename News _ _ _ _ => lN');
    (with_unfolding_all refine' add_made lF' lN' ?ha ?hb ?hV ?hW ?hz ?_);
    (case ha => k_mem); (case hb => k_mem); (case hV => first | assumption | exact StrsAre.nil); (case hW => assumption);
    (case hz => have h1 := words_le hys 1; have h2 := words_le hys 2; have h3 := words_le hys 3; have h4 := words_le hys 4; simp only [List.length_append, List.length_nil]; omega);
    clear lF' lN';
    intro Dt ut ht F' N' l1 hUt; (try have hK1 : ∀ p ∈ news, p.1 < Dt := fun p hp => l1 p (by repeat (first | exact hp | refine List.Mem.tail _ ?_))); (try k_lt l1))
  k_with "UnrEnd" => (
    (rename Fr _ _ _ _ => lF'); (rename News _ _ _ _ => lN');
    (with_unfolding_all refine' UnrEnd.intro lF' lN' ((Dt, listOf ut.toArray 0) :: (Dl, listOf ul.toArray ul.length) :: (L' + 1, oc) :: news) ?sub ?off ?_);
    (case sub => (repeat' (first | refine List.forall_mem_cons.mpr ⟨by k_mem, ?_⟩ | exact fun p hp => (by repeat (first | exact hp | refine List.Mem.tail _ ?_)))));
    (case off => (repeat' (first | refine List.forall_mem_cons.mpr ⟨by k_ne, ?_⟩ | exact fun p hp => (by have := ltN (hK0 p hp); k_ne))));
    clear lF' lN')
  k_steps
  (rename News _ _ _ _ => lN')
  exact hret Dt ut 0 _ _ (by assumption) (news_sub lN' (List.forall_mem_cons.mpr ⟨by k_mem, fun p hp => (by repeat (first | exact hp | refine List.Mem.tail _ ?_))⟩)) hK1 hUt
end Mine

end
section
open PySem PySem.W PyProof.Rows PySem.Spec PySem.Calls
set_option Elab.async false
set_option maxRecDepth 100000
set_option maxHeartbeats 8000000
namespace Mine
section
variable {w : World} {mean : ExcName → Option Value} {mg mb : Str → Option Value} {news : List (Addr × Obj)}
  {dp un : Nat} {gd : Option (List Code)} {cn : Str} {cs : Scope} {a : Addr} {ccd : Value} {cl : List (Str × Addr)} {outer : List Env} {A₀ : Around} {base h₀ : Heap} {L : Addr} {m : Str → Option Value} {s : Shared} {Q E : Value → Shared → Prop}
theorem reader_call {x : Str} {t : Tok} (hB : Below A₀ base outer h₀) (hF : Fr h₀ L s.heap m) (hK : (Mine.hd.heap_39 w.params).In h₀) (hN : News h₀ L s.heap news) (hT : Top Mine.hd.view_39 (looseW Mine.hd.view_39 [Str.ofString "tspecials", Str.ofString "_formatparam"]) mean mg mb h₀) (hk : cs.kind = .function)
    (hx : x.length ≤ 1000) (hdp : dp + 1 < recursionLimit) (hun : un + 8 < cLine)
    (hret : ∀ t h' tk', Fr h₀ L h' m → News h₀ L h' news → Q (rdVal x t) { s with heap := h', toks := tk' }) :
    wpAny (model PySem.Challenge.rw_dm5018_01.row.prog w) (ktrTop dp un gd cn cs L a ccd cl outer) (call (.ref 60) [.str x t]) Q E s :=
  reader_tells w mean mg mb news x t dp un gd cn cs a ccd cl outer A₀ base h₀ L m s Q E hB hF hK hN hT hk hx hdp hun hret
theorem sign_call {x : Int} {t : Tok} (hB : Below A₀ base outer h₀) (hF : Fr h₀ L s.heap m) (hK : (Mine.hd.heap_39 w.params).In h₀) (hN : News h₀ L s.heap news) (hT : Top Mine.hd.view_39 (looseW Mine.hd.view_39 [Str.ofString "tspecials", Str.ofString "_formatparam"]) mean mg mb h₀) (hk : cs.kind = .function)
    (hdp : dp + 1 < recursionLimit) (hun : un + 8 < cLine)
    (hret : ∀ t h' tk', Fr h₀ L h' m → News h₀ L h' news → Q (.str (sgn x) t) { s with heap := h', toks := tk' }) :
    wpAny (model PySem.Challenge.rw_dm5018_01.row.prog w) (ktrTop dp un gd cn cs L a ccd cl outer) (call (.ref 53) [.int x t]) Q E s :=
  sign_tells w mean mg mb news x t dp un gd cn cs a ccd cl outer A₀ base h₀ L m s Q E hB hF hK hN hT hk trivial hdp hun hret
theorem format_call {p v : Str} {t u : Tok} (hB : Below A₀ base outer h₀) (hF : Fr h₀ L s.heap m) (hK : (Mine.hd.heap_39 w.params).In h₀) (hN : News h₀ L s.heap news) (hT : Top Mine.hd.view_39 (looseW Mine.hd.view_39 [Str.ofString "tspecials", Str.ofString "_formatparam"]) mean mg mb h₀) (hk : cs.kind = .function)
    (hp : p.length ≤ 100) (hv0 : 0 < v.length) (hv : v.length ≤ 1000) (hdp : dp + 1 < recursionLimit) (hun : un + 8 < cLine)
    (hret : ∀ t h' tk', Fr h₀ L h' m → News h₀ L h' news → Q (.str (fmtS p v) t) { s with heap := h', toks := tk' }) :
    wpAny (model PySem.Challenge.rw_dm5018_01.row.prog w) (ktrTop dp un gd cn cs L a ccd cl outer) (call (.ref 44) [.str p t, .str v u]) Q E s :=
  format_tells w mean mg mb news p v t u dp un gd cn cs a ccd cl outer A₀ base h₀ L m s Q E hB hF hK hN hT hk ⟨hp, hv0, hv⟩ hdp hun hret
theorem texts_call {sx : Addr} {n2 : Nat} {ws : List Value} {ys : List Str} (hsx : (sx, listOf ws.toArray n2) ∈ news) (hW : StrsAre ws ys) (hyl : ∀ y ∈ ys, y.length ≤ 10) (hys : ys.length ≤ 4)
    (hB : Below A₀ base outer h₀) (hF : Fr h₀ L s.heap m) (hK : (Mine.hd.heap_39 w.params).In h₀) (hN : News h₀ L s.heap news) (hT : Top Mine.hd.view_39 (looseW Mine.hd.view_39 [Str.ofString "tspecials", Str.ofString "_formatparam"]) mean mg mb h₀) (hk : cs.kind = .function)
    (hdp : dp + 1 < recursionLimit) (hun : un + 8 < cLine)
    (hret : ∀ D us n h' tk', Fr h₀ L h' m → News h₀ L h' ((D, listOf us.toArray n) :: news) → (∀ p ∈ news, p.1 < D) → StrsAre us (allTexts ys) → Q (.ref D) { s with heap := h', toks := tk' }) :
    wpAny (model PySem.Challenge.rw_dm5018_01.row.prog w) (ktrTop dp un gd cn cs L a ccd cl outer) (call (.ref 65) [.ref sx]) Q E s :=
  texts_tells w mean mg mb news sx n2 ws ys hsx hW hyl hys dp un gd cn cs a ccd cl outer A₀ base h₀ L m s Q E hB hF hK hN hT hk hdp hun hret
end
end Mine

end
section
open PySem PySem.W PyProof.Rows PySem.Spec PySem.Calls PyProof.Rows.LCg
set_option Elab.async false
namespace Mine
section
variable {prog : Program} {w : World} {A : Around} {E : Value → Shared → Prop} {s : Shared} {env : Env} {h₀ : Heap} {x : Str} {body : List Stmt} {Q : Flow → Shared → Prop}

def KvEnd {σ : Type} (h₀ : Heap) (L : Addr) (s₁ : Shared) (Led : σ → List (Addr × Obj)) (stored : List Str) (m₀ : Str → Option Value) (P : Nat → σ → Prop) (i : Nat) (own : List (Addr × Obj)) (s₂ : Shared) : Prop :=
  ∃ (c' : σ) (h' : Heap) (tk : Nat) (m' : Str → Option Value) (news' : List (Addr × Obj)), s₂ = { s₁ with heap := h', toks := tk } ∧ Fr h₀ L h' m' ∧ News h₀ L h' news' ∧ (∀ p ∈ Led c', p ∈ news') ∧ (∀ p ∈ own, p ∈ news') ∧
    (∀ z, stored.contains z = false → m' z = m₀ z) ∧ P (i + 1) c'
def KvPost {σ : Type} (h₀ : Heap) (L : Addr) (s₁ : Shared) (Led : σ → List (Addr × Obj)) (stored : List Str) (m₀ : Str → Option Value) (P : Nat → σ → Prop) (i : Nat) (own : List (Addr × Obj)) (Q : Flow → Shared → Prop) (f : Flow) (s₂ : Shared) : Prop :=
  match f with
  | .ret v => Q (.ret v) s₂
  | .brk => Q .next s₂
  | _ => KvEnd h₀ L s₁ Led stored m₀ P i own s₂

theorem kv_fr {L : Addr} {h : Heap} {stored : List Str} {m₀ m₁ : Str → Option Value} {v : Value} (h2 : ∀ z, stored.contains z = false → m₁ z = m₀ z)
    (F : Fr h₀ L h (fun y => if y = x then some v else m₁ y)) : Fr h₀ L h (fun y => if y = x then some v else if stored.contains y then m₁ y else m₀ y) := by
  have em : (fun y => if y = x then some v else if stored.contains y then m₁ y else m₀ y) = fun y => if y = x then some v else m₁ y := by
    funext y
    by_cases hy : y = x
    · rw [if_pos hy, if_pos hy]
    · rw [if_neg hy, if_neg hy]
      cases h3 : stored.contains y with
      | true => simp
      | false => simp only [Bool.false_eq_true, if_false]; exact (h2 y h3).symm
  rw [em]; exact F
theorem kv_frOut {L : Addr} {h : Heap} {stored : List Str} {m₀ m₁ : Str → Option Value} (h2 : ∀ z, stored.contains z = false → m₁ z = m₀ z)
    (F : Fr h₀ L h m₁) : Fr h₀ L h (fun y => if stored.contains y then m₁ y else m₀ y) := by
  have em : (fun y => if stored.contains y then m₁ y else m₀ y) = m₁ := by
    funext y
    cases h3 : stored.contains y with
    | true => simp
    | false => simp only [Bool.false_eq_true, if_false]; exact (h2 y h3).symm
  rw [em]; exact F

theorem iter_vals {σ : Type} {l : Addr} {vs : List Value} {nn : Nat} {m₀ : Str → Option Value} (Led : σ → List (Addr × Obj)) (stored : List Str) (P : Nat → σ → Prop) (adr : List Addr) (c₀ : σ)
    (hh : A.handled = none) (hl : ∀ c, (l, listOf vs.toArray nn) ∈ Led c) (hadr : ∀ c, (Led c).map (·.1) = adr) (F : Fr h₀ env.locals s.heap m₀) (N : News h₀ env.locals s.heap (Led c₀)) (hp : P 0 c₀)
    (turn : ∀ (c : σ) i v (u : Str → Option Value) h tk own, vs[i]? = some v → OwnOff own adr → P i c →
      Fr h₀ env.locals h (fun y => if y = x then some v else if stored.contains y then u y else m₀ y) → News h₀ env.locals h (Led c ++ own) →
      wpAny (model prog w) A (execs body env) (KvPost h₀ env.locals { s with heap := h, toks := tk } Led stored m₀ P i own Q) E { s with heap := h, toks := tk })
    (done : ∀ (c : σ) (u : Str → Option Value) h tk, P vs.length c → Fr h₀ env.locals h (fun y => if stored.contains y then u y else m₀ y) → News h₀ env.locals h (Led c) → Q .next { s with heap := h, toks := tk }) :
    wpAny (model prog w) A (pyIter (.ref l)) (fun it s₂ => LoopAtV prog w A h₀ env x body Q E it s₂) E s := by
  have hol : s.heap.get? l = some (listOf vs.toArray nn) := (N _ (hl c₀)).1
  have hls : s.heap.IsList l vs.toArray := ⟨_, hol, rfl, nn, rfl⟩
  have hne : l ≠ s.heap.objs.size := Nat.ne_of_lt (Heap.lt_size hol)
  refine wpAny_pyIter_list hls ?_
  have W := Walks.list (prog := prog) (w := w) hh s.heap.objs.size l hne vs.toArray
  have hlen : vs.toArray.size = vs.length := by simp
  rw [hlen] at W
  refine ⟨_, _, _, vs.length, _, _, m₀, Led c₀, (fun i m nx => ∃ c : σ, nx = Led c ∧ P i c ∧ ∀ z, stored.contains z = false → m z = m₀ z), rfl, W, ?_, ?_, ?_, ⟨⟨_, Heap.get?_push_size _ rfl, rfl, rfl⟩, hls.at fun o e => Heap.get?_push_of_some _ e⟩, F.push _, (fun p hp => ⟨Heap.get?_push_of_some _ (N p hp).1, (N p hp).2⟩), ⟨c₀, rfl, hp, fun _ _ => rfl⟩, ?_, ?_⟩
  · intro hm
    rcases List.mem_cons.mp hm with e | hm
    · exact absurd F.ns.lt (e ▸ Nat.lt_irrefl _)
    · exact (N _ (hl c₀)).2.1 ((List.mem_singleton.mp hm).symm)
  · intro b hb
    rw [List.mem_singleton.mp hb]
    exact next_is_new F
  · intro p hp hI
    exact absurd (Heap.lt_size (N p hp).1) ((List.mem_singleton.mp hI) ▸ Nat.lt_irrefl _)
  · rintro i v m₁ news₁ s₁ own ⟨hh', tk', rfl⟩ hin hP ⟨c, rfl, hPc, hm⟩ hoff hown hget hfp _ F₁ N₁
    have hnb : ∀ q ∈ Led c₀, q.1 ≠ s.heap.objs.size := fun q hq e => absurd (Heap.lt_size (N q hq).1) (by rw [e]; exact Nat.lt_irrefl _)
    have hsep : OwnOff (own.filter fun p => decide (p.1 = s.heap.objs.size)) adr := by
      intro p hp b hb e
      rw [← hadr c₀] at hb
      obtain ⟨q, hq, rfl⟩ := List.mem_map.mp hb
      have h1 : p.1 = s.heap.objs.size := by simpa using (List.mem_filter.mp hp).2
      exact hnb q hq (e ▸ h1)
    have hv : vs[i]? = some v := by simpa using hP
    have N₂ : News h₀ env.locals hh' (Led c ++ own.filter fun p => decide (p.1 = s.heap.objs.size)) := fun p hp => N₁ p ((List.mem_append.mp hp).elim (fun h => List.mem_append.mpr (.inr h)) fun h => List.mem_append.mpr (.inl ((List.mem_filter.mp h).1)))
    have hlo : hh'.get? l = some (listOf vs.toArray nn) := (N₁ _ (List.mem_append.mpr (.inr (hl c)))).1
    refine wpAny_mono (turn c i v m₁ hh' tk' _ hv hsep hPc (kv_fr hm F₁) N₂) (fun f s₂ p => ?_) fun _ _ e => e
    have fin : KvEnd h₀ env.locals { s with heap := hh', toks := tk' } Led stored m₀ P i (own.filter fun p => decide (p.1 = s.heap.objs.size)) s₂ →
        LoopStepU h₀ env.locals [s.heap.objs.size] own (fun m nx => ∃ c : σ, nx = Led c ∧ P (i + 1) c ∧ ∀ z, stored.contains z = false → m z = m₀ z) { s with heap := hh', toks := tk' } .next s₂ := by
      rintro ⟨c', h', tk, m', news', e, F', N', hn, ho, hm', hP'⟩
      refine ⟨rfl, h', tk, m', Led c', e, F', fun p hp => ?_, fun p hp => ?_, c', rfl, hP', hm'⟩
      · rcases List.mem_append.mp hp with h | h
        · by_cases hI : p.1 = s.heap.objs.size
          · exact N' p (ho p (List.mem_filter.mpr ⟨h, by simpa using hI⟩))
          · have h1 : p.1 = l := by
              rcases List.mem_cons.mp (hown p h) with h2 | h2
              · exact absurd h2 hI
              · exact List.mem_singleton.mp h2
            have h2 : hh'.get? p.1 = some p.2 := hget p h
            rw [h1, hlo] at h2
            have h3 : p = (l, listOf vs.toArray nn) := Prod.ext h1 (Option.some.inj h2).symm
            rw [h3]
            exact N' _ (hn _ (hl c'))
        · exact N' p (hn p h)
      · intro hI
        have h4 : p.1 ∈ (Led c₀).map (·.1) := by rw [hadr c₀, ← hadr c']; exact List.mem_map.mpr ⟨p, hp, rfl⟩
        obtain ⟨q, hq, hqe⟩ := List.mem_map.mp h4
        exact hnb q hq (hqe.trans (List.mem_singleton.mp hI))
    cases f with
    | ret v => exact .ret p
    | brk => exact .brk p
    | next => exact .next (fin p)
    | cont => exact .cont (fin p)
  · rintro h' tk m' news' F' N' _ ⟨c, rfl, hPc, hm⟩
    exact done c m' h' tk hPc (kv_frOut hm F') N'
end
end Mine
namespace Mine
def addS (f : Int → Str) (ys : List Str) (x : Int) : List Str := if ys.any (· == f x) = true then ys else ys ++ [f x]
theorem addS_len (f : Int → Str) (ys : List Str) (x : Int) : (addS f ys x).length ≤ ys.length + 1 := by
  unfold addS; split
  · omega
  · simp
theorem foldl_addS_len (f : Int → Str) : ∀ (ns : List Int) (ys : List Str), (ns.foldl (addS f) ys).length ≤ ys.length + ns.length
  | [], ys => by simp
  | a :: r, ys => by
    have h1 := foldl_addS_len f r (addS f ys a)
    have h2 := addS_len f ys a
    simp only [List.foldl_cons, List.length_cons]; omega
theorem foldl_take {f : Int → Str} {ns : List Int} {ys : List Str} {i : Nat} {n : Int} (h : ns[i]? = some n) : (ns.take (i + 1)).foldl (addS f) ys = addS f ((ns.take i).foldl (addS f) ys) n := by
  rw [List.take_add_one, h]; simp
section
variable {prog : Program} {w : World} {A : Around} {E : Value → Shared → Prop} {s : Shared} {env : Env} {h₀ : Heap} {x : Str} {body : List Stmt} {Q : Flow → Shared → Prop}
abbrev SgA := List Value × Nat
def LedA (D : Addr) (vs : List Value) (n1 : Nat) (sl : Addr) (rest : List (Addr × Obj)) (c : SgA) : List (Addr × Obj) := (D, listOf vs.toArray n1) :: (sl, listOf c.1.toArray c.2) :: rest
def PA (f : Int → Str) (ns : List Int) (ys₀ : List Str) (i : Nat) (c : SgA) : Prop := StrsAre c.1 ((ns.take i).foldl (addS f) ys₀)
theorem loopA (f : Int → Str) {D sl : Addr} {vs ws : List Value} {n1 n2 : Nat} {ns : List Int} {ys₀ : List Str} {rest : List (Addr × Obj)} {m₀ : Str → Option Value}
    (hh : A.handled = none) (F : Fr h₀ env.locals s.heap m₀) (N : News h₀ env.locals s.heap ((D, listOf vs.toArray n1) :: (sl, listOf ws.toArray n2) :: rest)) (hi : IntsAre vs ns) (hW : StrsAre ws ys₀)
    (turn : ∀ (ws' : List Value) (k i : Nat) (n : Int) (t : Tok) (u : Str → Option Value) h tk own, ns[i]? = some n → OwnOff own (D :: sl :: rest.map (·.1)) → StrsAre ws' ((ns.take i).foldl (addS f) ys₀) → ws'.length ≤ ws.length + ns.length →
      Fr h₀ env.locals h (fun y => if y = x then some (.int n t) else if [x].contains y then u y else m₀ y) → News h₀ env.locals h ((D, listOf vs.toArray n1) :: (sl, listOf ws'.toArray k) :: (rest ++ own)) →
      wpAny (model prog w) A (execs body env) (KvPost h₀ env.locals { s with heap := h, toks := tk } (LedA D vs n1 sl rest) [x] m₀ (PA f ns ys₀) i own Q) E { s with heap := h, toks := tk })
    (done : ∀ (ws' : List Value) (k : Nat) (u : Str → Option Value) h tk, StrsAre ws' (ns.foldl (addS f) ys₀) → Fr h₀ env.locals h (fun y => if [x].contains y then u y else m₀ y) → News h₀ env.locals h ((D, listOf vs.toArray n1) :: (sl, listOf ws'.toArray k) :: rest) → Q .next { s with heap := h, toks := tk }) :
    wpAny (model prog w) A (pyIter (.ref D)) (fun it s₂ => LoopAtV prog w A h₀ env x body Q E it s₂) E s := by
  refine iter_vals (LedA D vs n1 sl rest) [x] (PA f ns ys₀) (D :: sl :: rest.map (·.1)) (ws, n2) hh (fun c => List.mem_cons_self ..) (fun c => rfl) F N ?_ ?_ ?_
  · show StrsAre ws _
    simpa using hW
  · rintro ⟨ws', k⟩ i v u h tk own hv hoff hP F₁ N₁
    have hl := hi.length
    have hib : i < ns.length := by have := (List.getElem?_eq_some_iff.mp hv).1; omega
    obtain ⟨t, ht⟩ := hi.get i ns[i] (by simp [hib])
    rw [ht] at hv
    obtain rfl := Option.some.inj hv
    refine turn ws' k i ns[i] t u h tk own (by simp [hib]) hoff hP ?_ F₁ N₁
    have h1 : ws'.length = _ := StrsAre.length hP
    have h2 := foldl_addS_len f (ns.take i) ys₀
    have h3 := hW.length
    rw [List.length_take] at h2
    omega
  · rintro ⟨ws', k⟩ u h tk hP F₁ N₁
    refine done ws' k u h tk ?_ F₁ N₁
    have hP' : StrsAre ws' ((ns.take vs.length).foldl (addS f) ys₀) := hP
    rw [hi.length, List.take_length] at hP'
    exact hP'
theorem kv_end {σ : Type} {L : Addr} {Led : σ → List (Addr × Obj)} {stored : List Str} {m₀ m' : Str → Option Value} {P : Nat → σ → Prop} {i : Nat} {own news' : List (Addr × Obj)} {s₁ : Shared} {h' : Heap} {tk : Nat} (c' : σ)
    (F : Fr h₀ L h' m') (N : News h₀ L h' news') (hn : ∀ p ∈ Led c', p ∈ news') (ho : ∀ p ∈ own, p ∈ news') (hr : ∀ z, stored.contains z = false → m' z = m₀ z) (hp : P (i + 1) c') :
    KvEnd h₀ L s₁ Led stored m₀ P i own { s₁ with heap := h', toks := tk } := ⟨c', h', tk, m', news', rfl, F, N, hn, ho, hr, hp⟩
theorem pa_same {f : Int → Str} {ns : List Int} {ys₀ : List Str} {i : Nat} {n : Int} {ws : List Value} {k : Nat} (h : ns[i]? = some n) (hP : StrsAre ws ((ns.take i).foldl (addS f) ys₀)) (hin : (((ns.take i).foldl (addS f) ys₀).any (· == f n)) = true) : PA f ns ys₀ (i + 1) (ws, k) := by
  show StrsAre ws _
  rw [foldl_take h, addS, if_pos hin]; exact hP
theorem pa_new {f : Int → Str} {ns : List Int} {ys₀ : List Str} {i : Nat} {n : Int} {ws : List Value} {k : Nat} {t : Tok} (h : ns[i]? = some n) (hP : StrsAre ws ((ns.take i).foldl (addS f) ys₀)) (hin : (((ns.take i).foldl (addS f) ys₀).any (· == f n)) = false) : PA f ns ys₀ (i + 1) (ws ++ [.str (f n) t], k) := by
  show StrsAre _ _
  rw [foldl_take h, addS, if_neg (by rw [hin]; exact Bool.false_ne_true)]; exact strs_snoc hP
end
end Mine

end
section
open PySem PySem.W PyProof.Rows PySem.Spec PySem.Calls
set_option Elab.async false
namespace Mine
theorem esc_cons (a : Nat) (r : List Nat) : esc (a :: r) = (if a = 34 ∨ a = 92 then [92, a] else [a]) ++ esc r := by unfold esc; rw [List.flatMap_cons]
theorem esc_nil : esc [] = [] := rfl
theorem esc_append (a b : List Nat) : esc (a ++ b) = esc a ++ esc b := by unfold esc; rw [List.flatMap_append]
theorem esc_ge (l : List Nat) : l.length ≤ (esc l).length := by
  induction l with
  | nil => exact Nat.le_refl _
  | cons a r ih =>
    rw [esc_cons, List.length_append, List.length_cons]
    have : 1 ≤ (if a = 34 ∨ a = 92 then [92, a] else [a]).length := by split <;> simp
    omega
theorem rd_out : ∀ (n : Nat) (l o r : List Nat), l.length ≤ n → rd o l = some r → ∃ r', r = o ++ r' ∧ esc r' = l
  | _, [], o, r, _, h => by
    rw [rd_nil] at h
    exact ⟨[], by rw [List.append_nil]; exact (Option.some.inj h).symm, rfl⟩
  | 0, _ :: _, _, _, hn, _ => by simp at hn
  | n + 1, [c], o, r, _, h => by
    by_cases h1 : c = 34
    · subst h1; rw [rd_q] at h; cases h
    · by_cases h2 : c = 92
      · subst h2; rw [rd_b1] at h; cases h
      · rw [rd_cons _ _ _ h1 h2, rd_nil] at h
        refine ⟨[c], (Option.some.inj h).symm, ?_⟩
        rw [esc_cons, if_neg (by simp [h1, h2])]; rfl
  | n + 1, c :: d :: l, o, r, hn, h => by
    simp only [List.length_cons] at hn
    by_cases h1 : c = 34
    · subst h1; rw [rd_q] at h; cases h
    · by_cases h2 : c = 92
      · subst h2
        by_cases h3 : d = 34 ∨ d = 92
        · rw [rd_b _ _ _ h3] at h
          obtain ⟨r', e, e'⟩ := rd_out n l (o ++ [d]) r (by omega) h
          refine ⟨d :: r', by rw [e]; simp, ?_⟩
          rw [esc_cons, if_pos h3, e']; rfl
        · rw [rd_bn _ _ _ h3] at h; cases h
      · rw [rd_cons _ _ _ h1 h2] at h
        obtain ⟨r', e, e'⟩ := rd_out n (d :: l) (o ++ [c]) r (by simp only [List.length_cons]; omega) h
        refine ⟨c :: r', by rw [e]; simp, ?_⟩
        rw [esc_cons, if_neg (by simp [h1, h2]), e']; rfl
theorem esc_of_rd {l r : List Nat} (h : rd [] l = some r) : esc r = l := by
  obtain ⟨r', e, e'⟩ := rd_out _ l [] r (Nat.le_refl _) h
  rw [e]; exact e'
theorem rd_esc : ∀ (u o : List Nat), rd o (esc u) = some (o ++ u)
  | [], o => by rw [esc_nil, rd_nil, List.append_nil]
  | a :: u, o => by
    rw [esc_cons]
    by_cases h : a = 34 ∨ a = 92
    · rw [if_pos h]
      show rd o (92 :: a :: esc u) = _
      rw [rd_b _ _ _ h, rd_esc u]; simp
    · rw [if_neg h]
      show rd o (a :: esc u) = _
      rw [rd_cons _ _ _ (fun e => h (.inl e)) (fun e => h (.inr e)), rd_esc u]; simp

abbrev S (l : List Nat) : Str := ⟨l.toArray⟩
theorem S_len (l : List Nat) : (S l).length = l.length := by simp [S, Str.length]
theorem rd_facts {x : Str} {r : List Nat} (h : rd [] x.cps.toList = some r) (h1 : 1 ≤ x.length) : escS (S r) = x ∧ 0 < (S r).length ∧ (S r).length ≤ x.length := by
  have e := esc_of_rd h
  have hx : x.cps.toList.length = x.length := by simp [Str.length]
  refine ⟨str_ext (by rw [escS_toList]; exact e), ?_, ?_⟩
  · rw [S_len]
    cases r with
    | nil => rw [esc_nil] at e; rw [← e] at hx; simp at hx; omega
    | cons a r => simp
  · rw [S_len, ← hx, ← e]; exact esc_ge r
/-- what the first loop keeps -/
def gStrict (x : Str) : Option Str := if (rd [] x.cps.toList).isSome then some x else none
/-- what the second loop keeps -/
def gWritten (x : Str) : Option Str := if (escS x).length ≤ 4 then some (escS x) else none
theorem pairs_ge {xs ys : List Str} (hy : ∀ y ∈ ys, 1 ≤ y.length) : ∀ z ∈ pairsUp xs ys, 1 ≤ z.length := by
  intro z hz
  obtain ⟨x, hx1, hz⟩ := List.mem_flatMap.mp hz
  obtain ⟨y, hy1, rfl⟩ := List.mem_map.mp hz
  have h2 := hy y hy1
  rw [Str.length_append]
  omega
theorem all_texts_len {ys : List Str} (hy : ∀ y ∈ ys, y.length = 1) : ∀ x ∈ allTexts ys, 1 ≤ x.length ∧ x.length ≤ 40 := by
  intro x hx
  have hy1 : ∀ y ∈ ys, 1 ≤ y.length := fun y h => Nat.le_of_eq (hy y h).symm
  have hy2 : ∀ y ∈ ys, y.length ≤ 10 := fun y h => by rw [hy y h]; decide
  simp only [allTexts, List.nil_append, List.mem_append] at hx
  rcases hx with ((hx | hx) | hx) | hx
  · exact ⟨pairs_ge hy1 x hx, Nat.le_trans (words_len hy2 1 x hx) (by decide)⟩
  · exact ⟨pairs_ge hy1 x hx, Nat.le_trans (words_len hy2 2 x hx) (by decide)⟩
  · exact ⟨pairs_ge hy1 x hx, Nat.le_trans (words_len hy2 3 x hx) (by decide)⟩
  · exact ⟨pairs_ge hy1 x hx, Nat.le_trans (words_len hy2 4 x hx) (by decide)⟩
theorem all_texts_count {ys : List Str} (h : ys.length ≤ 4) : (allTexts ys).length ≤ 340 := by
  have h1 := words_le h 1
  have h2 := words_le h 2
  have h3 := words_le h 3
  have h4 := words_le h 4
  simp only [allTexts, List.nil_append, List.length_append]
  omega
end Mine

end
section
open PySem PySem.W PyProof.Rows PySem.Spec PySem.Calls PySem.Builtin.Str
set_option Elab.async false
namespace Mine
theorem idx_hi_neg (len : Nat) {i j : Int} (h : j < 0) : strSliceIndices (some i) (some j) 1 len = strSliceIndices (some i) (some (max 0 ((len : Int) + j))) 1 len := by
  have a3 : ¬ (max 0 ((len : Int) + j) < 0) := by omega
  have e : max (0 : Int) (min (j + len) (len : Int)) = max 0 (min (max 0 ((len : Int) + j)) (len : Int)) := by omega
  simp [strSliceIndices, h, a3, e]
theorem mid_neg {x : Str} {i j : Int} (h : j < 0) : Txt.slice x (some i) (some j) = Txt.slice x (some i) (some (max 0 ((x.length : Int) + j))) := by
  show StrLaws.sliceText x (some i) (some j) = StrLaws.sliceText x (some i) (some (max 0 ((x.length : Int) + j)))
  unfold StrLaws.sliceText
  rw [idx_hi_neg x.length h]
theorem tl_len (x : Str) : x.cps.toList.length = x.length := by simp [Str.length]
theorem eqq : (Str.ofString "=\"").cps.toList = [61, 34] := by decide +kernel
theorem qq : (Str.ofString "\"").cps.toList = [34] := by decide +kernel
theorem fmt_list (p x : Str) : (fmtS p x).cps.toList = p.cps.toList ++ ([61, 34] ++ (esc x.cps.toList ++ [34])) := by
  unfold fmtS
  simp only [Str.cps_append, Array.toList_append, eqq, qq, escS_toList, List.append_assoc]
theorem fmt_len (p x : Str) : (fmtS p x).length = p.length + 3 + (escS x).length := by
  have h := congrArg List.length (fmt_list p x)
  rw [tl_len] at h
  simp only [List.length_append, List.length_cons, List.length_nil, tl_len] at h
  rw [escS_length, h]; omega
theorem fmt_to (p x : Str) : Txt.slice (fmtS p x) none (some ((p.length : Int) + 2)) = p ++ Str.ofString "=\"" := by
  have hl := fmt_len p x
  rw [eq_of_beq (slice_closes_to (x := fmtS p x) (j := (p.length : Int) + 2) ⟨by omega, by rw [tl_len]; omega⟩)]
  apply str_ext
  have e1 : ((p.length : Int) + 2 - 0).toNat = p.cps.toList.length + 2 := by rw [tl_len]; omega
  rw [e1]
  simp only [Int.toNat_zero, List.drop_zero, fmt_list, Str.cps_append, Array.toList_append, eqq]
  rw [List.take_length_add_append]; rfl
theorem fmt_last (p x : Str) : Txt.slice (fmtS p x) (some (-1)) none = Str.ofString "\"" := by
  have hl := fmt_len p x
  rw [slice_from_neg (by decide)]
  have e2 : (fmtS p x).cps.toList = (p.cps.toList ++ ([61, 34] ++ esc x.cps.toList)) ++ [34] := by rw [fmt_list]; simp
  have hk : (p.cps.toList ++ ([61, 34] ++ esc x.cps.toList)).length = p.length + 2 + (escS x).length := by
    simp only [List.length_append, List.length_cons, List.length_nil, tl_len]
    rw [escS_length]; omega
  generalize (p.cps.toList ++ ([61, 34] ++ esc x.cps.toList)) = front at e2 hk
  have e0 : max 0 (((fmtS p x).length : Int) + -1) = (front.length : Int) := by omega
  have h3 := slice_closes_from (x := fmtS p x) (i := (front.length : Int)) ⟨by omega, by rw [tl_len]; omega⟩
  rw [e0, eq_of_beq h3]
  apply str_ext
  rw [qq, e2]
  have e3 : ((front.length : Int)).toNat = front.length := by omega
  rw [e3, List.drop_left]
  have e4 : (((front ++ [34]).length : Int) - (front.length : Int)).toNat = 1 := by
    simp only [List.length_append, List.length_cons, List.length_nil]; omega
  rw [e4]; rfl
theorem fmt_mid (p x : Str) : Txt.slice (fmtS p x) (some ((p.length : Int) + 2)) (some (-1)) = escS x := by
  have hl := fmt_len p x
  rw [mid_neg (by decide)]
  rw [eq_of_beq (slice_closes (x := fmtS p x) (i := (p.length : Int) + 2) (j := max 0 (((fmtS p x).length : Int) + -1)) ⟨by omega, by omega, by rw [tl_len]; omega⟩)]
  apply str_ext
  have e2 : (fmtS p x).cps.toList = (p.cps.toList ++ [61, 34]) ++ (esc x.cps.toList ++ [34]) := by rw [fmt_list]; simp
  have e1 : ((p.length : Int) + 2).toNat = (p.cps.toList ++ [61, 34]).length := by simp only [List.length_append, List.length_cons, List.length_nil, tl_len]; omega
  have e3 : (max 0 (((fmtS p x).length : Int) + -1) - ((p.length : Int) + 2)).toNat = (esc x.cps.toList).length := by
    rw [escS_length] at hl
    omega
  rw [e1, e3, e2, List.drop_left, escS_toList]
  simp
theorem fmt_read {p x : Str} {r : List Nat} (h : rd [] x.cps.toList = some r) : fmtS p (S r) = p ++ Str.ofString "=\"" ++ x ++ Str.ofString "\"" := by
  unfold fmtS
  have e : escS (S r) = x := str_ext (by rw [escS_toList]; exact esc_of_rd h)
  rw [e]
end Mine

end
section
open PySem PySem.W PyProof.Rows PySem.Spec PySem.Calls PyProof.Rows.LCg
set_option Elab.async false
namespace Mine
section
variable {prog : Program} {w : World} {A : Around} {E : Value → Shared → Prop} {s : Shared} {env : Env} {h₀ : Heap} {x : Str} {body : List Stmt} {Q : Flow → Shared → Prop}
def LedB (lS : Addr) (rest : List (Addr × Obj)) (c : SgA) : List (Addr × Obj) := (lS, listOf c.1.toArray c.2) :: rest
def PB (g : Str → Option Str) (xs : List Str) (i : Nat) (c : SgA) : Prop := StrsAre c.1 ((xs.take i).filterMap g)
theorem loopB (g : Str → Option Str) (stored : List Str) {l lS : Addr} {vs : List Value} {nn k : Nat} {xs : List Str} {rest : List (Addr × Obj)} {m₀ : Str → Option Value}
    (hh : A.handled = none) (F : Fr h₀ env.locals s.heap m₀) (N : News h₀ env.locals s.heap ((lS, listOf ([] : List Value).toArray k) :: rest)) (hl : (l, listOf vs.toArray nn) ∈ rest) (hV : StrsAre vs xs)
    (turn : ∀ (ws' : List Value) (k' i : Nat) (y : Str) (t : Tok) (u : Str → Option Value) h tk own, xs[i]? = some y → y ∈ xs → OwnOff own (lS :: rest.map (·.1)) → StrsAre ws' ((xs.take i).filterMap g) → ws'.length ≤ xs.length →
      Fr h₀ env.locals h (fun z => if z = x then some (.str y t) else if stored.contains z then u z else m₀ z) → News h₀ env.locals h ((lS, listOf ws'.toArray k') :: (rest ++ own)) →
      wpAny (model prog w) A (execs body env) (KvPost h₀ env.locals { s with heap := h, toks := tk } (LedB lS rest) stored m₀ (PB g xs) i own Q) E { s with heap := h, toks := tk })
    (done : ∀ (ws' : List Value) (k' : Nat) (u : Str → Option Value) h tk, StrsAre ws' (xs.filterMap g) → Fr h₀ env.locals h (fun z => if stored.contains z then u z else m₀ z) → News h₀ env.locals h ((lS, listOf ws'.toArray k') :: rest) → Q .next { s with heap := h, toks := tk }) :
    wpAny (model prog w) A (pyIter (.ref l)) (fun it s₂ => LoopAtV prog w A h₀ env x body Q E it s₂) E s := by
  refine iter_vals (LedB lS rest) stored (PB g xs) (lS :: rest.map (·.1)) ([], k) hh (fun c => List.mem_cons_of_mem _ hl) (fun c => rfl) F N ?_ ?_ ?_
  · show StrsAre [] _
    simpa using StrsAre.nil
  · rintro ⟨ws', k'⟩ i v u h tk own hv hoff hP F₁ N₁
    have hlen := hV.length
    have hib : i < xs.length := by have := (List.getElem?_eq_some_iff.mp hv).1; omega
    obtain ⟨t, ht⟩ := hV.get i xs[i] (by simp [hib])
    rw [ht] at hv
    obtain rfl := Option.some.inj hv
    refine turn ws' k' i xs[i] t u h tk own (by simp [hib]) (List.getElem_mem hib) hoff hP ?_ F₁ N₁
    have h1 : ws'.length = _ := StrsAre.length hP
    have h2 := List.length_filterMap_le g (xs.take i)
    rw [List.length_take] at h2
    omega
  · rintro ⟨ws', k'⟩ u h tk hP F₁ N₁
    refine done ws' k' u h tk ?_ F₁ N₁
    have hP' : StrsAre ws' ((xs.take vs.length).filterMap g) := hP
    rw [hV.length, List.take_length] at hP'
    exact hP'
theorem pb_none {g : Str → Option Str} {xs : List Str} {i : Nat} {y : Str} {ws : List Value} {k : Nat} (h : xs[i]? = some y) (hP : StrsAre ws ((xs.take i).filterMap g)) (hg : g y = none) : PB g xs (i + 1) (ws, k) := by
  show StrsAre ws _
  rw [List.take_add_one, h]
  simpa [hg] using hP
theorem pb_some {g : Str → Option Str} {xs : List Str} {i : Nat} {y z : Str} {ws : List Value} {k : Nat} {t : Tok} (h : xs[i]? = some y) (hP : StrsAre ws ((xs.take i).filterMap g)) (hg : g y = some z) : PB g xs (i + 1) (ws ++ [.str z t], k) := by
  show StrsAre _ _
  rw [List.take_add_one, h]
  simpa [hg] using strs_snoc (t := t) hP
end
section
variable {w : World} {mean : ExcName → Option Value} {mg mb : Str → Option Value} {news : List (Addr × Obj)}
  {dp un : Nat} {gd : Option (List Code)} {cn : Str} {cs : Scope} {a : Addr} {ccd : Value} {cl : List (Str × Addr)} {outer : List Env} {A₀ : Around} {base h₀ : Heap} {L : Addr} {m : Str → Option Value} {s : Shared} {Q E : Value → Shared → Prop}
theorem reader_two {x : Str} {t : Tok} (hB : Below A₀ base outer h₀) (hF : Fr h₀ L s.heap m) (hK : (Mine.hd.heap_39 w.params).In h₀) (hN : News h₀ L s.heap news) (hT : Top Mine.hd.view_39 (looseW Mine.hd.view_39 [Str.ofString "tspecials", Str.ofString "_formatparam"]) mean mg mb h₀) (hk : cs.kind = .function)
    (hx : 1 ≤ x.length ∧ x.length ≤ 40) (hdp : dp + 1 < recursionLimit) (hun : un + 8 < cLine)
    (hno : gStrict x = none → ∀ h' tk', Fr h₀ L h' m → News h₀ L h' news → Q .none { s with heap := h', toks := tk' })
    (hyes : ∀ r t h' tk', gStrict x = some x → rd [] x.cps.toList = some r → 0 < (S r).length → (S r).length ≤ 40 → Fr h₀ L h' m → News h₀ L h' news → Q (.str (S r) t) { s with heap := h', toks := tk' }) :
    wpAny (model PySem.Challenge.rw_dm5018_01.row.prog w) (ktrTop dp un gd cn cs L a ccd cl outer) (call (.ref 60) [.str x t]) Q E s := by
  refine reader_call hB hF hK hN hT hk (Nat.le_trans hx.2 (by decide)) hdp hun fun t' h' tk' F' N' => ?_
  cases hr : rd [] x.cps.toList with
  | none =>
    have e : rdVal x t' = .none := by unfold rdVal; rw [hr]
    rw [e]
    exact hno (by unfold gStrict; rw [hr]; rfl) h' tk' F' N'
  | some r =>
    have e : rdVal x t' = .str (S r) t' := by unfold rdVal; rw [hr]
    rw [e]
    have f := rd_facts hr hx.1
    exact hyes r t' h' tk' (by unfold gStrict; rw [hr]; rfl) hr f.2.1 (Nat.le_trans f.2.2 hx.2) F' N'
end
section
variable {M : Model} {A : Around} {E : Value → Shared → Prop} {s : Shared} {a b : Str} {t u : Tok} {Q : Value → Shared → Prop} {prog : Program} {w : World}
theorem ne_same (e : a = b) (h : Q (.bool false) s) : wpAny (model prog w) A (compareOp .NotEq (.str a t) (.str b u)) Q E s := by
  subst e
  refine ne_str ?_
  simpa using h
end
/-- the facts of the signs -/
abbrev signsOf (ns : List Int) : List Str := List.foldl (addS sgn) [Str.ofString "\"", Str.ofString "\\"] (List.take 2 (ns ++ [1, 3]))
theorem foldl_addS_all {p : Str → Prop} (hp : ∀ x, p (sgn x)) : ∀ (ns : List Int) (ys : List Str), (∀ y ∈ ys, p y) → ∀ y ∈ ns.foldl (addS sgn) ys, p y
  | [], _, h => h
  | a :: r, ys, h => by
    refine foldl_addS_all hp r (addS sgn ys a) ?_
    unfold addS
    split
    · exact h
    · intro y hy
      rcases List.mem_append.mp hy with hy | hy
      · exact h y hy
      · rw [List.mem_singleton.mp hy]; exact hp a
theorem signs_len1 (ns : List Int) : ∀ y ∈ signsOf ns, y.length = 1 := by
  refine foldl_addS_all (p := fun y => y.length = 1) (fun x => rfl) _ _ ?_
  intro y hy
  simp only [List.mem_cons, List.not_mem_nil, or_false] at hy
  rcases hy with rfl | rfl <;> decide +kernel
theorem signs_count (ns : List Int) : (signsOf ns).length ≤ 4 := by
  have h := foldl_addS_len sgn (List.take 2 (ns ++ [1, 3])) [Str.ofString "\"", Str.ofString "\\"]
  have h2 : (List.take 2 (ns ++ [1, 3])).length ≤ 2 := by rw [List.length_take]; omega
  simp only [List.length_cons, List.length_nil] at h
  exact Nat.le_trans h (by omega)
end Mine

end
section
open PySem PySem.W PyProof.Rows PySem.Spec PySem.Calls
set_option Elab.async false
namespace Mine
theorem fmt_small {p x : Str} (hp : p.length ≤ 100) (hx : x.length ≤ 40) : (fmtS p x).length ≤ sizeLine := by
  have h1 := fmt_len p x
  have h2 := escS_length_le x
  rw [sizeLine_eq]; omega
section
variable {prog : Program} {w : World} {A : Around} {E : Value → Shared → Prop} {s : Shared} {value slice : Expr} {p x : Str} {t : Tok} {h₀ : Heap} {L : Addr} {m : Str → Option Value} {news : List (Addr × Obj)} {Q : Value → Shared → Prop}
theorem tail_to {u : Tok} {j : Int} (hj : j = (p.length : Int) + 2) (hF : Fr h₀ L s.heap m) (hN : News h₀ L s.heap news) (hp : p.length ≤ 100) (hx : x.length ≤ 40) (h : ∀ h' t' k, Fr h₀ L h' m → News h₀ L h' news → Q (.str (p ++ Str.ofString "=\"") t') { s with heap := h', toks := k })
    (hs : subscripted slice false (.str (fmtS p x) t) (.ref s.heap.objs.size) = operate [.ref s.heap.objs.size, .str (fmtS p x) t] (getItem (.str (fmtS p x) t) (.ref s.heap.objs.size)))
    (ht : ∀ r, letTemporaryGo value (.str (fmtS p x) t) r = pure ()) :
    wpAny (model prog w) A (subscriptTail value slice (.str (fmtS p x) t) (.ref s.heap.objs.size)) Q E { s with heap := s.heap.push { cls := .type "slice", data := .fields #[.none, .int j u, .none] } } := by
  subst hj
  exact slice_strN_ns hF hN (fun h' t' k F' N' => by rw [fmt_to]; exact h h' t' k F' N') hs ht (fmt_small hp hx)
theorem tail_last {u : Tok} (hF : Fr h₀ L s.heap m) (hN : News h₀ L s.heap news) (hp : p.length ≤ 100) (hx : x.length ≤ 40) (h : ∀ h' t' k, Fr h₀ L h' m → News h₀ L h' news → Q (.str (Str.ofString "\"") t') { s with heap := h', toks := k })
    (hs : subscripted slice false (.str (fmtS p x) t) (.ref s.heap.objs.size) = operate [.ref s.heap.objs.size, .str (fmtS p x) t] (getItem (.str (fmtS p x) t) (.ref s.heap.objs.size)))
    (ht : ∀ r, letTemporaryGo value (.str (fmtS p x) t) r = pure ()) :
    wpAny (model prog w) A (subscriptTail value slice (.str (fmtS p x) t) (.ref s.heap.objs.size)) Q E { s with heap := s.heap.push { cls := .type "slice", data := .fields #[.int (-1) u, .none, .none] } } :=
  slice_strN_sn hF hN (fun h' t' k F' N' => by rw [fmt_last]; exact h h' t' k F' N') hs ht (fmt_small hp hx)
theorem tail_mid {u v : Tok} {j : Int} (hj : j = (p.length : Int) + 2) (hF : Fr h₀ L s.heap m) (hN : News h₀ L s.heap news) (hp : p.length ≤ 100) (hx : x.length ≤ 40) (h : ∀ h' t' k, Fr h₀ L h' m → News h₀ L h' news → Q (.str (escS x) t') { s with heap := h', toks := k })
    (hs : subscripted slice false (.str (fmtS p x) t) (.ref s.heap.objs.size) = operate [.ref s.heap.objs.size, .str (fmtS p x) t] (getItem (.str (fmtS p x) t) (.ref s.heap.objs.size)))
    (ht : ∀ r, letTemporaryGo value (.str (fmtS p x) t) r = pure ()) :
    wpAny (model prog w) A (subscriptTail value slice (.str (fmtS p x) t) (.ref s.heap.objs.size)) Q E { s with heap := s.heap.push { cls := .type "slice", data := .fields #[.int j u, .int (-1) v, .none] } } := by
  subst hj
  exact slice_strN_ss hF hN (fun h' t' k F' N' => by rw [fmt_mid]; exact h h' t' k F' N') hs ht (fmt_small hp hx)
end
theorem gw_some {p x : Str} {c : Int} (hc : c = p.length) (h : ((fmtS p x).length : Int) - c - 3 ≤ 4) : gWritten x = some (escS x) := by
  have h1 := fmt_len p x
  unfold gWritten; rw [if_pos (by omega)]
theorem gw_none {p x : Str} {c : Int} (hc : c = p.length) (h : ¬ ((fmtS p x).length : Int) - c - 3 ≤ 4) : gWritten x = none := by
  have h1 := fmt_len p x
  unfold gWritten; rw [if_neg (by omega)]
theorem text_one {ns : List Int} {x : Str} (hx : x ∈ allTexts (signsOf ns)) : 1 ≤ x.length ∧ x.length ≤ 40 := all_texts_len (signs_len1 ns) x hx
theorem name_len (k : Nat) : ([Str.ofString "p", Str.ofString "", Str.ofString "k-1", Str.ofString "a b"].getD k Str.empty).length ≤ 100 := KOpn.len_getD (by decide +kernel)
theorem len_tab : ∀ (k : Nat), [1, 0, 3, 3].getD k (0 : Int) = (([Str.ofString "p", Str.ofString "", Str.ofString "k-1", Str.ofString "a b"].getD k Str.empty).length : Int)
  | 0 => by decide +kernel
  | 1 => by decide +kernel
  | 2 => by decide +kernel
  | 3 => by decide +kernel
  | _ + 4 => by show (0 : Int) = (Str.empty.length : Int); decide +kernel
end Mine

end
section
open PySem PySem.W PyProof.Rows PySem.Spec PySem.Calls
set_option Elab.async false
namespace Mine
section
variable {prog : Program} {w : World} {A : Around} {E : Value → Shared → Prop} {s : Shared} {h₀ : Heap} {L : Addr} {m : Str → Option Value} {news : List (Addr × Obj)} {Q : Value → Shared → Prop}
theorem len_strs {l : Addr} {ws : List Value} {k : Nat} {xs : List Str} {n : Int} (hN : News h₀ L s.heap news) (hl : (l, listOf ws.toArray k) ∈ news) (hW : StrsAre ws xs) (hn : (xs.length : Int) = n) (hb : xs.length ≤ 400)
    (h : ∀ tk t, Q (.int n t) { s with toks := tk }) : wpAny (model prog w) A (call (.builtin "len") [.ref l]) Q E s := by
  have hls : s.heap.IsList l ws.toArray := ⟨_, (hN _ hl).1, rfl, k, rfl⟩
  have e : ws.toArray.size = xs.length := by simp [hW.length]
  refine len_list hls ?_ ?_
  · rw [e]; omega
  · rw [e, hn]; exact h _ _
theorem len_fmt {p x : Str} {t : Tok} (hp : p.length ≤ 100) (hx : x.length ≤ 40) (h : Q (.int (fmtS p x).length (s.toks + 1)) { s with toks := s.toks + 1 + 1 }) : wpAny (model prog w) A (call (.builtin "len") [.str (fmtS p x) t]) Q E s := by
  have h1 := fmt_len p x
  have h2 := escS_length_le x
  exact SBL.len (by omega) h
theorem len_name {x : Str} {t : Tok} (hp : x.length ≤ 100) (h : Q (.int x.length (s.toks + 1)) { s with toks := s.toks + 1 + 1 }) : wpAny (model prog w) A (call (.builtin "len") [.str x t]) Q E s := SBL.len (by omega) h
end
theorem foldl_ge (g : Int → Str) : ∀ (l : List Int) (a : List Str), a.length ≤ (l.foldl (addS g) a).length
  | [], _ => Nat.le_refl _
  | x :: r, a => by
    rw [List.foldl_cons]
    refine Nat.le_trans ?_ (foldl_ge g r _)
    unfold addS
    split
    · exact Nat.le_refl _
    · rw [List.length_append]; exact Nat.le_add_right _ _
theorem signs_two (ns : List Int) : 2 ≤ (signsOf ns).length := foldl_ge sgn _ [Str.ofString "\"", Str.ofString "\\"]
theorem signs_case (ns : List Int) : (((signsOf ns).length : Int) = 2 ∨ ((signsOf ns).length : Int) = 3) ∨ ((signsOf ns).length : Int) = 4 := by
  have := signs_two ns
  have := signs_count ns
  omega
end Mine

end
section
open PySem PySem.W PyProof.Rows PySem.Spec PySem.Calls
set_option Elab.async false
namespace Mine
section
variable {prog : Program} {w : World} {A : Around} {E : Value → Shared → Prop} {s : Shared} {κ : KeyKind}

abbrev kOf (κ : KeyKind) (p : Keyed) : κ.α := (κ.keyOf p.1).getD κ.dflt
abbrev Keyd (κ : KeyKind) (p : Keyed) : Prop := ∃ a, κ.keyOf p.1 = some a

theorem lt_ok (hO : κ.OneLt) {st : SortSt} {p q : Keyed} {Q : Option Bool → SortSt → Prop} (hk : kindOf st = oneType') (hp : Keyd κ p) (hq : Keyd κ q)
    (h : Q (some (κ.blt (kOf κ p) (kOf κ q))) st) : wpS (model prog w) A E s (lt' p q) Q st := by
  obtain ⟨a, ha⟩ := hp
  obtain ⟨b, hb⟩ := hq
  have ea : kOf κ p = a := by simp [kOf, ha]
  have eb : kOf κ q = b := by simp [kOf, hb]
  rw [ea, eb] at h
  rw [lt'_eq]
  refine wpS_bind (wpS_get ?_)
  rw [hk, keyLt'_oneType]
  refine wpS_bind (wpS_lift (wpAny_attempt (hO prog w A _ s _ _ a b ha hb ⟨rfl, ?_⟩)))
  exact wpS_pure h

theorem elem_ok {arr : Array Keyed} {i : Nat} {p : Keyed} {st : SortSt} {Q : Keyed → SortSt → Prop} (hi : arr[i]? = some p) (h : Q p st) : wpS (model prog w) A E s (elem' arr i) Q st := by
  rw [elem'_eq, hi]; exact wpS_pure h

def gallop' : Bool → Keyed → Array Keyed → Nat → Nat → Nat → StateT SortSt Sem (Option Nat) := sortPriv% PySem.Builtin.gallop
def mergeLo' : Array Keyed → Array Keyed → StateT SortSt Sem (Array Keyed) := sortPriv% PySem.Builtin.mergeLo
def mergeHi' : Array Keyed → Array Keyed → StateT SortSt Sem (Array Keyed) := sortPriv% PySem.Builtin.mergeHi


/-- what gallop asks of the i-th item -/
def bey (κ : KeyKind) (left : Bool) (key : Keyed) (arr : Array Keyed) (base i : Nat) : Bool :=
  if left then κ.blt (KK κ arr (base + i)) (kOf κ key) else !κ.blt (kOf κ key) (KK κ arr (base + i))

theorem KK_at {arr : Array Keyed} {i : Nat} {p : Keyed} (h : arr[i]? = some p) : KK κ arr i = kOf κ p := by unfold KK; rw [h]

theorem bey_ok (hO : κ.OneLt) {left : Bool} {key : Keyed} {arr : Array Keyed} {base i : Nat} {st : SortSt} {Q : Option Bool → SortSt → Prop} (hk : kindOf st = oneType')
    (hq : Keyd κ key) (hi : ∃ p, arr[base + i]? = some p ∧ Keyd κ p) (h : Q (some (bey κ left key arr base i)) st) :
    wpS (model prog w) A E s (do
      let x ← elem' arr (base + i)
      if left = true then lt' x key else do
        let r ← lt' key x
        pure (Option.map (fun x => !x) r)) Q st := by
  obtain ⟨p, e, hp⟩ := hi
  refine wpS_bind (elem_ok e ?_)
  unfold bey at h
  rw [KK_at e] at h
  cases left with
  | true => exact lt_ok hO hk hp hq h
  | false =>
    simp only [Bool.false_eq_true, if_false] at h ⊢
    exact wpS_bind (lt_ok hO hk hq hp (wpS_pure h))

theorem gallop_ok (hO : κ.OneLt) {left : Bool} {key : Keyed} {arr : Array Keyed} {base n hint : Nat} {st : SortSt} {Q : Option Nat → SortSt → Prop} (hk : kindOf st = oneType')
    (hq : Keyd κ key) (hi : ∀ i, i < n → ∃ p, arr[base + i]? = some p ∧ Keyd κ p) (hh : hint < n)
    (hm : ∀ i j, i ≤ j → j < n → bey κ left key arr base j = true → bey κ left key arr base i = true)
    (h : ∀ k, k ≤ n → (∀ i, i < k → bey κ left key arr base i = true) → (∀ i, k ≤ i → i < n → bey κ left key arr base i = false) → Q (some k) st) :
    wpS (model prog w) A E s (gallop' left key arr base n hint) Q st := by
  have hm' : ∀ i j, i ≤ j → j < n → bey κ left key arr base i = false → bey κ left key arr base j = false := by
    intro i j hij hj hf
    cases e : bey κ left key arr base j
    · rfl
    · rw [hm i j hij hj e] at hf; exact hf
  generalize hBB : bey κ left key arr base = B at hm hm' h
  have hb : ∀ i, i < n → ∀ {Q' : Option Bool → SortSt → Prop}, Q' (some (B i)) st → wpS (model prog w) A E s (do
      let x ← elem' arr (base + i)
      if left = true then lt' x key else do
        let r ← lt' key x
        pure (Option.map (fun x => !x) r)) Q' st := by
    intro i hin Q' hQ
    refine bey_ok hO hk hq (hi i hin) ?_
    rw [hBB]; exact hQ
  refine wpS_bind ?_
  refine hb hint hh ?_
  dsimp only
  cases e0 : B hint
  case true =>
    simp only [if_true]
    refine wpS_bind (wpS_mono (wpS_forRange
      (I := fun x c st' => st' = st ∧ ∃ l o, c = (none, l, o) ∧ l < o ∧ x + 1 ≤ o ∧ hint + l < n ∧ B (hint + l) = true)
      (Q := fun c st' => st' = st ∧ ∃ l o, c = (none, l, o) ∧ l < o ∧ hint + l < n ∧ B (hint + l) = true ∧ (o ≥ n - hint ∨ (hint + o < n ∧ B (hint + o) = false))) ?step ?fin ?init) ?post)
    case init => exact ⟨rfl, 0, 1, rfl, by omega, by omega, by omega, e0⟩
    case fin =>
      rintro c st' ⟨rfl, l, o, rfl, h1, h2, h3, h4⟩
      exact ⟨rfl, l, o, rfl, h1, h3, h4, .inl (by omega)⟩
    case step =>
      rintro x c st' _ hx ⟨rfl, l, o, rfl, h1, h2, h3, h4⟩
      dsimp only
      by_cases hge : o ≥ n - hint
      · rw [if_pos hge]
        exact wpS_pure ⟨rfl, l, o, rfl, h1, h3, h4, .inl hge⟩
      · rw [if_neg hge]
        refine wpS_bind ?_
        refine hb (hint + o) (by omega) ?_
        dsimp only
        cases e1 : B (hint + o)
        case false =>
          simp only [Bool.not_false, if_true]
          exact wpS_pure ⟨rfl, l, o, rfl, h1, h3, h4, .inr ⟨by omega, e1⟩⟩
        case true =>
          simp only [Bool.not_true, Bool.false_eq_true, if_false]
          exact wpS_pure ⟨rfl, o, 2 * o + 1, rfl, by omega, by omega, by omega, e1⟩
    case post =>
      rintro c st' ⟨rfl, l, o, rfl, h1, h3, h4, h5⟩
      dsimp only
      have a1 : ∀ i, i < hint + l + 1 → B i = true := fun i hi => hm i (hint + l) (by omega) h3 h4
      have a2 : ∀ i, hint + min o (n - hint) ≤ i → i < n → B i = false := by
        intro i h6 h7
        rcases h5 with h5 | ⟨h5, h8⟩
        · omega
        · exact hm' (hint + o) i (by omega) h7 h8
      have a3 : hint + l + 1 ≤ hint + min o (n - hint) := by omega
      have a4 : hint + min o (n - hint) ≤ n := by omega
      generalize hint + l + 1 = lo at a1 a3 ⊢
      generalize hint + min o (n - hint) = hi' at a2 a3 a4 ⊢
      refine wpS_bind (wpS_mono (wpS_forRange
        (I := fun x c st'' => st'' = st' ∧ ∃ l r, c = (none, l, r) ∧ l ≤ r ∧ r ≤ n ∧ r - l ≤ n - x ∧ (∀ i, i < l → B i = true) ∧ (∀ i, r ≤ i → i < n → B i = false))
        (Q := fun c st'' => st'' = st' ∧ ∃ l r, c = (none, l, r) ∧ l = r ∧ r ≤ n ∧ (∀ i, i < l → B i = true) ∧ (∀ i, r ≤ i → i < n → B i = false)) ?step ?fin ?init) ?post)
      case init => exact ⟨rfl, lo, hi', rfl, a3, a4, by omega, a1, a2⟩
      case fin =>
        rintro c st'' ⟨rfl, l, r, rfl, b1, b2, b3, b4, b5⟩
        exact ⟨rfl, l, r, rfl, by omega, b2, b4, b5⟩
      case step =>
        rintro x c st'' _ hx ⟨rfl, l, r, rfl, b1, b2, b3, b4, b5⟩
        dsimp only
        by_cases hge : l ≥ r
        · rw [if_pos hge]
          exact wpS_pure ⟨rfl, l, r, rfl, by omega, b2, b4, b5⟩
        · rw [if_neg hge]
          refine wpS_bind ?_
          refine hb (l + (r - l) / 2) (by omega) ?_
          dsimp only
          cases e1 : B (l + (r - l) / 2)
          case false =>
            simp only [Bool.false_eq_true, if_false]
            exact wpS_pure ⟨rfl, _, _, rfl, by omega, by omega, by omega, b4, fun i c1 c2 => hm' _ i c1 c2 e1⟩
          case true =>
            simp only [if_true]
            exact wpS_pure ⟨rfl, _, _, rfl, by omega, by omega, by omega, fun i c1 => hm i _ (by omega) (by omega) e1, b5⟩
      case post =>
        rintro c st'' ⟨rfl, l, r, rfl, rfl, b2, b4, b5⟩
        exact wpS_pure (h l b2 b4 b5)
  case false =>
    simp only [Bool.false_eq_true, if_false]
    refine wpS_bind (wpS_mono (wpS_forRange
      (I := fun x c st' => st' = st ∧ ∃ l o, c = (none, l, o) ∧ l < o ∧ x + 1 ≤ o ∧ l ≤ hint ∧ B (hint - l) = false)
      (Q := fun c st' => st' = st ∧ ∃ l o, c = (none, l, o) ∧ l < o ∧ l ≤ hint ∧ B (hint - l) = false ∧ (o ≥ hint + 1 ∨ (o ≤ hint ∧ B (hint - o) = true))) ?step ?fin ?init) ?post)
    case init => exact ⟨rfl, 0, 1, rfl, by omega, by omega, by omega, e0⟩
    case fin =>
      rintro c st' ⟨rfl, l, o, rfl, h1, h2, h3, h4⟩
      exact ⟨rfl, l, o, rfl, h1, h3, h4, .inl (by omega)⟩
    case step =>
      rintro x c st' _ hx ⟨rfl, l, o, rfl, h1, h2, h3, h4⟩
      dsimp only
      by_cases hge : o ≥ hint + 1
      · rw [if_pos hge]
        exact wpS_pure ⟨rfl, l, o, rfl, h1, h3, h4, .inl hge⟩
      · rw [if_neg hge]
        refine wpS_bind ?_
        refine hb (hint - o) (by omega) ?_
        dsimp only
        cases e1 : B (hint - o)
        case true =>
          simp only [if_true]
          exact wpS_pure ⟨rfl, l, o, rfl, h1, h3, h4, .inr ⟨by omega, e1⟩⟩
        case false =>
          simp only [Bool.false_eq_true, if_false]
          exact wpS_pure ⟨rfl, o, 2 * o + 1, rfl, by omega, by omega, by omega, e1⟩
    case post =>
      rintro c st' ⟨rfl, l, o, rfl, h1, h3, h4, h5⟩
      dsimp only
      have a1 : ∀ i, i < hint + 1 - min o (hint + 1) → B i = true := by
        intro i h6
        rcases h5 with h5 | ⟨h5, h8⟩
        · omega
        · exact hm i (hint - o) (by omega) (by omega) h8
      have a2 : ∀ i, hint - l ≤ i → i < n → B i = false := fun i h6 h7 => hm' (hint - l) i h6 h7 h4
      have a3 : hint + 1 - min o (hint + 1) ≤ hint - l := by omega
      have a4 : hint - l ≤ n := by omega
      generalize hint + 1 - min o (hint + 1) = lo at a1 a3 ⊢
      generalize hint - l = hi' at a2 a3 a4 ⊢
      refine wpS_bind (wpS_mono (wpS_forRange
        (I := fun x c st'' => st'' = st' ∧ ∃ l r, c = (none, l, r) ∧ l ≤ r ∧ r ≤ n ∧ r - l ≤ n - x ∧ (∀ i, i < l → B i = true) ∧ (∀ i, r ≤ i → i < n → B i = false))
        (Q := fun c st'' => st'' = st' ∧ ∃ l r, c = (none, l, r) ∧ l = r ∧ r ≤ n ∧ (∀ i, i < l → B i = true) ∧ (∀ i, r ≤ i → i < n → B i = false)) ?step ?fin ?init) ?post)
      case init => exact ⟨rfl, lo, hi', rfl, a3, a4, by omega, a1, a2⟩
      case fin =>
        rintro c st'' ⟨rfl, l, r, rfl, b1, b2, b3, b4, b5⟩
        exact ⟨rfl, l, r, rfl, by omega, b2, b4, b5⟩
      case step =>
        rintro x c st'' _ hx ⟨rfl, l, r, rfl, b1, b2, b3, b4, b5⟩
        dsimp only
        by_cases hge : l ≥ r
        · rw [if_pos hge]
          exact wpS_pure ⟨rfl, l, r, rfl, by omega, b2, b4, b5⟩
        · rw [if_neg hge]
          refine wpS_bind ?_
          refine hb (l + (r - l) / 2) (by omega) ?_
          dsimp only
          cases e1 : B (l + (r - l) / 2)
          case false =>
            simp only [Bool.false_eq_true, if_false]
            exact wpS_pure ⟨rfl, _, _, rfl, by omega, by omega, by omega, b4, fun i c1 c2 => hm' _ i c1 c2 e1⟩
          case true =>
            simp only [if_true]
            exact wpS_pure ⟨rfl, _, _, rfl, by omega, by omega, by omega, fun i c1 => hm i _ (by omega) (by omega) e1, b5⟩
      case post =>
        rintro c st'' ⟨rfl, l, r, rfl, rfl, b2, b4, b5⟩
        exact wpS_pure (h l b2 b4 b5)
end
end Mine

end
section
open PySem PySem.W PyProof.Rows PySem.Spec PySem.Calls
set_option Elab.async false
namespace Mine
section
variable {κ : KeyKind}
def Le (κ : KeyKind) (X Y : List Keyed) : Prop := ∀ p ∈ X, ∀ q ∈ Y, κ.kle (kOf κ p) (kOf κ q)
def Srt (κ : KeyKind) (X : List Keyed) : Prop := X.Pairwise fun p q => κ.kle (kOf κ p) (kOf κ q)
theorem Le.nil_r {X : List Keyed} : Le κ X [] := fun _ _ _ h => absurd h (by simp)
theorem Srt.app {X Y : List Keyed} (h : Srt κ (X ++ Y)) : Srt κ X ∧ Srt κ Y ∧ Le κ X Y := List.pairwise_append.mp h
theorem Srt.mk' {X Y : List Keyed} (h1 : Srt κ X) (h2 : Srt κ Y) (h3 : Le κ X Y) : Srt κ (X ++ Y) := List.pairwise_append.mpr ⟨h1, h2, h3⟩
theorem Le.app {X Y Z : List Keyed} (h1 : Le κ X Z) (h2 : Le κ Y Z) : Le κ (X ++ Y) Z := fun p hp q hq => (List.mem_append.mp hp).elim (fun h => h1 p h q hq) (fun h => h2 p h q hq)
theorem Le.r {X Y Z : List Keyed} (h : Le κ X (Y ++ Z)) : Le κ X Y ∧ Le κ X Z := ⟨fun p hp q hq => h p hp q (List.mem_append_left _ hq), fun p hp q hq => h p hp q (List.mem_append_right _ hq)⟩
theorem Le.l {X Y Z : List Keyed} (h : Le κ (X ++ Y) Z) : Le κ X Z ∧ Le κ Y Z := ⟨fun p hp q hq => h p (List.mem_append_left _ hp) q hq, fun p hp q hq => h p (List.mem_append_right _ hp) q hq⟩
/-- all of X lies at or under the head of a sorted list -/
theorem Le.head {X R : List Keyed} {p : Keyed} (hs : Srt κ (p :: R)) (h : ∀ x ∈ X, κ.kle (kOf κ x) (kOf κ p)) : Le κ X (p :: R) := by
  intro x hx q hq
  rcases List.mem_cons.mp hq with rfl | hq
  · exact h x hx
  · exact KeyOrd.kle_trans (h x hx) (List.rel_of_pairwise_cons hs hq)
theorem Le.last {X R : List Keyed} {p : Keyed} (hs : Srt κ (R ++ [p])) (h : ∀ x ∈ X, κ.kle (kOf κ p) (kOf κ x)) : Le κ (R ++ [p]) X := by
  intro q hq x hx
  rcases List.mem_append.mp hq with hq | hq
  · exact KeyOrd.kle_trans (hs.app.2.2 q hq p (by simp)) (h x hx)
  · rw [List.mem_singleton.mp hq]; exact h x hx

structure LoI (κ : KeyKind) (T o X Y : List Keyed) : Prop where
  perm : (o ++ (X ++ Y)).Perm T
  srt : Srt κ o
  sX : Srt κ X
  sY : Srt κ Y
  leX : Le κ o X
  leY : Le κ o Y
theorem LoI.swap {T o X Y : List Keyed} (h : LoI κ T o X Y) : LoI κ T o Y X := ⟨((List.perm_append_comm (l₁ := Y) (l₂ := X)).append_left o).trans h.perm, h.srt, h.sY, h.sX, h.leY, h.leX⟩
theorem LoI.takeX {T o Z X Y : List Keyed} (h : LoI κ T o (Z ++ X) Y) (hz : Le κ Z Y) : LoI κ T (o ++ Z) X Y :=
  ⟨by rw [List.append_assoc, ← List.append_assoc Z]; exact h.perm, h.srt.mk' h.sX.app.1 h.leX.r.1, h.sX.app.2.1, h.sY, h.leX.r.2.app h.sX.app.2.2, h.leY.app hz⟩
theorem LoI.takeY {T o Z X Y : List Keyed} (h : LoI κ T o X (Z ++ Y)) (hz : Le κ Z X) : LoI κ T (o ++ Z) X Y := (h.swap.takeX hz).swap
theorem LoI.endX {T o X : List Keyed} (h : LoI κ T o X []) : (o ++ X).Perm T ∧ Srt κ (o ++ X) := ⟨by have := h.perm; rwa [List.append_nil] at this, h.srt.mk' h.sX h.leX⟩
theorem LoI.endXY {T o X Y : List Keyed} (h : LoI κ T o X Y) (hz : Le κ Y X) : (o ++ Y ++ X).Perm T ∧ Srt κ (o ++ Y ++ X) :=
  ⟨by rw [List.append_assoc]; exact h.swap.perm, (h.srt.mk' h.sY h.leY).mk' h.sX (h.leX.app hz)⟩

structure HiI (κ : KeyKind) (T X Y o : List Keyed) : Prop where
  perm : ((X ++ Y) ++ o).Perm T
  srt : Srt κ o
  sX : Srt κ X
  sY : Srt κ Y
  leX : Le κ X o
  leY : Le κ Y o
theorem HiI.swap {T o X Y : List Keyed} (h : HiI κ T X Y o) : HiI κ T Y X o := ⟨((List.perm_append_comm (l₁ := Y) (l₂ := X)).append_right o).trans h.perm, h.srt, h.sY, h.sX, h.leY, h.leX⟩
theorem HiI.takeY {T o Z X Y : List Keyed} (h : HiI κ T X (Y ++ Z) o) (hz : Le κ X Z) : HiI κ T X Y (Z ++ o) :=
  ⟨by rw [← List.append_assoc, List.append_assoc X Y Z]; exact h.perm, h.sY.app.2.1.mk' h.srt h.leY.l.2, h.sX, h.sY.app.1,
    fun p hp q hq => (List.mem_append.mp hq).elim (fun h' => hz p hp q h') (fun h' => h.leX p hp q h'),
    fun p hp q hq => (List.mem_append.mp hq).elim (fun h' => h.sY.app.2.2 p hp q h') (fun h' => h.leY.l.1 p hp q h')⟩
theorem HiI.takeX {T o Z X Y : List Keyed} (h : HiI κ T (X ++ Z) Y o) (hz : Le κ Y Z) : HiI κ T X Y (Z ++ o) := (h.swap.takeY hz).swap
theorem HiI.endY {T o Y : List Keyed} (h : HiI κ T [] Y o) : (Y ++ o).Perm T ∧ Srt κ (Y ++ o) := ⟨by have := h.perm; rwa [List.nil_append] at this, h.sY.mk' h.srt h.leY⟩
theorem HiI.endXY {T o X Y : List Keyed} (h : HiI κ T X Y o) (hz : Le κ Y X) : (Y ++ X ++ o).Perm T ∧ Srt κ (Y ++ X ++ o) :=
  ⟨h.swap.perm, (h.sY.mk' h.sX hz).mk' h.srt (h.leY.app h.leX)⟩

theorem drop_at {a : Array Keyed} {i : Nat} {p : Keyed} (h : a[i]? = some p) : a.toList.drop i = p :: a.toList.drop (i + 1) := by
  have h' : a.toList[i]? = some p := by simpa using h
  obtain ⟨hi, e⟩ := List.getElem?_eq_some_iff.mp h'
  rw [List.drop_eq_getElem_cons hi, e]
theorem drop_split (a : Array Keyed) (i k : Nat) : a.toList.drop i = (a.extract i (i + k)).toList ++ a.toList.drop (i + k) := by
  have e : (a.extract i (i + k)).toList = (a.toList.drop i).take k := by
    rw [Array.toList_extract]; try simp [List.extract_eq_take_drop]
  rw [e, ← List.drop_drop, List.take_append_drop]
theorem take_at {a : Array Keyed} {i : Nat} {p : Keyed} (h : a[i]? = some p) : a.toList.take (i + 1) = a.toList.take i ++ [p] := by
  have h' : a.toList[i]? = some p := by simpa using h
  obtain ⟨hi, e⟩ := List.getElem?_eq_some_iff.mp h'
  rw [← List.take_append_getElem hi, e]
theorem take_split (a : Array Keyed) {i j : Nat} (h : i ≤ j) : a.toList.take j = a.toList.take i ++ (a.extract i j).toList := by
  have e : (a.extract i j).toList = (a.toList.drop i).take (j - i) := by
    rw [Array.toList_extract]; try simp [List.extract_eq_take_drop]
  rw [e, ← List.take_add, show i + (j - i) = j by omega]
theorem mem_extract' {a : Array Keyed} {i j : Nat} {p : Keyed} (h : p ∈ (a.extract i j).toList) : ∃ m, i ≤ m ∧ m < j ∧ a[m]? = some p := by
  obtain ⟨n, hn, e⟩ := List.mem_iff_getElem.mp h
  rw [Array.length_toList, Array.size_extract] at hn
  refine ⟨i + n, by omega, by omega, ?_⟩
  rw [← e, Array.getElem_toList, Array.getElem_extract]
  exact getElem?_pos a (i + n) (by omega)
theorem mem_drop' {a : Array Keyed} {i : Nat} {p : Keyed} (h : p ∈ a.toList.drop i) : ∃ m, i ≤ m ∧ m < a.size ∧ a[m]? = some p := by
  obtain ⟨n, hn, e⟩ := List.mem_iff_getElem.mp h
  rw [List.length_drop, Array.length_toList] at hn
  refine ⟨i + n, by omega, by omega, ?_⟩
  rw [← e, List.getElem_drop, Array.getElem_toList]
  exact getElem?_pos a (i + n) (by omega)
theorem mem_take' {a : Array Keyed} {i : Nat} {p : Keyed} (h : p ∈ a.toList.take i) : ∃ m, m < i ∧ m < a.size ∧ a[m]? = some p := by
  obtain ⟨n, hn, e⟩ := List.mem_iff_getElem.mp h
  rw [List.length_take, Array.length_toList] at hn
  refine ⟨n, by omega, by omega, ?_⟩
  rw [← e, List.getElem_take, Array.getElem_toList]
  exact getElem?_pos a n (by omega)
theorem srt_idx {a : Array Keyed} (hs : Srt κ a.toList) {i j : Nat} (hij : i ≤ j) (hj : j < a.size) : κ.kle (KK κ a i) (KK κ a j) := by
  have e1 : a[i]? = some a[i] := getElem?_pos a i (by omega)
  have e2 : a[j]? = some a[j] := getElem?_pos a j (by omega)
  rw [KK_at e1, KK_at e2]
  by_cases h : i = j
  · subst h; exact KeyOrd.kle_refl _
  · have := List.pairwise_iff_getElem.mp hs i j (by simpa using (by omega : i < a.size)) (by simpa using hj) (by omega)
    simpa using this
theorem bey_mono {arr : Array Keyed} {left : Bool} {key : Keyed} {base n : Nat} (hs : ∀ i j, base ≤ i → i ≤ j → j < base + n → κ.kle (KK κ arr i) (KK κ arr j)) :
    ∀ i j, i ≤ j → j < n → bey κ left key arr base j = true → bey κ left key arr base i = true := by
  intro i j hij hj h
  have h1 := hs (base + i) (base + j) (by omega) (by omega) (by omega)
  unfold bey at h ⊢
  cases left with
  | true => exact KeyOrd.klt_of_kle_of_klt h1 h
  | false =>
    simp only [Bool.false_eq_true, if_false, Bool.not_eq_true'] at h ⊢
    exact KeyOrd.kle_trans (O := κ.toKeyOrd) (a := KK κ arr (base + i)) (b := KK κ arr (base + j)) (c := kOf κ key) h1 h
end
end Mine

end
section
open PySem PySem.W PyProof.Rows PySem.Spec PySem.Calls
set_option Elab.async false
namespace Mine
section
variable {prog : Program} {w : World} {A : Around} {E : Value → Shared → Prop} {s : Shared} {κ : KeyKind}

structure Same (st₀ st : SortSt) : Prop where
  kind : kindOf st = kindOf st₀
  arr : arrOf st = arrOf st₀
  pend : pendingOf st = pendingOf st₀
  failed : failedOf st = failedOf st₀
theorem Same.rfl' {st : SortSt} : Same st st := ⟨rfl, rfl, rfl, rfl⟩

theorem gal_right (hO : κ.OneLt) {q : Keyed} {a : Array Keyed} {base n hint : Nat} {st : SortSt} {Q : Option Nat → SortSt → Prop} (hk : kindOf st = oneType')
    (hq : Keyd κ q) (ka : ∀ p ∈ a.toList, Keyd κ p) (sa : ∀ i j, base ≤ i → i ≤ j → j < base + n → κ.kle (KK κ a i) (KK κ a j)) (hn : base + n ≤ a.size) (hh : hint < n)
    (h : ∀ k, k ≤ n → (∀ m x, base ≤ m → m < base + k → a[m]? = some x → κ.kle (kOf κ x) (kOf κ q)) → (∀ m x, base + k ≤ m → m < base + n → a[m]? = some x → κ.klt (kOf κ q) (kOf κ x)) → Q (some k) st) :
    wpS (model prog w) A E s (gallop' false q a base n hint) Q st := by
  refine gallop_ok hO hk hq (fun i hi => ⟨a[base + i], getElem?_pos a (base + i) (by omega), ka _ (by simp)⟩) hh (bey_mono sa) fun k hkn h1 h2 => h k hkn ?_ ?_
  · intro m x hm1 hm2 e
    have := h1 (m - base) (by omega)
    unfold bey at this
    rw [show base + (m - base) = m by omega, KK_at e] at this
    simpa [KeyOrd.kle, KeyOrd.klt] using this
  · intro m x hm1 hm2 e
    have := h2 (m - base) (by omega) (by omega)
    unfold bey at this
    rw [show base + (m - base) = m by omega, KK_at e] at this
    simpa [KeyOrd.kle, KeyOrd.klt] using this

theorem gal_left (hO : κ.OneLt) {q : Keyed} {a : Array Keyed} {base n hint : Nat} {st : SortSt} {Q : Option Nat → SortSt → Prop} (hk : kindOf st = oneType')
    (hq : Keyd κ q) (ka : ∀ p ∈ a.toList, Keyd κ p) (sa : ∀ i j, base ≤ i → i ≤ j → j < base + n → κ.kle (KK κ a i) (KK κ a j)) (hn : base + n ≤ a.size) (hh : hint < n)
    (h : ∀ k, k ≤ n → (∀ m x, base ≤ m → m < base + k → a[m]? = some x → κ.klt (kOf κ x) (kOf κ q)) → (∀ m x, base + k ≤ m → m < base + n → a[m]? = some x → κ.kle (kOf κ q) (kOf κ x)) → Q (some k) st) :
    wpS (model prog w) A E s (gallop' true q a base n hint) Q st := by
  refine gallop_ok hO hk hq (fun i hi => ⟨a[base + i], getElem?_pos a (base + i) (by omega), ka _ (by simp)⟩) hh (bey_mono sa) fun k hkn h1 h2 => h k hkn ?_ ?_
  · intro m x hm1 hm2 e
    have := h1 (m - base) (by omega)
    unfold bey at this
    rw [show base + (m - base) = m by omega, KK_at e] at this
    simpa [KeyOrd.kle, KeyOrd.klt] using this
  · intro m x hm1 hm2 e
    have := h2 (m - base) (by omega) (by omega)
    unfold bey at this
    rw [show base + (m - base) = m by omega, KK_at e] at this
    simpa [KeyOrd.kle, KeyOrd.klt] using this

abbrev Good (κ : KeyKind) (T : List Keyed) (o : Array Keyed) : Prop := o.toList.Perm T ∧ Srt κ o.toList
theorem ext_drop (a : Array Keyed) (i : Nat) : (a.extract i a.size).toList = a.toList.drop i := by
  rw [Array.toList_extract]; simp [List.extract_eq_take_drop]; try rw [List.take_of_length_le]; try simp
section lo
variable {a b : Array Keyed} {T : List Keyed}
abbrev LoA (κ : KeyKind) (a b : Array Keyed) (T : List Keyed) (o : Array Keyed) (i j : Nat) : Prop := LoI κ T o.toList (a.toList.drop i) (b.toList.drop j)
theorem LoA.doneG {o : Array Keyed} {i j : Nat} (h : LoA κ a b T o i j) (hz : Le κ (a.toList.drop i) (b.toList.drop j)) : Good κ T (o ++ a.extract i a.size ++ b.extract j b.size) := by
  unfold Good; rw [Array.toList_append, Array.toList_append, ext_drop, ext_drop]; exact h.swap.endXY hz
theorem LoA.lastG {o : Array Keyed} {i j : Nat} (h : LoA κ a b T o i j) (hz : Le κ (b.toList.drop j) (a.toList.drop i)) : Good κ T (o ++ b.extract j b.size ++ a.extract i a.size) := by
  unfold Good; rw [Array.toList_append, Array.toList_append, ext_drop, ext_drop]; exact h.endXY hz
theorem LoA.pushA {o : Array Keyed} {i j : Nat} {p : Keyed} (h : LoA κ a b T o i j) (e : a[i]? = some p) (hz : Le κ [p] (b.toList.drop j)) : LoA κ a b T (o.push p) (i + 1) j := by
  unfold LoA at h ⊢; rw [drop_at e, show p :: a.toList.drop (i + 1) = [p] ++ a.toList.drop (i + 1) from rfl] at h; rw [Array.toList_push]; exact h.takeX hz
theorem LoA.pushB {o : Array Keyed} {i j : Nat} {p : Keyed} (h : LoA κ a b T o i j) (e : b[j]? = some p) (hz : Le κ [p] (a.toList.drop i)) : LoA κ a b T (o.push p) i (j + 1) := by
  unfold LoA at h ⊢; rw [drop_at e, show p :: b.toList.drop (j + 1) = [p] ++ b.toList.drop (j + 1) from rfl] at h; rw [Array.toList_push]; exact h.takeY hz
theorem LoA.extA {o : Array Keyed} {i j k : Nat} (h : LoA κ a b T o i j) (hz : Le κ (a.extract i (i + k)).toList (b.toList.drop j)) : LoA κ a b T (o ++ a.extract i (i + k)) (i + k) j := by
  unfold LoA at h ⊢; rw [drop_split a i k] at h; rw [Array.toList_append]; exact h.takeX hz
theorem LoA.extB {o : Array Keyed} {i j k : Nat} (h : LoA κ a b T o i j) (hz : Le κ (b.extract j (j + k)).toList (a.toList.drop i)) : LoA κ a b T (o ++ b.extract j (j + k)) i (j + k) := by
  unfold LoA at h ⊢; rw [drop_split b j k] at h; rw [Array.toList_append]; exact h.takeY hz
end lo
theorem drop_nil' {a : Array Keyed} {i : Nat} (h : a.size ≤ i) : a.toList.drop i = [] := List.drop_eq_nil_of_le (by simpa using h)
theorem Srt.drop' {l : List Keyed} (h : Srt κ l) (i : Nat) : Srt κ (l.drop i) := List.Pairwise.sublist (List.drop_sublist i l) h
theorem Srt.take' {l : List Keyed} (h : Srt κ l) (i : Nat) : Srt κ (l.take i) := List.Pairwise.sublist (List.take_sublist i l) h
theorem le_drop {a : Array Keyed} (sa : Srt κ a.toList) {i : Nat} {p q : Keyed} (e : a[i]? = some p) (h : κ.kle (kOf κ q) (kOf κ p)) : Le κ [q] (a.toList.drop i) := by
  have := sa.drop' i
  rw [drop_at e] at this ⊢
  exact Le.head this fun x hx => by rw [List.mem_singleton.mp hx]; exact h
theorem ext_le {a b : Array Keyed} (sb : Srt κ b.toList) {i j n : Nat} {q : Keyed} (e : b[j]? = some q) (h : ∀ m x, i ≤ m → m < n → a[m]? = some x → κ.kle (kOf κ x) (kOf κ q)) : Le κ (a.extract i n).toList (b.toList.drop j) := by
  have := sb.drop' j
  rw [drop_at e] at this ⊢
  refine Le.head this fun x hx => ?_
  obtain ⟨m, h1, h2, h3⟩ := mem_extract' hx
  exact h m x h1 h2 h3
theorem le_dropI {a : Array Keyed} {i : Nat} {q : Keyed} (h : ∀ m x, i ≤ m → m < a.size → a[m]? = some x → κ.kle (kOf κ q) (kOf κ x)) : Le κ [q] (a.toList.drop i) := by
  intro p hp x hx
  obtain ⟨m, h1, h2, h3⟩ := mem_drop' hx
  rw [List.mem_singleton.mp hp]; exact h m x h1 h2 h3
end
end Mine

end
section
open PySem PySem.W PyProof.Rows PySem.Spec PySem.Calls
set_option Elab.async false
set_option maxHeartbeats 1000000
namespace Mine
section
variable {prog : Program} {w : World} {A : Around} {E : Value → Shared → Prop} {s : Shared} {κ : KeyKind}

theorem setG {st st' : SortSt} (h : Same st st') (g : Nat) : Same st (SortSt.mk' (kindOf st') (arrOf st') (pendingOf st') g (failedOf st')) := ⟨h.kind, h.arr, h.pend, h.failed⟩

theorem mergeLo_ok (hO : κ.OneLt) {a b : Array Keyed} {st : SortSt} {Q : Array Keyed → SortSt → Prop} (hk : kindOf st = oneType')
    (ka : ∀ p ∈ a.toList, Keyd κ p) (kb : ∀ p ∈ b.toList, Keyd κ p) (sa : Srt κ a.toList) (sb : Srt κ b.toList) (na : 0 < a.size) (nb : 0 < b.size)
    (hfirst : ∀ p, b[0]? = some p → Le κ [p] a.toList) (hlast : Le κ b.toList (a.toList.drop (a.size - 1)))
    (h : ∀ out st', Same st st' → Good κ (a.toList ++ b.toList) out → Q out st') :
    wpS (model prog w) A E s (mergeLo' a b) Q st := by
  have hka : ∀ {i p}, a[i]? = some p → Keyd κ p := fun e => ka _ (by obtain ⟨hi, e⟩ := Array.getElem?_eq_some_iff.mp e; rw [← e]; simp)
  have hkb : ∀ {i p}, b[i]? = some p → Keyd κ p := fun e => kb _ (by obtain ⟨hi, e⟩ := Array.getElem?_eq_some_iff.mp e; rw [← e]; simp)
  have iA : ∀ i, i < a.size → ∃ p, a[i]? = some p := fun i hi => ⟨_, getElem?_pos a i hi⟩
  have iB : ∀ i, i < b.size → ∃ p, b[i]? = some p := fun i hi => ⟨_, getElem?_pos b i hi⟩
  have hend : ∀ i j, i + 1 = a.size → Le κ (b.toList.drop j) (a.toList.drop i) := fun i j e p hp => by
    rw [show i = a.size - 1 by omega]; exact hlast p (List.mem_of_mem_drop hp)
  generalize hT : a.toList ++ b.toList = T at h
  refine wpS_bind ?_
  refine wpS_lift (wpAny_rule ⟨rfl, ?_⟩)
  try dsimp only
  obtain ⟨p0, e0⟩ := iB 0 nb
  refine wpS_bind ?_
  refine elem_ok e0 ?_
  try dsimp only
  have I0 : LoA κ a b T #[p0] 0 1 := by
    have h0 : LoA κ a b T #[] 0 0 := ⟨by rw [← hT]; simp, List.Pairwise.nil, sa, sb, fun _ h => absurd h (by simp), fun _ h => absurd h (by simp)⟩
    exact h0.pushB e0 (hfirst _ e0)
  by_cases hb1 : 1 = b.size
  · rw [if_pos (by simpa using hb1)]
    exact wpS_pure (h _ _ Same.rfl' (I0.doneG (by rw [drop_nil' (a := b) (by omega)]; exact Le.nil_r)))
  rw [if_neg (by simpa using hb1)]
  by_cases ha1 : 0 + 1 = a.size
  · rw [if_pos (by simpa using ha1)]
    exact wpS_pure (h _ _ Same.rfl' (I0.lastG (hend 0 1 ha1)))
  rw [if_neg (by simpa using ha1)]
  refine wpS_bind (wpS_get ?_)
  try dsimp only
  refine wpS_bind (wpS_mono (wpS_forRange
    (I := fun x c st' => ∃ o i j mg, c = (none, o, i, j, mg) ∧ Same st st' ∧ LoA κ a b T o i j ∧ i + 1 < a.size ∧ j < b.size ∧ x + 1 ≤ i + j)
    (Q := fun c st' => Same st st' ∧ ∃ r, c.1 = some r ∧ Good κ T r) ?step ?fin ?init) ?post)
  case init => exact ⟨_, 0, 1, _, rfl, Same.rfl', I0, by omega, by omega, by omega⟩
  case fin =>
    rintro c st' ⟨o, i, j, mg, rfl, _, _, h1, h2, h3⟩
    omega
  case post =>
    rintro ⟨c1, c2⟩ st' ⟨hS, r, e, hG⟩
    dsimp only at e
    subst e
    exact wpS_pure (h _ _ hS hG)
  case step =>
    rintro x c st' _ hx ⟨o, i, j, mg, rfl, hS, hI, h1, h2, h3⟩
    try dsimp only
    refine wpS_bind (wpS_mono (wpS_forRange
      (I := fun y c st'' => ∃ o i' j' ac bc, c = (none, o, i', j', ac, bc) ∧ Same st st'' ∧ LoA κ a b T o i' j' ∧ i' + 1 < a.size ∧ j' < b.size ∧ i + j + y ≤ i' + j')
      (Q := fun c st'' => Same st st'' ∧ ((∃ r, c.1 = some r ∧ Good κ T r) ∨ (∃ o i' j' ac bc, c = (none, o, i', j', ac, bc) ∧ LoA κ a b T o i' j' ∧ i' + 1 < a.size ∧ j' < b.size ∧ i + j + 1 ≤ i' + j'))) ?step ?fin ?init) ?post)
    case init => exact ⟨_, i, j, _, _, rfl, hS, hI, h1, h2, by omega⟩
    case fin =>
      rintro c st'' ⟨o, i', j', ac, bc, rfl, hS', hI', h1', h2', h3'⟩
      exact ⟨hS', .inr ⟨_, _, _, _, _, rfl, hI', h1', h2', by omega⟩⟩
    case step =>
      rintro y c st'' _ hy ⟨o, i', j', ac, bc, rfl, hS', hI', h1', h2', h3'⟩
      try dsimp only
      obtain ⟨p, ep⟩ := iA i' (by omega)
      obtain ⟨q, eq⟩ := iB j' h2'
      refine wpS_bind ?_
      refine elem_ok eq ?_
      refine wpS_bind ?_
      refine elem_ok ep ?_
      refine wpS_bind ?_
      refine lt_ok hO (hS'.kind.trans hk) (hkb eq) (hka ep) ?_
      try dsimp only
      cases hlt : κ.blt (kOf κ q) (kOf κ p)
      case true =>
        simp only [if_true]
        refine wpS_bind ?_
        refine elem_ok eq ?_
        have hI2 := hI'.pushB eq (le_drop sa ep (KeyOrd.kle_of_klt hlt))
        by_cases hz : j' + 1 = b.size
        · rw [if_pos (by simpa using hz)]
          exact wpS_pure ⟨hS', .inl ⟨_, rfl, hI2.doneG (by rw [drop_nil' (a := b) (by omega)]; exact Le.nil_r)⟩⟩
        · rw [if_neg (by simpa using hz)]
          split
          · exact wpS_pure ⟨hS', .inr ⟨_, _, _, _, _, rfl, hI2, h1', by omega, by omega⟩⟩
          · exact wpS_pure ⟨_, _, _, _, _, rfl, hS', hI2, h1', by omega, by omega⟩
      case false =>
        simp only [Bool.false_eq_true, if_false]
        refine wpS_bind ?_
        refine elem_ok ep ?_
        have hI2 := hI'.pushA ep (le_drop sb eq hlt)
        by_cases hz : i' + 1 + 1 = a.size
        · rw [if_pos (by simpa using hz)]
          exact wpS_pure ⟨hS', .inl ⟨_, rfl, hI2.lastG (hend _ _ hz)⟩⟩
        · rw [if_neg (by simpa using hz)]
          split
          · exact wpS_pure ⟨hS', .inr ⟨_, _, _, _, _, rfl, hI2, by omega, h2', by omega⟩⟩
          · exact wpS_pure ⟨_, _, _, _, _, rfl, hS', hI2, by omega, h2', by omega⟩
    case post =>
      rintro ⟨c1, c2⟩ st'' ⟨hS', ⟨r, e, hG⟩ | ⟨o, i', j', ac, bc, e, hI', h1', h2', h3'⟩⟩
      · dsimp only at e
        subst e
        exact wpS_pure ⟨hS', r, rfl, hG⟩
      · obtain ⟨rfl, rfl⟩ := Prod.mk.inj e
        try dsimp only
        refine wpS_bind ?_
        refine wpS_lift (wpAny_rule ⟨rfl, ?_⟩)
        refine wpS_bind (wpS_mono (wpS_forRange
          (I := fun y c st'' => ∃ o i' j' mg ac bc, c = (none, o, i', j', mg, ac, bc) ∧ Same st st'' ∧ LoA κ a b T o i' j' ∧ i' + 1 < a.size ∧ j' < b.size ∧ i + j + 1 ≤ i' + j')
          (Q := fun c st'' => Same st st'' ∧ ((∃ r, c.1 = some r ∧ Good κ T r) ∨ (∃ o i' j' mg ac bc, c = (none, o, i', j', mg, ac, bc) ∧ LoA κ a b T o i' j' ∧ i' + 1 < a.size ∧ j' < b.size ∧ i + j + 1 ≤ i' + j'))) ?step ?fin ?init) ?post)
        case init => exact ⟨_, i', j', _, _, _, rfl, hS', hI', h1', h2', h3'⟩
        case fin =>
          rintro c st'' ⟨o, i', j', mg, ac, bc, rfl, hS', hI', h1', h2', h3'⟩
          exact ⟨hS', .inr ⟨_, _, _, _, _, _, rfl, hI', h1', h2', h3'⟩⟩
        case post =>
          rintro ⟨c1, c2⟩ st'' ⟨hS', ⟨r, e, hG⟩ | ⟨o, i', j', mg, ac, bc, e, hI', h1', h2', h3'⟩⟩
          · dsimp only at e
            subst e
            exact wpS_pure ⟨hS', r, rfl, hG⟩
          · obtain ⟨rfl, rfl⟩ := Prod.mk.inj e
            try dsimp only
            refine wpS_bind ?_
            refine wpS_modify ?_
            exact wpS_pure ⟨_, _, _, _, rfl, ⟨hS'.kind, hS'.arr, hS'.pend, hS'.failed⟩, hI', h1', h2', by omega⟩
        case step =>
          rintro y c st'' _ hy ⟨o, i', j', mg, ac, bc, rfl, hS', hI', h1', h2', h3'⟩
          try dsimp only
          by_cases hmg : mg > 1
          · rw [if_pos hmg]
            refine wpS_bind ?_
            refine wpS_modify ?_
            obtain ⟨q, eq⟩ := iB j' h2'
            refine wpS_bind ?_
            refine elem_ok eq ?_
            have S' := setG hS' (mg - 1)
            refine wpS_bind ?_
            refine gal_right hO (S'.kind.trans hk) (hkb eq) ka (fun i j _ hij hj => srt_idx sa hij (by omega)) (by omega) (by omega) ?_
            intro k hk1 g1 g2
            try dsimp only
            have X1 : Le κ (a.extract i' (i' + k)).toList (b.toList.drop j') := ext_le sb eq (fun m x h1 h2 e => g1 m x h1 h2 e)
            have X2 : Le κ [q] (a.toList.drop (i' + k)) := le_dropI fun m x h1 h2 e => KeyOrd.kle_of_klt (g2 m x h1 (by omega) e)
            have JI := hI'.extA X1
            by_cases k0 : k > 0
            · rw [if_pos k0]
              by_cases z1 : i' + k + 1 = a.size
              · rw [if_pos (by simpa using z1)]
                exact wpS_pure ⟨S', .inl ⟨_, rfl, JI.lastG (hend _ _ z1)⟩⟩
              rw [if_neg (by simpa using z1)]
              by_cases z2 : i' + k = a.size
              · rw [if_pos (by simpa using z2)]
                exact wpS_pure ⟨S', .inl ⟨_, rfl, JI.doneG (by rw [drop_nil' (a := a) (by omega)]; exact fun _ h => absurd h (by simp))⟩⟩
              rw [if_neg (by simpa using z2)]
              have hi2 : i' + k + 1 < a.size := by omega
              have hpr : i + j + 1 ≤ i' + k + j' := by omega
              generalize o ++ a.extract i' (i' + k) = o2 at JI ⊢
              generalize i' + k = i2 at JI X2 hi2 hpr ⊢
              refine wpS_bind ?_
              refine elem_ok eq ?_
              try dsimp only
              have J2 := JI.pushB eq X2
              by_cases z3 : j' + 1 = b.size
              · rw [if_pos (by simpa using z3)]
                exact wpS_pure ⟨S', .inl ⟨_, rfl, J2.doneG (by rw [drop_nil' (a := b) (by omega)]; exact Le.nil_r)⟩⟩
              rw [if_neg (by simpa using z3)]
              obtain ⟨p, ep⟩ := iA i2 (by omega)
              refine wpS_bind ?_
              refine elem_ok ep ?_
              refine wpS_bind ?_
              refine gal_left hO (S'.kind.trans hk) (hka ep) kb (fun i j _ hij hj => srt_idx sb hij (by omega)) (by omega) (by omega) ?_
              intro k' hk' g3 g4
              try dsimp only
              have X3 : Le κ (b.extract (j' + 1) (j' + 1 + k')).toList (a.toList.drop i2) := ext_le sa ep (fun m x h1 h2 e => KeyOrd.kle_of_klt (g3 m x h1 h2 e))
              have X4 : Le κ [p] (b.toList.drop (j' + 1 + k')) := le_dropI fun m x h1 h2 e => g4 m x h1 (by omega) e
              have J3 := J2.extB X3
              by_cases k1 : k' > 0
              · rw [if_pos k1]
                by_cases z4 : j' + 1 + k' = b.size
                · rw [if_pos (by simpa using z4)]
                  exact wpS_pure ⟨S', .inl ⟨_, rfl, J3.doneG (by rw [drop_nil' (a := b) (by omega)]; exact Le.nil_r)⟩⟩
                · rw [if_neg (by simpa using z4)]
                  refine wpS_bind ?_
                  refine elem_ok ep ?_
                  try dsimp only
                  have J4 := J3.pushA ep X4
                  by_cases z5 : i2 + 1 + 1 = a.size
                  · rw [if_pos (by simpa using z5)]
                    exact wpS_pure ⟨S', .inl ⟨_, rfl, J4.lastG (hend _ _ z5)⟩⟩
                  · rw [if_neg (by simpa using z5)]
                    split
                    · exact wpS_pure ⟨S', .inr ⟨_, _, _, _, _, _, rfl, J4, by omega, by omega, by omega⟩⟩
                    · exact wpS_pure ⟨_, _, _, _, _, _, rfl, S', J4, by omega, by omega, by omega⟩
              · rw [if_neg k1]
                obtain rfl : k' = 0 := by omega
                rw [Nat.add_zero] at X4
                refine wpS_bind ?_
                refine elem_ok ep ?_
                try dsimp only
                have J4 := J2.pushA ep X4
                by_cases z5 : i2 + 1 + 1 = a.size
                · rw [if_pos (by simpa using z5)]
                  exact wpS_pure ⟨S', .inl ⟨_, rfl, J4.lastG (hend _ _ z5)⟩⟩
                · rw [if_neg (by simpa using z5)]
                  split
                  · exact wpS_pure ⟨S', .inr ⟨_, _, _, _, _, _, rfl, J4, by omega, by omega, by omega⟩⟩
                  · exact wpS_pure ⟨_, _, _, _, _, _, rfl, S', J4, by omega, by omega, by omega⟩
            · rw [if_neg k0]
              obtain rfl : k = 0 := by omega
              rw [Nat.add_zero] at X2
              replace JI := hI'
              have hi2 : i' + 1 < a.size := by omega
              have hpr : i + j + 1 ≤ i' + j' := by omega
              generalize i' = i2 at JI X2 hi2 hpr ⊢
              refine wpS_bind ?_
              refine elem_ok eq ?_
              try dsimp only
              have J2 := JI.pushB eq X2
              by_cases z3 : j' + 1 = b.size
              · rw [if_pos (by simpa using z3)]
                exact wpS_pure ⟨S', .inl ⟨_, rfl, J2.doneG (by rw [drop_nil' (a := b) (by omega)]; exact Le.nil_r)⟩⟩
              rw [if_neg (by simpa using z3)]
              obtain ⟨p, ep⟩ := iA i2 (by omega)
              refine wpS_bind ?_
              refine elem_ok ep ?_
              refine wpS_bind ?_
              refine gal_left hO (S'.kind.trans hk) (hka ep) kb (fun i j _ hij hj => srt_idx sb hij (by omega)) (by omega) (by omega) ?_
              intro k' hk' g3 g4
              try dsimp only
              have X3 : Le κ (b.extract (j' + 1) (j' + 1 + k')).toList (a.toList.drop i2) := ext_le sa ep (fun m x h1 h2 e => KeyOrd.kle_of_klt (g3 m x h1 h2 e))
              have X4 : Le κ [p] (b.toList.drop (j' + 1 + k')) := le_dropI fun m x h1 h2 e => g4 m x h1 (by omega) e
              have J3 := J2.extB X3
              by_cases k1 : k' > 0
              · rw [if_pos k1]
                by_cases z4 : j' + 1 + k' = b.size
                · rw [if_pos (by simpa using z4)]
                  exact wpS_pure ⟨S', .inl ⟨_, rfl, J3.doneG (by rw [drop_nil' (a := b) (by omega)]; exact Le.nil_r)⟩⟩
                · rw [if_neg (by simpa using z4)]
                  refine wpS_bind ?_
                  refine elem_ok ep ?_
                  try dsimp only
                  have J4 := J3.pushA ep X4
                  by_cases z5 : i2 + 1 + 1 = a.size
                  · rw [if_pos (by simpa using z5)]
                    exact wpS_pure ⟨S', .inl ⟨_, rfl, J4.lastG (hend _ _ z5)⟩⟩
                  · rw [if_neg (by simpa using z5)]
                    split
                    · exact wpS_pure ⟨S', .inr ⟨_, _, _, _, _, _, rfl, J4, by omega, by omega, by omega⟩⟩
                    · exact wpS_pure ⟨_, _, _, _, _, _, rfl, S', J4, by omega, by omega, by omega⟩
              · rw [if_neg k1]
                obtain rfl : k' = 0 := by omega
                rw [Nat.add_zero] at X4
                refine wpS_bind ?_
                refine elem_ok ep ?_
                try dsimp only
                have J4 := J2.pushA ep X4
                by_cases z5 : i2 + 1 + 1 = a.size
                · rw [if_pos (by simpa using z5)]
                  exact wpS_pure ⟨S', .inl ⟨_, rfl, J4.lastG (hend _ _ z5)⟩⟩
                · rw [if_neg (by simpa using z5)]
                  split
                  · exact wpS_pure ⟨S', .inr ⟨_, _, _, _, _, _, rfl, J4, by omega, by omega, by omega⟩⟩
                  · exact wpS_pure ⟨_, _, _, _, _, _, rfl, S', J4, by omega, by omega, by omega⟩
          · rw [if_neg hmg]
            refine wpS_bind ?_
            refine wpS_modify ?_
            obtain ⟨q, eq⟩ := iB j' h2'
            refine wpS_bind ?_
            refine elem_ok eq ?_
            have S' := setG hS' mg
            refine wpS_bind ?_
            refine gal_right hO (S'.kind.trans hk) (hkb eq) ka (fun i j _ hij hj => srt_idx sa hij (by omega)) (by omega) (by omega) ?_
            intro k hk1 g1 g2
            try dsimp only
            have X1 : Le κ (a.extract i' (i' + k)).toList (b.toList.drop j') := ext_le sb eq (fun m x h1 h2 e => g1 m x h1 h2 e)
            have X2 : Le κ [q] (a.toList.drop (i' + k)) := le_dropI fun m x h1 h2 e => KeyOrd.kle_of_klt (g2 m x h1 (by omega) e)
            have JI := hI'.extA X1
            by_cases k0 : k > 0
            · rw [if_pos k0]
              by_cases z1 : i' + k + 1 = a.size
              · rw [if_pos (by simpa using z1)]
                exact wpS_pure ⟨S', .inl ⟨_, rfl, JI.lastG (hend _ _ z1)⟩⟩
              rw [if_neg (by simpa using z1)]
              by_cases z2 : i' + k = a.size
              · rw [if_pos (by simpa using z2)]
                exact wpS_pure ⟨S', .inl ⟨_, rfl, JI.doneG (by rw [drop_nil' (a := a) (by omega)]; exact fun _ h => absurd h (by simp))⟩⟩
              rw [if_neg (by simpa using z2)]
              have hi2 : i' + k + 1 < a.size := by omega
              have hpr : i + j + 1 ≤ i' + k + j' := by omega
              generalize o ++ a.extract i' (i' + k) = o2 at JI ⊢
              generalize i' + k = i2 at JI X2 hi2 hpr ⊢
              refine wpS_bind ?_
              refine elem_ok eq ?_
              try dsimp only
              have J2 := JI.pushB eq X2
              by_cases z3 : j' + 1 = b.size
              · rw [if_pos (by simpa using z3)]
                exact wpS_pure ⟨S', .inl ⟨_, rfl, J2.doneG (by rw [drop_nil' (a := b) (by omega)]; exact Le.nil_r)⟩⟩
              rw [if_neg (by simpa using z3)]
              obtain ⟨p, ep⟩ := iA i2 (by omega)
              refine wpS_bind ?_
              refine elem_ok ep ?_
              refine wpS_bind ?_
              refine gal_left hO (S'.kind.trans hk) (hka ep) kb (fun i j _ hij hj => srt_idx sb hij (by omega)) (by omega) (by omega) ?_
              intro k' hk' g3 g4
              try dsimp only
              have X3 : Le κ (b.extract (j' + 1) (j' + 1 + k')).toList (a.toList.drop i2) := ext_le sa ep (fun m x h1 h2 e => KeyOrd.kle_of_klt (g3 m x h1 h2 e))
              have X4 : Le κ [p] (b.toList.drop (j' + 1 + k')) := le_dropI fun m x h1 h2 e => g4 m x h1 (by omega) e
              have J3 := J2.extB X3
              by_cases k1 : k' > 0
              · rw [if_pos k1]
                by_cases z4 : j' + 1 + k' = b.size
                · rw [if_pos (by simpa using z4)]
                  exact wpS_pure ⟨S', .inl ⟨_, rfl, J3.doneG (by rw [drop_nil' (a := b) (by omega)]; exact Le.nil_r)⟩⟩
                · rw [if_neg (by simpa using z4)]
                  refine wpS_bind ?_
                  refine elem_ok ep ?_
                  try dsimp only
                  have J4 := J3.pushA ep X4
                  by_cases z5 : i2 + 1 + 1 = a.size
                  · rw [if_pos (by simpa using z5)]
                    exact wpS_pure ⟨S', .inl ⟨_, rfl, J4.lastG (hend _ _ z5)⟩⟩
                  · rw [if_neg (by simpa using z5)]
                    split
                    · exact wpS_pure ⟨S', .inr ⟨_, _, _, _, _, _, rfl, J4, by omega, by omega, by omega⟩⟩
                    · exact wpS_pure ⟨_, _, _, _, _, _, rfl, S', J4, by omega, by omega, by omega⟩
              · rw [if_neg k1]
                obtain rfl : k' = 0 := by omega
                rw [Nat.add_zero] at X4
                refine wpS_bind ?_
                refine elem_ok ep ?_
                try dsimp only
                have J4 := J2.pushA ep X4
                by_cases z5 : i2 + 1 + 1 = a.size
                · rw [if_pos (by simpa using z5)]
                  exact wpS_pure ⟨S', .inl ⟨_, rfl, J4.lastG (hend _ _ z5)⟩⟩
                · rw [if_neg (by simpa using z5)]
                  split
                  · exact wpS_pure ⟨S', .inr ⟨_, _, _, _, _, _, rfl, J4, by omega, by omega, by omega⟩⟩
                  · exact wpS_pure ⟨_, _, _, _, _, _, rfl, S', J4, by omega, by omega, by omega⟩
            · rw [if_neg k0]
              obtain rfl : k = 0 := by omega
              rw [Nat.add_zero] at X2
              replace JI := hI'
              have hi2 : i' + 1 < a.size := by omega
              have hpr : i + j + 1 ≤ i' + j' := by omega
              generalize i' = i2 at JI X2 hi2 hpr ⊢
              refine wpS_bind ?_
              refine elem_ok eq ?_
              try dsimp only
              have J2 := JI.pushB eq X2
              by_cases z3 : j' + 1 = b.size
              · rw [if_pos (by simpa using z3)]
                exact wpS_pure ⟨S', .inl ⟨_, rfl, J2.doneG (by rw [drop_nil' (a := b) (by omega)]; exact Le.nil_r)⟩⟩
              rw [if_neg (by simpa using z3)]
              obtain ⟨p, ep⟩ := iA i2 (by omega)
              refine wpS_bind ?_
              refine elem_ok ep ?_
              refine wpS_bind ?_
              refine gal_left hO (S'.kind.trans hk) (hka ep) kb (fun i j _ hij hj => srt_idx sb hij (by omega)) (by omega) (by omega) ?_
              intro k' hk' g3 g4
              try dsimp only
              have X3 : Le κ (b.extract (j' + 1) (j' + 1 + k')).toList (a.toList.drop i2) := ext_le sa ep (fun m x h1 h2 e => KeyOrd.kle_of_klt (g3 m x h1 h2 e))
              have X4 : Le κ [p] (b.toList.drop (j' + 1 + k')) := le_dropI fun m x h1 h2 e => g4 m x h1 (by omega) e
              have J3 := J2.extB X3
              by_cases k1 : k' > 0
              · rw [if_pos k1]
                by_cases z4 : j' + 1 + k' = b.size
                · rw [if_pos (by simpa using z4)]
                  exact wpS_pure ⟨S', .inl ⟨_, rfl, J3.doneG (by rw [drop_nil' (a := b) (by omega)]; exact Le.nil_r)⟩⟩
                · rw [if_neg (by simpa using z4)]
                  refine wpS_bind ?_
                  refine elem_ok ep ?_
                  try dsimp only
                  have J4 := J3.pushA ep X4
                  by_cases z5 : i2 + 1 + 1 = a.size
                  · rw [if_pos (by simpa using z5)]
                    exact wpS_pure ⟨S', .inl ⟨_, rfl, J4.lastG (hend _ _ z5)⟩⟩
                  · rw [if_neg (by simpa using z5)]
                    split
                    · exact wpS_pure ⟨S', .inr ⟨_, _, _, _, _, _, rfl, J4, by omega, by omega, by omega⟩⟩
                    · exact wpS_pure ⟨_, _, _, _, _, _, rfl, S', J4, by omega, by omega, by omega⟩
              · rw [if_neg k1]
                obtain rfl : k' = 0 := by omega
                rw [Nat.add_zero] at X4
                refine wpS_bind ?_
                refine elem_ok ep ?_
                try dsimp only
                have J4 := J2.pushA ep X4
                by_cases z5 : i2 + 1 + 1 = a.size
                · rw [if_pos (by simpa using z5)]
                  exact wpS_pure ⟨S', .inl ⟨_, rfl, J4.lastG (hend _ _ z5)⟩⟩
                · rw [if_neg (by simpa using z5)]
                  split
                  · exact wpS_pure ⟨S', .inr ⟨_, _, _, _, _, _, rfl, J4, by omega, by omega, by omega⟩⟩
                  · exact wpS_pure ⟨_, _, _, _, _, _, rfl, S', J4, by omega, by omega, by omega⟩
end
end Mine

end
section
open PySem PySem.W PyProof.Rows PySem.Spec PySem.Calls
set_option Elab.async false
set_option maxHeartbeats 1000000
namespace Mine
section
variable {prog : Program} {w : World} {A : Around} {E : Value → Shared → Prop} {s : Shared} {κ : KeyKind}
theorem ext_take (a : Array Keyed) (n : Nat) : (a.extract 0 n).toList = a.toList.take n := by
  rw [Array.toList_extract]; simp [List.extract_eq_take_drop]
section hi
variable {a b : Array Keyed} {T : List Keyed}
abbrev HiA (κ : KeyKind) (a b : Array Keyed) (T : List Keyed) (i j : Nat) (o : Array Keyed) : Prop := HiI κ T (a.toList.take i) (b.toList.take j) o.toList.reverse
theorem HiA.doneG {o : Array Keyed} {i j : Nat} (h : HiA κ a b T i j o) (hz : Le κ (a.toList.take i) (b.toList.take j)) : Good κ T (a.extract 0 i ++ b.extract 0 j ++ o.reverse) := by
  unfold Good; rw [Array.toList_append, Array.toList_append, ext_take, ext_take, Array.toList_reverse]; exact h.swap.endXY hz
theorem HiA.firstG {o : Array Keyed} {i j : Nat} (h : HiA κ a b T i j o) (hz : Le κ (b.toList.take j) (a.toList.take i)) : Good κ T (b.extract 0 j ++ a.extract 0 i ++ o.reverse) := by
  unfold Good; rw [Array.toList_append, Array.toList_append, ext_take, ext_take, Array.toList_reverse]; exact h.endXY hz
theorem HiA.pushA {o : Array Keyed} {i j : Nat} {p : Keyed} (h : HiA κ a b T i j o) (hi : 1 ≤ i) (e : a[i - 1]? = some p) (hz : Le κ (b.toList.take j) [p]) : HiA κ a b T (i - 1) j (o.push p) := by
  unfold HiA at h ⊢
  rw [show i = i - 1 + 1 by omega, take_at e] at h
  rw [Array.toList_push, List.reverse_append]
  exact h.takeX hz
theorem HiA.pushB {o : Array Keyed} {i j : Nat} {p : Keyed} (h : HiA κ a b T i j o) (hi : 1 ≤ j) (e : b[j - 1]? = some p) (hz : Le κ (a.toList.take i) [p]) : HiA κ a b T i (j - 1) (o.push p) := by
  unfold HiA at h ⊢
  rw [show j = j - 1 + 1 by omega, take_at e] at h
  rw [Array.toList_push, List.reverse_append]
  exact h.takeY hz
theorem HiA.extA {o : Array Keyed} {i j k : Nat} (h : HiA κ a b T i j o) (hk : k ≤ i) (hz : Le κ (b.toList.take j) (a.extract k i).toList) : HiA κ a b T k j (o ++ (a.extract k i).reverse) := by
  unfold HiA at h ⊢
  rw [take_split a hk] at h
  rw [Array.toList_append, Array.toList_reverse, List.reverse_append, List.reverse_reverse]
  exact h.takeX hz
theorem HiA.extB {o : Array Keyed} {i j k : Nat} (h : HiA κ a b T i j o) (hk : k ≤ j) (hz : Le κ (a.toList.take i) (b.extract k j).toList) : HiA κ a b T i k (o ++ (b.extract k j).reverse) := by
  unfold HiA at h ⊢
  rw [take_split b hk] at h
  rw [Array.toList_append, Array.toList_reverse, List.reverse_append, List.reverse_reverse]
  exact h.takeY hz
end hi
theorem take_le {a : Array Keyed} (sa : Srt κ a.toList) {i : Nat} {p : Keyed} {X : List Keyed} (hi : 1 ≤ i) (e : a[i - 1]? = some p) (h : ∀ x ∈ X, κ.kle (kOf κ p) (kOf κ x)) : Le κ (a.toList.take i) X := by
  have := sa.take' i
  rw [show i = i - 1 + 1 by omega, take_at e] at this ⊢
  exact Le.last this h
theorem take_le1 {a : Array Keyed} (sa : Srt κ a.toList) {i : Nat} {p q : Keyed} (hi : 1 ≤ i) (e : a[i - 1]? = some p) (h : κ.kle (kOf κ p) (kOf κ q)) : Le κ (a.toList.take i) [q] :=
  take_le sa hi e fun x hx => by rw [List.mem_singleton.mp hx]; exact h
theorem take_ext {a b : Array Keyed} (sb : Srt κ b.toList) {i n j : Nat} {q : Keyed} (hj : 1 ≤ j) (e : b[j - 1]? = some q) (h : ∀ m x, i ≤ m → m < n → a[m]? = some x → κ.kle (kOf κ q) (kOf κ x)) : Le κ (b.toList.take j) (a.extract i n).toList :=
  take_le sb hj e fun x hx => by
    obtain ⟨m, h1, h2, h3⟩ := mem_extract' hx
    exact h m x h1 h2 h3
theorem take_leI {a : Array Keyed} {n : Nat} {q : Keyed} (h : ∀ m x, m < n → a[m]? = some x → κ.kle (kOf κ x) (kOf κ q)) : Le κ (a.toList.take n) [q] := by
  intro x hx p hp
  obtain ⟨m, h1, h2, h3⟩ := mem_take' hx
  rw [List.mem_singleton.mp hp]; exact h m x h1 h3

theorem mergeHi_ok (hO : κ.OneLt) {a b : Array Keyed} {st : SortSt} {Q : Array Keyed → SortSt → Prop} (hk : kindOf st = oneType')
    (ka : ∀ p ∈ a.toList, Keyd κ p) (kb : ∀ p ∈ b.toList, Keyd κ p) (sa : Srt κ a.toList) (sb : Srt κ b.toList) (na : 0 < a.size) (nb : 0 < b.size)
    (hfirst : Le κ (b.toList.take 1) a.toList) (hlast : ∀ p, a[a.size - 1]? = some p → Le κ b.toList [p])
    (h : ∀ out st', Same st st' → Good κ (a.toList ++ b.toList) out → Q out st') :
    wpS (model prog w) A E s (mergeHi' a b) Q st := by
  have hka : ∀ {i p}, a[i]? = some p → Keyd κ p := fun e => ka _ (by obtain ⟨hi, e⟩ := Array.getElem?_eq_some_iff.mp e; rw [← e]; simp)
  have hkb : ∀ {i p}, b[i]? = some p → Keyd κ p := fun e => kb _ (by obtain ⟨hi, e⟩ := Array.getElem?_eq_some_iff.mp e; rw [← e]; simp)
  have iA : ∀ i, i < a.size → ∃ p, a[i]? = some p := fun i hi => ⟨_, getElem?_pos a i hi⟩
  have iB : ∀ i, i < b.size → ∃ p, b[i]? = some p := fun i hi => ⟨_, getElem?_pos b i hi⟩
  have hend : ∀ i j, j = 1 → Le κ (b.toList.take j) (a.toList.take i) := fun i j e p hp q hq => by
    subst e; exact hfirst p hp q (List.mem_of_mem_take hq)
  have hnil : ∀ (i : Nat) (X : List Keyed), i = 0 → Le κ (a.toList.take i) X := fun i X e p hp => by subst e; exact absurd hp (by simp)
  generalize hT : a.toList ++ b.toList = T at h
  refine wpS_bind ?_
  refine wpS_lift (wpAny_rule ⟨rfl, ?_⟩)
  try dsimp only
  obtain ⟨p0, e0⟩ := iA (a.size - 1) (by omega)
  refine wpS_bind ?_
  refine elem_ok e0 ?_
  try dsimp only
  have I0 : HiA κ a b T (a.size - 1) b.size #[p0] := by
    have h0 : HiA κ a b T a.size b.size #[] := ⟨by rw [← hT, List.take_of_length_le (by simp), List.take_of_length_le (by simp)]; simp, List.Pairwise.nil, sa.take' _, sb.take' _, fun _ _ _ h => absurd h (by simp), fun _ _ _ h => absurd h (by simp)⟩
    exact h0.pushA na e0 (fun x hx => hlast _ e0 x (List.mem_of_mem_take hx))
  by_cases ha1 : a.size - 1 = 0
  · rw [if_pos (by simpa using ha1)]
    exact wpS_pure (h _ _ Same.rfl' (I0.doneG (hnil _ _ ha1)))
  rw [if_neg (by simpa using ha1)]
  by_cases hb1 : b.size = 1
  · rw [if_pos (by simpa using hb1)]
    exact wpS_pure (h _ _ Same.rfl' (I0.firstG (hend _ _ hb1)))
  rw [if_neg (by simpa using hb1)]
  refine wpS_bind (wpS_get ?_)
  try dsimp only
  refine wpS_bind (wpS_mono (wpS_forRange
    (I := fun x c st' => ∃ i j o mg, c = (none, i, j, o, mg) ∧ Same st st' ∧ HiA κ a b T i j o ∧ 1 ≤ i ∧ 2 ≤ j ∧ i ≤ a.size ∧ j ≤ b.size ∧ x + 1 + i + j ≤ a.size + b.size)
    (Q := fun c st' => Same st st' ∧ ∃ r, c.1 = some r ∧ Good κ T r) ?step ?fin ?init) ?post)
  case init => exact ⟨_, _, _, _, rfl, Same.rfl', I0, by omega, by omega, by omega, by omega, by omega⟩
  case fin =>
    rintro c st' ⟨i, j, o, mg, rfl, _, _, h1, h2, h3, h4, h5⟩
    omega
  case post =>
    rintro ⟨c1, c2⟩ st' ⟨hS, r, e, hG⟩
    try dsimp only at e
    subst e
    exact wpS_pure (h _ _ hS hG)
  case step =>
    rintro x c st' _ hx ⟨i, j, o, mg, rfl, hS, hI, h1, h2, h3, h4, h5⟩
    try dsimp only
    refine wpS_bind (wpS_mono (wpS_forRange
      (I := fun y c st'' => ∃ i' j' o ac bc, c = (none, i', j', o, ac, bc) ∧ Same st st'' ∧ HiA κ a b T i' j' o ∧ 1 ≤ i' ∧ 2 ≤ j' ∧ i' ≤ a.size ∧ j' ≤ b.size ∧ y + i' + j' ≤ i + j)
      (Q := fun c st'' => Same st st'' ∧ ((∃ r, c.1 = some r ∧ Good κ T r) ∨ (∃ i' j' o ac bc, c = (none, i', j', o, ac, bc) ∧ HiA κ a b T i' j' o ∧ 1 ≤ i' ∧ 2 ≤ j' ∧ i' ≤ a.size ∧ j' ≤ b.size ∧ 1 + i' + j' ≤ i + j))) ?step ?fin ?init) ?post)
    case init => exact ⟨_, _, _, _, _, rfl, hS, hI, h1, h2, h3, h4, by omega⟩
    case fin =>
      rintro c st'' ⟨i', j', o, ac, bc, rfl, hS', hI', h1', h2', h3', h4', h5'⟩
      exact ⟨hS', .inr ⟨_, _, _, _, _, rfl, hI', h1', h2', h3', h4', by omega⟩⟩
    case step =>
      rintro y c st'' _ hy ⟨i', j', o, ac, bc, rfl, hS', hI', h1', h2', h3', h4', h5'⟩
      try dsimp only
      obtain ⟨p, ep⟩ := iA (i' - 1) (by omega)
      obtain ⟨q, eq⟩ := iB (j' - 1) (by omega)
      refine wpS_bind ?_
      refine elem_ok eq ?_
      refine wpS_bind ?_
      refine elem_ok ep ?_
      refine wpS_bind ?_
      refine lt_ok hO (hS'.kind.trans hk) (hkb eq) (hka ep) ?_
      try dsimp only
      cases hlt : κ.blt (kOf κ q) (kOf κ p)
      case true =>
        simp only [if_true]
        refine wpS_bind ?_
        refine elem_ok ep ?_
        have hI2 := hI'.pushA h1' ep (take_le1 sb (by omega) eq (KeyOrd.kle_of_klt hlt))
        by_cases hz : i' - 1 = 0
        · rw [if_pos (by simpa using hz)]
          exact wpS_pure ⟨hS', .inl ⟨_, rfl, hI2.doneG (hnil _ _ hz)⟩⟩
        · rw [if_neg (by simpa using hz)]
          split
          · exact wpS_pure ⟨hS', .inr ⟨_, _, _, _, _, rfl, hI2, by omega, h2', by omega, h4', by omega⟩⟩
          · exact wpS_pure ⟨_, _, _, _, _, rfl, hS', hI2, by omega, h2', by omega, h4', by omega⟩
      case false =>
        simp only [Bool.false_eq_true, if_false]
        refine wpS_bind ?_
        refine elem_ok eq ?_
        have hI2 := hI'.pushB (by omega) eq (take_le1 sa h1' ep hlt)
        by_cases hz : j' - 1 = 1
        · rw [if_pos (by simpa using hz)]
          exact wpS_pure ⟨hS', .inl ⟨_, rfl, hI2.firstG (hend _ _ hz)⟩⟩
        · rw [if_neg (by simpa using hz)]
          split
          · exact wpS_pure ⟨hS', .inr ⟨_, _, _, _, _, rfl, hI2, h1', by omega, h3', by omega, by omega⟩⟩
          · exact wpS_pure ⟨_, _, _, _, _, rfl, hS', hI2, h1', by omega, h3', by omega, by omega⟩
    case post =>
      rintro ⟨c1, c2⟩ st'' ⟨hS', ⟨r, e, hG⟩ | ⟨i', j', o, ac, bc, e, hI', h1', h2', h3', h4', h5'⟩⟩
      · try dsimp only at e
        subst e
        exact wpS_pure ⟨hS', r, rfl, hG⟩
      · obtain ⟨rfl, rfl⟩ := Prod.mk.inj e
        try dsimp only
        refine wpS_bind ?_
        refine wpS_lift (wpAny_rule ⟨rfl, ?_⟩)
        refine wpS_bind (wpS_mono (wpS_forRange
          (I := fun y c st'' => ∃ i' j' o mg ac bc, c = (none, i', j', o, mg, ac, bc) ∧ Same st st'' ∧ HiA κ a b T i' j' o ∧ 1 ≤ i' ∧ 2 ≤ j' ∧ i' ≤ a.size ∧ j' ≤ b.size ∧ 1 + i' + j' ≤ i + j)
          (Q := fun c st'' => Same st st'' ∧ ((∃ r, c.1 = some r ∧ Good κ T r) ∨ (∃ i' j' o mg ac bc, c = (none, i', j', o, mg, ac, bc) ∧ HiA κ a b T i' j' o ∧ 1 ≤ i' ∧ 2 ≤ j' ∧ i' ≤ a.size ∧ j' ≤ b.size ∧ 1 + i' + j' ≤ i + j))) ?step ?fin ?init) ?post)
        case init => exact ⟨_, _, _, _, _, _, rfl, hS', hI', h1', h2', h3', h4', h5'⟩
        case fin =>
          rintro c st'' ⟨i', j', o, mg, ac, bc, rfl, hS', hI', h1', h2', h3', h4', h5'⟩
          exact ⟨hS', .inr ⟨_, _, _, _, _, _, rfl, hI', h1', h2', h3', h4', h5'⟩⟩
        case post =>
          rintro ⟨c1, c2⟩ st'' ⟨hS', ⟨r, e, hG⟩ | ⟨i', j', o, mg, ac, bc, e, hI', h1', h2', h3', h4', h5'⟩⟩
          · try dsimp only at e
            subst e
            exact wpS_pure ⟨hS', r, rfl, hG⟩
          · obtain ⟨rfl, rfl⟩ := Prod.mk.inj e
            try dsimp only
            refine wpS_bind ?_
            refine wpS_modify ?_
            exact wpS_pure ⟨_, _, _, _, rfl, ⟨hS'.kind, hS'.arr, hS'.pend, hS'.failed⟩, hI', h1', h2', h3', h4', by omega⟩
        case step =>
          rintro y c st'' _ hy ⟨i', j', o, mg, ac, bc, rfl, hS', hI', h1', h2', h3', h4', h5'⟩
          try dsimp only
          by_cases hmg : mg > 1
          · rw [if_pos hmg]
            refine wpS_bind ?_
            refine wpS_modify ?_
            obtain ⟨q, eq⟩ := iB (j' - 1) (by omega)
            refine wpS_bind ?_
            refine elem_ok eq ?_
            have S' := setG hS' (mg - 1)
            refine wpS_bind ?_
            refine gal_right hO (S'.kind.trans hk) (hkb eq) ka (fun i j _ hij hj => srt_idx sa hij (by omega)) (by omega) (by omega) ?_
            intro k hk1 g1 g2
            try dsimp only
            have X1 : Le κ (b.toList.take j') (a.extract k i').toList := take_ext sb (by omega) eq (fun m x h1 h2 e => KeyOrd.kle_of_klt (g2 m x (by omega) (by omega) e))
            have X2 : Le κ (a.toList.take k) [q] := take_leI fun m x h1 e => g1 m x (by omega) (by omega) e
            have JI := hI'.extA hk1 X1
            by_cases k0 : i' - k > 0
            · rw [if_pos k0]
              by_cases z1 : k = 0
              · rw [if_pos (by simpa using z1)]
                exact wpS_pure ⟨S', .inl ⟨_, rfl, JI.doneG (hnil _ _ z1)⟩⟩
              rw [if_neg (by simpa using z1)]
              have hi2 : 1 ≤ k := by omega
              have hi3 : k ≤ a.size := by omega
              have hpr : 1 + k + j' ≤ i + j := by omega
              generalize i' - k = dd at *
              generalize o ++ (a.extract k i').reverse = o2 at JI ⊢
              generalize k = i2 at JI X2 hi2 hi3 hpr ⊢
              refine wpS_bind ?_
              refine elem_ok eq ?_
              try dsimp only
              have J2 := JI.pushB (by omega) eq X2
              by_cases z3 : j' - 1 = 1
              · rw [if_pos (by simpa using z3)]
                exact wpS_pure ⟨S', .inl ⟨_, rfl, J2.firstG (hend _ _ z3)⟩⟩
              rw [if_neg (by simpa using z3)]
              obtain ⟨p, ep⟩ := iA (i2 - 1) (by omega)
              refine wpS_bind ?_
              refine elem_ok ep ?_
              refine wpS_bind ?_
              refine gal_left hO (S'.kind.trans hk) (hka ep) kb (fun i j _ hij hj => srt_idx sb hij (by omega)) (by omega) (by omega) ?_
              intro k' hk' g3 g4
              try dsimp only
              have X3 : Le κ (a.toList.take i2) (b.extract k' (j' - 1)).toList := take_ext sa hi2 ep (fun m x h1 h2 e => g4 m x (by omega) (by omega) e)
              have X4 : Le κ (b.toList.take k') [p] := take_leI fun m x h1 e => KeyOrd.kle_of_klt (g3 m x (by omega) (by omega) e)
              have J3 := J2.extB hk' X3
              by_cases k1 : j' - 1 - k' > 0
              · rw [if_pos k1]
                by_cases z4 : k' = 1
                · rw [if_pos (by simpa using z4)]
                  exact wpS_pure ⟨S', .inl ⟨_, rfl, J3.firstG (hend _ _ z4)⟩⟩
                rw [if_neg (by simpa using z4)]
                by_cases z6 : k' = 0
                · rw [if_pos (by simpa using z6)]
                  exact wpS_pure ⟨S', .inl ⟨_, rfl, J3.doneG (by subst z6; exact fun _ _ _ h => absurd h (by simp))⟩⟩
                · rw [if_neg (by simpa using z6)]
                  refine wpS_bind ?_
                  refine elem_ok ep ?_
                  try dsimp only
                  have J4 := J3.pushA hi2 ep X4
                  by_cases z5 : i2 - 1 = 0
                  · rw [if_pos (by simpa using z5)]
                    exact wpS_pure ⟨S', .inl ⟨_, rfl, J4.doneG (hnil _ _ z5)⟩⟩
                  · rw [if_neg (by simpa using z5)]
                    split
                    · exact wpS_pure ⟨S', .inr ⟨_, _, _, _, _, _, rfl, J4, by omega, by omega, by omega, by omega, by omega⟩⟩
                    · exact wpS_pure ⟨_, _, _, _, _, _, rfl, S', J4, by omega, by omega, by omega, by omega, by omega⟩
              · rw [if_neg k1]
                obtain rfl : k' = j' - 1 := by omega
                refine wpS_bind ?_
                refine elem_ok ep ?_
                try dsimp only
                have J4 := J2.pushA hi2 ep X4
                by_cases z5 : i2 - 1 = 0
                · rw [if_pos (by simpa using z5)]
                  exact wpS_pure ⟨S', .inl ⟨_, rfl, J4.doneG (hnil _ _ z5)⟩⟩
                · rw [if_neg (by simpa using z5)]
                  split
                  · exact wpS_pure ⟨S', .inr ⟨_, _, _, _, _, _, rfl, J4, by omega, by omega, by omega, by omega, by omega⟩⟩
                  · exact wpS_pure ⟨_, _, _, _, _, _, rfl, S', J4, by omega, by omega, by omega, by omega, by omega⟩
            · rw [if_neg k0]
              obtain rfl : k = i' := by omega
              replace JI := hI'
              have hi2 : 1 ≤ k := by omega
              have hi3 : k ≤ a.size := by omega
              have hpr : 1 + k + j' ≤ i + j := by omega
              generalize k - k = dd at *
              generalize k = i2 at JI X2 hi2 hi3 hpr ⊢
              refine wpS_bind ?_
              refine elem_ok eq ?_
              try dsimp only
              have J2 := JI.pushB (by omega) eq X2
              by_cases z3 : j' - 1 = 1
              · rw [if_pos (by simpa using z3)]
                exact wpS_pure ⟨S', .inl ⟨_, rfl, J2.firstG (hend _ _ z3)⟩⟩
              rw [if_neg (by simpa using z3)]
              obtain ⟨p, ep⟩ := iA (i2 - 1) (by omega)
              refine wpS_bind ?_
              refine elem_ok ep ?_
              refine wpS_bind ?_
              refine gal_left hO (S'.kind.trans hk) (hka ep) kb (fun i j _ hij hj => srt_idx sb hij (by omega)) (by omega) (by omega) ?_
              intro k' hk' g3 g4
              try dsimp only
              have X3 : Le κ (a.toList.take i2) (b.extract k' (j' - 1)).toList := take_ext sa hi2 ep (fun m x h1 h2 e => g4 m x (by omega) (by omega) e)
              have X4 : Le κ (b.toList.take k') [p] := take_leI fun m x h1 e => KeyOrd.kle_of_klt (g3 m x (by omega) (by omega) e)
              have J3 := J2.extB hk' X3
              by_cases k1 : j' - 1 - k' > 0
              · rw [if_pos k1]
                by_cases z4 : k' = 1
                · rw [if_pos (by simpa using z4)]
                  exact wpS_pure ⟨S', .inl ⟨_, rfl, J3.firstG (hend _ _ z4)⟩⟩
                rw [if_neg (by simpa using z4)]
                by_cases z6 : k' = 0
                · rw [if_pos (by simpa using z6)]
                  exact wpS_pure ⟨S', .inl ⟨_, rfl, J3.doneG (by subst z6; exact fun _ _ _ h => absurd h (by simp))⟩⟩
                · rw [if_neg (by simpa using z6)]
                  refine wpS_bind ?_
                  refine elem_ok ep ?_
                  try dsimp only
                  have J4 := J3.pushA hi2 ep X4
                  by_cases z5 : i2 - 1 = 0
                  · rw [if_pos (by simpa using z5)]
                    exact wpS_pure ⟨S', .inl ⟨_, rfl, J4.doneG (hnil _ _ z5)⟩⟩
                  · rw [if_neg (by simpa using z5)]
                    split
                    · exact wpS_pure ⟨S', .inr ⟨_, _, _, _, _, _, rfl, J4, by omega, by omega, by omega, by omega, by omega⟩⟩
                    · exact wpS_pure ⟨_, _, _, _, _, _, rfl, S', J4, by omega, by omega, by omega, by omega, by omega⟩
              · rw [if_neg k1]
                obtain rfl : k' = j' - 1 := by omega
                refine wpS_bind ?_
                refine elem_ok ep ?_
                try dsimp only
                have J4 := J2.pushA hi2 ep X4
                by_cases z5 : i2 - 1 = 0
                · rw [if_pos (by simpa using z5)]
                  exact wpS_pure ⟨S', .inl ⟨_, rfl, J4.doneG (hnil _ _ z5)⟩⟩
                · rw [if_neg (by simpa using z5)]
                  split
                  · exact wpS_pure ⟨S', .inr ⟨_, _, _, _, _, _, rfl, J4, by omega, by omega, by omega, by omega, by omega⟩⟩
                  · exact wpS_pure ⟨_, _, _, _, _, _, rfl, S', J4, by omega, by omega, by omega, by omega, by omega⟩
          · rw [if_neg hmg]
            refine wpS_bind ?_
            refine wpS_modify ?_
            obtain ⟨q, eq⟩ := iB (j' - 1) (by omega)
            refine wpS_bind ?_
            refine elem_ok eq ?_
            have S' := setG hS' mg
            refine wpS_bind ?_
            refine gal_right hO (S'.kind.trans hk) (hkb eq) ka (fun i j _ hij hj => srt_idx sa hij (by omega)) (by omega) (by omega) ?_
            intro k hk1 g1 g2
            try dsimp only
            have X1 : Le κ (b.toList.take j') (a.extract k i').toList := take_ext sb (by omega) eq (fun m x h1 h2 e => KeyOrd.kle_of_klt (g2 m x (by omega) (by omega) e))
            have X2 : Le κ (a.toList.take k) [q] := take_leI fun m x h1 e => g1 m x (by omega) (by omega) e
            have JI := hI'.extA hk1 X1
            by_cases k0 : i' - k > 0
            · rw [if_pos k0]
              by_cases z1 : k = 0
              · rw [if_pos (by simpa using z1)]
                exact wpS_pure ⟨S', .inl ⟨_, rfl, JI.doneG (hnil _ _ z1)⟩⟩
              rw [if_neg (by simpa using z1)]
              have hi2 : 1 ≤ k := by omega
              have hi3 : k ≤ a.size := by omega
              have hpr : 1 + k + j' ≤ i + j := by omega
              generalize i' - k = dd at *
              generalize o ++ (a.extract k i').reverse = o2 at JI ⊢
              generalize k = i2 at JI X2 hi2 hi3 hpr ⊢
              refine wpS_bind ?_
              refine elem_ok eq ?_
              try dsimp only
              have J2 := JI.pushB (by omega) eq X2
              by_cases z3 : j' - 1 = 1
              · rw [if_pos (by simpa using z3)]
                exact wpS_pure ⟨S', .inl ⟨_, rfl, J2.firstG (hend _ _ z3)⟩⟩
              rw [if_neg (by simpa using z3)]
              obtain ⟨p, ep⟩ := iA (i2 - 1) (by omega)
              refine wpS_bind ?_
              refine elem_ok ep ?_
              refine wpS_bind ?_
              refine gal_left hO (S'.kind.trans hk) (hka ep) kb (fun i j _ hij hj => srt_idx sb hij (by omega)) (by omega) (by omega) ?_
              intro k' hk' g3 g4
              try dsimp only
              have X3 : Le κ (a.toList.take i2) (b.extract k' (j' - 1)).toList := take_ext sa hi2 ep (fun m x h1 h2 e => g4 m x (by omega) (by omega) e)
              have X4 : Le κ (b.toList.take k') [p] := take_leI fun m x h1 e => KeyOrd.kle_of_klt (g3 m x (by omega) (by omega) e)
              have J3 := J2.extB hk' X3
              by_cases k1 : j' - 1 - k' > 0
              · rw [if_pos k1]
                by_cases z4 : k' = 1
                · rw [if_pos (by simpa using z4)]
                  exact wpS_pure ⟨S', .inl ⟨_, rfl, J3.firstG (hend _ _ z4)⟩⟩
                rw [if_neg (by simpa using z4)]
                by_cases z6 : k' = 0
                · rw [if_pos (by simpa using z6)]
                  exact wpS_pure ⟨S', .inl ⟨_, rfl, J3.doneG (by subst z6; exact fun _ _ _ h => absurd h (by simp))⟩⟩
                · rw [if_neg (by simpa using z6)]
                  refine wpS_bind ?_
                  refine elem_ok ep ?_
                  try dsimp only
                  have J4 := J3.pushA hi2 ep X4
                  by_cases z5 : i2 - 1 = 0
                  · rw [if_pos (by simpa using z5)]
                    exact wpS_pure ⟨S', .inl ⟨_, rfl, J4.doneG (hnil _ _ z5)⟩⟩
                  · rw [if_neg (by simpa using z5)]
                    split
                    · exact wpS_pure ⟨S', .inr ⟨_, _, _, _, _, _, rfl, J4, by omega, by omega, by omega, by omega, by omega⟩⟩
                    · exact wpS_pure ⟨_, _, _, _, _, _, rfl, S', J4, by omega, by omega, by omega, by omega, by omega⟩
              · rw [if_neg k1]
                obtain rfl : k' = j' - 1 := by omega
                refine wpS_bind ?_
                refine elem_ok ep ?_
                try dsimp only
                have J4 := J2.pushA hi2 ep X4
                by_cases z5 : i2 - 1 = 0
                · rw [if_pos (by simpa using z5)]
                  exact wpS_pure ⟨S', .inl ⟨_, rfl, J4.doneG (hnil _ _ z5)⟩⟩
                · rw [if_neg (by simpa using z5)]
                  split
                  · exact wpS_pure ⟨S', .inr ⟨_, _, _, _, _, _, rfl, J4, by omega, by omega, by omega, by omega, by omega⟩⟩
                  · exact wpS_pure ⟨_, _, _, _, _, _, rfl, S', J4, by omega, by omega, by omega, by omega, by omega⟩
            · rw [if_neg k0]
              obtain rfl : k = i' := by omega
              replace JI := hI'
              have hi2 : 1 ≤ k := by omega
              have hi3 : k ≤ a.size := by omega
              have hpr : 1 + k + j' ≤ i + j := by omega
              generalize k - k = dd at *
              generalize k = i2 at JI X2 hi2 hi3 hpr ⊢
              refine wpS_bind ?_
              refine elem_ok eq ?_
              try dsimp only
              have J2 := JI.pushB (by omega) eq X2
              by_cases z3 : j' - 1 = 1
              · rw [if_pos (by simpa using z3)]
                exact wpS_pure ⟨S', .inl ⟨_, rfl, J2.firstG (hend _ _ z3)⟩⟩
              rw [if_neg (by simpa using z3)]
              obtain ⟨p, ep⟩ := iA (i2 - 1) (by omega)
              refine wpS_bind ?_
              refine elem_ok ep ?_
              refine wpS_bind ?_
              refine gal_left hO (S'.kind.trans hk) (hka ep) kb (fun i j _ hij hj => srt_idx sb hij (by omega)) (by omega) (by omega) ?_
              intro k' hk' g3 g4
              try dsimp only
              have X3 : Le κ (a.toList.take i2) (b.extract k' (j' - 1)).toList := take_ext sa hi2 ep (fun m x h1 h2 e => g4 m x (by omega) (by omega) e)
              have X4 : Le κ (b.toList.take k') [p] := take_leI fun m x h1 e => KeyOrd.kle_of_klt (g3 m x (by omega) (by omega) e)
              have J3 := J2.extB hk' X3
              by_cases k1 : j' - 1 - k' > 0
              · rw [if_pos k1]
                by_cases z4 : k' = 1
                · rw [if_pos (by simpa using z4)]
                  exact wpS_pure ⟨S', .inl ⟨_, rfl, J3.firstG (hend _ _ z4)⟩⟩
                rw [if_neg (by simpa using z4)]
                by_cases z6 : k' = 0
                · rw [if_pos (by simpa using z6)]
                  exact wpS_pure ⟨S', .inl ⟨_, rfl, J3.doneG (by subst z6; exact fun _ _ _ h => absurd h (by simp))⟩⟩
                · rw [if_neg (by simpa using z6)]
                  refine wpS_bind ?_
                  refine elem_ok ep ?_
                  try dsimp only
                  have J4 := J3.pushA hi2 ep X4
                  by_cases z5 : i2 - 1 = 0
                  · rw [if_pos (by simpa using z5)]
                    exact wpS_pure ⟨S', .inl ⟨_, rfl, J4.doneG (hnil _ _ z5)⟩⟩
                  · rw [if_neg (by simpa using z5)]
                    split
                    · exact wpS_pure ⟨S', .inr ⟨_, _, _, _, _, _, rfl, J4, by omega, by omega, by omega, by omega, by omega⟩⟩
                    · exact wpS_pure ⟨_, _, _, _, _, _, rfl, S', J4, by omega, by omega, by omega, by omega, by omega⟩
              · rw [if_neg k1]
                obtain rfl : k' = j' - 1 := by omega
                refine wpS_bind ?_
                refine elem_ok ep ?_
                try dsimp only
                have J4 := J2.pushA hi2 ep X4
                by_cases z5 : i2 - 1 = 0
                · rw [if_pos (by simpa using z5)]
                  exact wpS_pure ⟨S', .inl ⟨_, rfl, J4.doneG (hnil _ _ z5)⟩⟩
                · rw [if_neg (by simpa using z5)]
                  split
                  · exact wpS_pure ⟨S', .inr ⟨_, _, _, _, _, _, rfl, J4, by omega, by omega, by omega, by omega, by omega⟩⟩
                  · exact wpS_pure ⟨_, _, _, _, _, _, rfl, S', J4, by omega, by omega, by omega, by omega, by omega⟩
end
end Mine

end
section
open PySem PySem.W PyProof.Rows PySem.Spec PySem.Calls
set_option Elab.async false
set_option maxHeartbeats 1000000
namespace Mine
section
variable {prog : Program} {w : World} {A : Around} {E : Value → Shared → Prop} {s : Shared} {κ : KeyKind}
def SrtIn (κ : KeyKind) (xs : Array Keyed) (lo hi : Nat) : Prop := ∀ i j, lo ≤ i → i ≤ j → j < hi → κ.kle (KK κ xs i) (KK κ xs j)
def DecIn (κ : KeyKind) (xs : Array Keyed) (lo hi : Nat) : Prop := ∀ i j, lo ≤ i → i ≤ j → j < hi → κ.kle (KK κ xs j) (KK κ xs i)
theorem SrtIn.more {xs : Array Keyed} {lo x : Nat} (h : SrtIn κ xs lo (lo + x)) (hx : 1 ≤ x) (hl : κ.kle (KK κ xs (lo + x - 1)) (KK κ xs (lo + x))) : SrtIn κ xs lo (lo + (x + 1)) := by
  intro i j h1 h2 h3
  by_cases hj : j < lo + x
  · exact h i j h1 h2 hj
  · obtain rfl : j = lo + x := by omega
    by_cases hi : i = lo + x
    · subst hi; exact KeyOrd.kle_refl _
    · exact KeyOrd.kle_trans (h i (lo + x - 1) h1 (by omega) (by omega)) hl
theorem DecIn.more {xs : Array Keyed} {lo x : Nat} (h : DecIn κ xs lo (lo + x)) (hx : 1 ≤ x) (hl : κ.kle (KK κ xs (lo + x)) (KK κ xs (lo + x - 1))) : DecIn κ xs lo (lo + (x + 1)) := by
  intro i j h1 h2 h3
  by_cases hj : j < lo + x
  · exact h i j h1 h2 hj
  · obtain rfl : j = lo + x := by omega
    by_cases hi : i = lo + x
    · subst hi; exact KeyOrd.kle_refl _
    · exact KeyOrd.kle_trans hl (h i (lo + x - 1) h1 (by omega) (by omega))
/-- the state while one run is made: a permutation, and the keys under lo stay -/
structure SB (κ : KeyKind) (a₀ : Array Keyed) (P : Array (Nat × Nat × Nat)) (lo : Nat) (x₀ : Array Keyed) (st : SortSt) : Prop where
  perm : (arrOf st).Perm a₀
  kind : kindOf st = oneType'
  failed : failedOf st = none
  pend : pendingOf st = P
  pre : ∀ i, i < lo → KK κ (arrOf st) i = KK κ x₀ i
section
variable {a₀ x₀ : Array Keyed} {P : Array (Nat × Nat × Nat)} {lo : Nat}
theorem SB.size {st : SortSt} (h : SB κ a₀ P lo x₀ st) : (arrOf st).size = a₀.size := h.perm.size_eq
theorem SB.set {st : SortSt} (h : SB κ a₀ P lo x₀ st) {xs : Array Keyed} (hp : xs.Perm (arrOf st)) (hk : ∀ i, i < lo → KK κ xs i = KK κ (arrOf st) i) : SB κ a₀ P lo x₀ (setArr st xs) :=
  ⟨hp.trans h.perm, h.kind, h.failed, h.pend, fun i hi => (hk i hi).trans (h.pre i hi)⟩
theorem SB.at' {st : SortSt} (h : SB κ a₀ P lo x₀ st) (h0 : KeysOf κ a₀) {i : Nat} (hi : i < a₀.size) : ∃ p, (arrOf st)[i]? = some p ∧ Keyd κ p ∧ KK κ (arrOf st) i = kOf κ p := by
  have hi' : i < (arrOf st).size := by rw [h.size]; exact hi
  have e : (arrOf st)[i]? = some (arrOf st)[i] := getElem?_pos _ i hi'
  exact ⟨_, e, h0 _ ((Array.perm_iff_toList_perm.mp h.perm).mem_iff.mp (by simp)), KK_at e⟩
theorem lt_at {st : SortSt} {i j : Nat} {Q : Option Bool → SortSt → Prop} (hO : κ.OneLt) (hB : SB κ a₀ P lo x₀ st) (h0 : KeysOf κ a₀) (hi : i < a₀.size) (hj : j < a₀.size)
    (h : Q (some (κ.blt (KK κ (arrOf st) i) (KK κ (arrOf st) j))) st) : wpS (model prog w) A E s (ltAt' i j) Q st := by
  obtain ⟨p, e1, ⟨a, ha⟩, k1⟩ := hB.at' h0 hi
  obtain ⟨q, e2, ⟨b, hb⟩, k2⟩ := hB.at' h0 hj
  have ea : kOf κ p = a := by simp [kOf, ha]
  have eb : kOf κ q = b := by simp [kOf, hb]
  rw [k1, k2, ea, eb] at h
  exact wpS_ltAtK (x := p.1) (p := p.2) (y := q.1) (q := q.2) hO hB.kind e1 e2 ha hb h
theorem SB.flip {st : SortSt} (h : SB κ a₀ P lo x₀ st) {i j : Nat} (hi : lo ≤ i) (hj : j ≤ a₀.size) : SB κ a₀ P lo x₀ (setArr st (mirror (arrOf st) i j ((j - i) / 2))) :=
  h.set (mirror_perm _ _ _ _) fun k hk => by rw [KK_mirror (by rw [h.size]; exact hj), if_neg (by omega)]
theorem SB.same {st : SortSt} (h : SB κ a₀ P lo x₀ st) {i j : Nat} (hj : j ≤ a₀.size) (he : ∀ k, i ≤ k → k < j → KK κ (arrOf st) k = KK κ (arrOf st) (j - 1)) (k : Nat) :
    KK κ (mirror (arrOf st) i j ((j - i) / 2)) k = KK κ (arrOf st) k := KK_mirror_equal (by rw [h.size]; exact hj) he k

theorem countRun_ok {st : SortSt} {nrem : Nat} {Q : Option Nat → SortSt → Prop} (hO : κ.OneLt) (h0 : KeysOf κ a₀) (hn : lo + nrem ≤ a₀.size) (h1 : 1 ≤ nrem) (hB : SB κ a₀ P lo x₀ st)
    (h : ∀ m st', SB κ a₀ P lo x₀ st' → 1 ≤ m → m ≤ nrem → SrtIn κ (arrOf st') lo (lo + m) → Q (some m) st') :
    wpS (model prog w) A E s (countRun' lo nrem) Q st := by
  refine wpS_bind ?_
  refine wpS_mono (wpS_forRange
    (I := fun x c st' => st' = st ∧ c = (none, x) ∧ SrtIn κ (arrOf st) lo (lo + x))
    (Q := fun c st' => st' = st ∧ ∃ n, c = (none, n) ∧ 1 ≤ n ∧ n ≤ nrem ∧ SrtIn κ (arrOf st) lo (lo + n) ∧ (n = nrem ∨ κ.klt (KK κ (arrOf st) (lo + n)) (KK κ (arrOf st) (lo + n - 1)))) ?step ?fin ?init) ?post
  case init => exact ⟨rfl, rfl, fun i j h1 h2 h3 => by obtain rfl : i = j := (by omega); exact KeyOrd.kle_refl _⟩
  case fin =>
    rintro c st' ⟨rfl, rfl, hs⟩
    rw [show max 1 nrem = nrem by omega] at hs ⊢
    exact ⟨rfl, nrem, rfl, h1, Nat.le_refl _, hs, .inl rfl⟩
  case step =>
    rintro x c st' hx1 hx2 ⟨rfl, rfl, hs⟩
    try dsimp only
    refine wpS_bind ?_
    refine lt_at hO hB h0 (by omega) (by omega) ?_
    try dsimp only
    cases hlt : κ.blt (KK κ (arrOf st') (lo + x)) (KK κ (arrOf st') (lo + x - 1))
    case true =>
      simp only [if_true]
      exact wpS_pure ⟨rfl, x, rfl, hx1, by omega, hs, .inr hlt⟩
    case false =>
      simp only [Bool.false_eq_true, if_false]
      exact wpS_pure ⟨rfl, rfl, SrtIn.more hs (by omega) hlt⟩
  case post =>
    rintro c st' ⟨rfl, n, rfl, hn1, hn2, hs, hor⟩
    try dsimp only
    by_cases hnn : n = nrem
    · rw [if_pos (by simpa using hnn)]
      exact wpS_pure (h n _ hB hn1 hn2 hs)
    rw [if_neg (by simpa using hnn)]
    have hlt := hor.resolve_left hnn
    by_cases hgt : n > 1
    · rw [if_pos hgt]
      refine wpS_bind ?_
      refine lt_at hO hB h0 (by omega) (by omega) ?_
      try dsimp only
      cases hrose : κ.blt (KK κ (arrOf st') lo) (KK κ (arrOf st') (lo + n - 1))
      case true =>
        simp only [if_true]
        exact wpS_pure (h n _ hB hn1 hn2 hs)
      case false =>
        simp only [Bool.false_eq_true, if_false]
        have hall : ∀ k, lo ≤ k → k < lo + n → KK κ (arrOf st') k = KK κ (arrOf st') (lo + n - 1) := fun k hk1 hk2 =>
          KeyOrd.kle_antisymm (hs k (lo + n - 1) hk1 (by omega) (by omega)) (KeyOrd.kle_trans hrose (hs lo k (Nat.le_refl _) hk1 hk2))
        have hk := hB.same (by omega) hall
        have hB2 := hB.flip (i := lo) (j := lo + n) (Nat.le_refl _) (by omega)
        have hD : DecIn κ (mirror (arrOf st') lo (lo + n) ((lo + n - lo) / 2)) lo (lo + (n + 1)) := by
          intro i j h1 h2 h3
          rw [hk, hk]
          by_cases hj : j < lo + n
          · rw [hall i h1 (by omega), hall j (by omega) hj]; exact KeyOrd.kle_refl _
          · obtain rfl : j = lo + n := by omega
            by_cases hi : i = lo + n
            · subst hi; exact KeyOrd.kle_refl _
            · rw [hall i h1 (by omega)]; exact KeyOrd.kle_of_klt hlt
        refine wpS_bind ?_
        refine wpS_reverse ?_
        generalize hst2 : setArr st' (mirror (arrOf st') lo (lo + n) ((lo + n - lo) / 2)) = st2 at hB2 ⊢
        replace hD : DecIn κ (arrOf st2) lo (lo + (n + 1)) := by rw [← hst2]; exact hD
        clear hst2 hk
        refine wpS_bind ?_
        refine wpS_lift (wpAny_rule ⟨rfl, ?_⟩)
        refine wpS_bind (wpS_mono (wpS_forRange
          (I := fun x c st' => ∃ neq, c = (none, x, neq) ∧ SB κ a₀ P lo x₀ st' ∧ DecIn κ (arrOf st') lo (lo + x) ∧ neq + 1 ≤ x ∧ (∀ i, lo + x - (neq + 1) ≤ i → i < lo + x → KK κ (arrOf st') i = KK κ (arrOf st') (lo + x - 1)))
          (Q := fun c st' => ∃ x neq, c = (none, x, neq) ∧ 1 ≤ x ∧ x ≤ nrem ∧ SB κ a₀ P lo x₀ st' ∧ DecIn κ (arrOf st') lo (lo + x) ∧ neq + 1 ≤ x ∧ (∀ i, lo + x - (neq + 1) ≤ i → i < lo + x → KK κ (arrOf st') i = KK κ (arrOf st') (lo + x - 1))) ?step2 ?fin2 ?init2) ?post2)
        case init2 => exact ⟨0, rfl, hB2, hD, by omega, fun i g1 g2 => by congr 1; omega⟩
        case fin2 =>
          rintro c st3 ⟨neq, rfl, hB3, hD3, hq, he⟩
          rw [show max (n + 1) nrem = nrem by omega] at hD3 hq he ⊢
          exact ⟨nrem, neq, rfl, h1, Nat.le_refl _, hB3, hD3, hq, he⟩
        case step2 =>
          rintro x c st3 hx1 hx2 ⟨neq, rfl, hB3, hD3, hq, he⟩
          try dsimp only
          refine wpS_bind ?_
          refine lt_at hO hB3 h0 (by omega) (by omega) ?_
          try dsimp only
          cases hl3 : κ.blt (KK κ (arrOf st3) (lo + x)) (KK κ (arrOf st3) (lo + x - 1))
          case true =>
            simp only [if_true]
            by_cases hneq : neq > 0
            · rw [if_pos hneq]
              refine wpS_bind ?_
              refine wpS_reverse ?_
              have hk3 := hB3.same (i := lo + x - (neq + 1)) (j := lo + x) (by omega) he
              refine wpS_pure ⟨0, rfl, hB3.flip (by omega) (by omega), ?_, by omega, fun i g1 g2 => by congr 1; omega⟩
              intro i j g1 g2 g3
              show κ.kle (KK κ (mirror (arrOf st3) _ _ _) j) (KK κ (mirror (arrOf st3) _ _ _) i)
              rw [hk3, hk3]
              exact DecIn.more hD3 (by omega) (KeyOrd.kle_of_klt hl3) i j g1 g2 g3
            · rw [if_neg hneq]
              exact wpS_pure ⟨0, rfl, hB3, DecIn.more hD3 (by omega) (KeyOrd.kle_of_klt hl3), by omega, fun i g1 g2 => by congr 1; omega⟩
          case false =>
            simp only [Bool.false_eq_true, if_false]
            refine wpS_bind ?_
            refine lt_at hO hB3 h0 (by omega) (by omega) ?_
            try dsimp only
            cases hl4 : κ.blt (KK κ (arrOf st3) (lo + x - 1)) (KK κ (arrOf st3) (lo + x))
            case true =>
              simp only [if_true]
              exact wpS_pure ⟨x, neq, rfl, by omega, by omega, hB3, hD3, hq, he⟩
            case false =>
              simp only [Bool.false_eq_true, if_false]
              have heq : KK κ (arrOf st3) (lo + x) = KK κ (arrOf st3) (lo + x - 1) := KeyOrd.kle_antisymm hl4 hl3
              refine wpS_pure ⟨neq + 1, rfl, hB3, DecIn.more hD3 (by omega) hl4, by omega, fun i g1 g2 => ?_⟩
              rw [show lo + (x + 1) - 1 = lo + x by omega]
              by_cases hix : i = lo + x
              · rw [hix]
              · rw [heq]; exact he i (by omega) (by omega)
        case post2 =>
          rintro c st3 ⟨x, neq, rfl, hx1, hx2, hB3, hD3, hq, he⟩
          try dsimp only
          by_cases hneq : neq > 0
          · rw [if_pos hneq]
            refine wpS_bind ?_
            refine wpS_reverse ?_
            have hk3 := hB3.same (i := lo + x - (neq + 1)) (j := lo + x) (by omega) he
            have hB4 := hB3.flip (i := lo + x - (neq + 1)) (j := lo + x) (by omega) (by omega)
            have hD4 : DecIn κ (mirror (arrOf st3) (lo + x - (neq + 1)) (lo + x) ((lo + x - (lo + x - (neq + 1))) / 2)) lo (lo + x) := by
              intro i j g1 g2 g3
              rw [hk3, hk3]
              exact hD3 i j g1 g2 g3
            generalize hst4 : setArr st3 (mirror (arrOf st3) (lo + x - (neq + 1)) (lo + x) ((lo + x - (lo + x - (neq + 1))) / 2)) = st4 at hB4 ⊢
            replace hD4 : DecIn κ (arrOf st4) lo (lo + x) := by rw [← hst4]; exact hD4
            refine wpS_bind ?_
            refine wpS_reverse ?_
            have hB5 := hB4.flip (i := lo) (j := lo + x) (Nat.le_refl _) (by omega)
            have hS5 : SrtIn κ (mirror (arrOf st4) lo (lo + x) ((lo + x - lo) / 2)) lo (lo + x) := by
              intro i j g1 g2 g3
              rw [KK_mirror (by rw [hB4.size]; omega), KK_mirror (by rw [hB4.size]; omega), if_pos (by omega), if_pos (by omega)]
              exact hD4 _ _ (by omega) (by omega) (by omega)
            generalize hst5 : setArr st4 (mirror (arrOf st4) lo (lo + x) ((lo + x - lo) / 2)) = st5 at hB5 ⊢
            replace hS5 : SrtIn κ (arrOf st5) lo (lo + x) := by rw [← hst5]; exact hS5
            refine wpS_bind (wpS_mono (wpS_forRange
              (I := fun y c st' => st' = st5 ∧ c = (none, y) ∧ SrtIn κ (arrOf st5) lo (lo + y))
              (Q := fun c st' => st' = st5 ∧ ∃ n, c = (none, n) ∧ 1 ≤ n ∧ n ≤ nrem ∧ SrtIn κ (arrOf st5) lo (lo + n)) ?step6 ?fin6 ?init6) ?post6)
            case init6 => exact ⟨rfl, rfl, hS5⟩
            case fin6 =>
              rintro c st6 ⟨rfl, rfl, hs⟩
              rw [show max x nrem = nrem by omega] at hs ⊢
              exact ⟨rfl, nrem, rfl, h1, Nat.le_refl _, hs⟩
            case step6 =>
              rintro y c st6 hy1 hy2 ⟨rfl, rfl, hs⟩
              try dsimp only
              refine wpS_bind ?_
              refine lt_at hO hB5 h0 (by omega) (by omega) ?_
              try dsimp only
              cases hlt : κ.blt (KK κ (arrOf st6) (lo + y)) (KK κ (arrOf st6) (lo + y - 1))
              case true =>
                simp only [if_true]
                exact wpS_pure ⟨rfl, y, rfl, by omega, by omega, hs⟩
              case false =>
                simp only [Bool.false_eq_true, if_false]
                exact wpS_pure ⟨rfl, rfl, SrtIn.more hs (by omega) hlt⟩
            case post6 =>
              rintro c st6 ⟨rfl, n, rfl, g1, g2, hs⟩
              exact wpS_pure (h n _ hB5 g1 g2 hs)
          · rw [if_neg hneq]
            have hB4 := hB3
            have hD4 := hD3
            generalize st3 = st4 at hB4 hD4 ⊢
            refine wpS_bind ?_
            refine wpS_reverse ?_
            have hB5 := hB4.flip (i := lo) (j := lo + x) (Nat.le_refl _) (by omega)
            have hS5 : SrtIn κ (mirror (arrOf st4) lo (lo + x) ((lo + x - lo) / 2)) lo (lo + x) := by
              intro i j g1 g2 g3
              rw [KK_mirror (by rw [hB4.size]; omega), KK_mirror (by rw [hB4.size]; omega), if_pos (by omega), if_pos (by omega)]
              exact hD4 _ _ (by omega) (by omega) (by omega)
            generalize hst5 : setArr st4 (mirror (arrOf st4) lo (lo + x) ((lo + x - lo) / 2)) = st5 at hB5 ⊢
            replace hS5 : SrtIn κ (arrOf st5) lo (lo + x) := by rw [← hst5]; exact hS5
            refine wpS_bind (wpS_mono (wpS_forRange
              (I := fun y c st' => st' = st5 ∧ c = (none, y) ∧ SrtIn κ (arrOf st5) lo (lo + y))
              (Q := fun c st' => st' = st5 ∧ ∃ n, c = (none, n) ∧ 1 ≤ n ∧ n ≤ nrem ∧ SrtIn κ (arrOf st5) lo (lo + n)) ?step6 ?fin6 ?init6) ?post6)
            case init6 => exact ⟨rfl, rfl, hS5⟩
            case fin6 =>
              rintro c st6 ⟨rfl, rfl, hs⟩
              rw [show max x nrem = nrem by omega] at hs ⊢
              exact ⟨rfl, nrem, rfl, h1, Nat.le_refl _, hs⟩
            case step6 =>
              rintro y c st6 hy1 hy2 ⟨rfl, rfl, hs⟩
              try dsimp only
              refine wpS_bind ?_
              refine lt_at hO hB5 h0 (by omega) (by omega) ?_
              try dsimp only
              cases hlt : κ.blt (KK κ (arrOf st6) (lo + y)) (KK κ (arrOf st6) (lo + y - 1))
              case true =>
                simp only [if_true]
                exact wpS_pure ⟨rfl, y, rfl, by omega, by omega, hs⟩
              case false =>
                simp only [Bool.false_eq_true, if_false]
                exact wpS_pure ⟨rfl, rfl, SrtIn.more hs (by omega) hlt⟩
            case post6 =>
              rintro c st6 ⟨rfl, n, rfl, g1, g2, hs⟩
              exact wpS_pure (h n _ hB5 g1 g2 hs)
    · rw [if_neg hgt]
      have hn1' : n = 1 := by omega
      have hD : DecIn κ (arrOf st') lo (lo + (n + 1)) := by
        subst hn1'
        intro i j h1 h2 h3
        by_cases hi : i = j
        · subst hi; exact KeyOrd.kle_refl _
        · obtain rfl : i = lo := by omega
          obtain rfl : j = i + 1 := by omega
          exact KeyOrd.kle_of_klt hlt
      have hB2 := hB
      generalize st' = st2 at hB2 hD ⊢
      refine wpS_bind ?_
      refine wpS_lift (wpAny_rule ⟨rfl, ?_⟩)
      refine wpS_bind (wpS_mono (wpS_forRange
        (I := fun x c st' => ∃ neq, c = (none, x, neq) ∧ SB κ a₀ P lo x₀ st' ∧ DecIn κ (arrOf st') lo (lo + x) ∧ neq + 1 ≤ x ∧ (∀ i, lo + x - (neq + 1) ≤ i → i < lo + x → KK κ (arrOf st') i = KK κ (arrOf st') (lo + x - 1)))
        (Q := fun c st' => ∃ x neq, c = (none, x, neq) ∧ 1 ≤ x ∧ x ≤ nrem ∧ SB κ a₀ P lo x₀ st' ∧ DecIn κ (arrOf st') lo (lo + x) ∧ neq + 1 ≤ x ∧ (∀ i, lo + x - (neq + 1) ≤ i → i < lo + x → KK κ (arrOf st') i = KK κ (arrOf st') (lo + x - 1))) ?step2 ?fin2 ?init2) ?post2)
      case init2 => exact ⟨0, rfl, hB2, hD, by omega, fun i g1 g2 => by congr 1; omega⟩
      case fin2 =>
        rintro c st3 ⟨neq, rfl, hB3, hD3, hq, he⟩
        rw [show max (n + 1) nrem = nrem by omega] at hD3 hq he ⊢
        exact ⟨nrem, neq, rfl, h1, Nat.le_refl _, hB3, hD3, hq, he⟩
      case step2 =>
        rintro x c st3 hx1 hx2 ⟨neq, rfl, hB3, hD3, hq, he⟩
        try dsimp only
        refine wpS_bind ?_
        refine lt_at hO hB3 h0 (by omega) (by omega) ?_
        try dsimp only
        cases hl3 : κ.blt (KK κ (arrOf st3) (lo + x)) (KK κ (arrOf st3) (lo + x - 1))
        case true =>
          simp only [if_true]
          by_cases hneq : neq > 0
          · rw [if_pos hneq]
            refine wpS_bind ?_
            refine wpS_reverse ?_
            have hk3 := hB3.same (i := lo + x - (neq + 1)) (j := lo + x) (by omega) he
            refine wpS_pure ⟨0, rfl, hB3.flip (by omega) (by omega), ?_, by omega, fun i g1 g2 => by congr 1; omega⟩
            intro i j g1 g2 g3
            show κ.kle (KK κ (mirror (arrOf st3) _ _ _) j) (KK κ (mirror (arrOf st3) _ _ _) i)
            rw [hk3, hk3]
            exact DecIn.more hD3 (by omega) (KeyOrd.kle_of_klt hl3) i j g1 g2 g3
          · rw [if_neg hneq]
            exact wpS_pure ⟨0, rfl, hB3, DecIn.more hD3 (by omega) (KeyOrd.kle_of_klt hl3), by omega, fun i g1 g2 => by congr 1; omega⟩
        case false =>
          simp only [Bool.false_eq_true, if_false]
          refine wpS_bind ?_
          refine lt_at hO hB3 h0 (by omega) (by omega) ?_
          try dsimp only
          cases hl4 : κ.blt (KK κ (arrOf st3) (lo + x - 1)) (KK κ (arrOf st3) (lo + x))
          case true =>
            simp only [if_true]
            exact wpS_pure ⟨x, neq, rfl, by omega, by omega, hB3, hD3, hq, he⟩
          case false =>
            simp only [Bool.false_eq_true, if_false]
            have heq : KK κ (arrOf st3) (lo + x) = KK κ (arrOf st3) (lo + x - 1) := KeyOrd.kle_antisymm hl4 hl3
            refine wpS_pure ⟨neq + 1, rfl, hB3, DecIn.more hD3 (by omega) hl4, by omega, fun i g1 g2 => ?_⟩
            rw [show lo + (x + 1) - 1 = lo + x by omega]
            by_cases hix : i = lo + x
            · rw [hix]
            · rw [heq]; exact he i (by omega) (by omega)
      case post2 =>
        rintro c st3 ⟨x, neq, rfl, hx1, hx2, hB3, hD3, hq, he⟩
        try dsimp only
        by_cases hneq : neq > 0
        · rw [if_pos hneq]
          refine wpS_bind ?_
          refine wpS_reverse ?_
          have hk3 := hB3.same (i := lo + x - (neq + 1)) (j := lo + x) (by omega) he
          have hB4 := hB3.flip (i := lo + x - (neq + 1)) (j := lo + x) (by omega) (by omega)
          have hD4 : DecIn κ (mirror (arrOf st3) (lo + x - (neq + 1)) (lo + x) ((lo + x - (lo + x - (neq + 1))) / 2)) lo (lo + x) := by
            intro i j g1 g2 g3
            rw [hk3, hk3]
            exact hD3 i j g1 g2 g3
          generalize hst4 : setArr st3 (mirror (arrOf st3) (lo + x - (neq + 1)) (lo + x) ((lo + x - (lo + x - (neq + 1))) / 2)) = st4 at hB4 ⊢
          replace hD4 : DecIn κ (arrOf st4) lo (lo + x) := by rw [← hst4]; exact hD4
          refine wpS_bind ?_
          refine wpS_reverse ?_
          have hB5 := hB4.flip (i := lo) (j := lo + x) (Nat.le_refl _) (by omega)
          have hS5 : SrtIn κ (mirror (arrOf st4) lo (lo + x) ((lo + x - lo) / 2)) lo (lo + x) := by
            intro i j g1 g2 g3
            rw [KK_mirror (by rw [hB4.size]; omega), KK_mirror (by rw [hB4.size]; omega), if_pos (by omega), if_pos (by omega)]
            exact hD4 _ _ (by omega) (by omega) (by omega)
          generalize hst5 : setArr st4 (mirror (arrOf st4) lo (lo + x) ((lo + x - lo) / 2)) = st5 at hB5 ⊢
          replace hS5 : SrtIn κ (arrOf st5) lo (lo + x) := by rw [← hst5]; exact hS5
          refine wpS_bind (wpS_mono (wpS_forRange
            (I := fun y c st' => st' = st5 ∧ c = (none, y) ∧ SrtIn κ (arrOf st5) lo (lo + y))
            (Q := fun c st' => st' = st5 ∧ ∃ n, c = (none, n) ∧ 1 ≤ n ∧ n ≤ nrem ∧ SrtIn κ (arrOf st5) lo (lo + n)) ?step6 ?fin6 ?init6) ?post6)
          case init6 => exact ⟨rfl, rfl, hS5⟩
          case fin6 =>
            rintro c st6 ⟨rfl, rfl, hs⟩
            rw [show max x nrem = nrem by omega] at hs ⊢
            exact ⟨rfl, nrem, rfl, h1, Nat.le_refl _, hs⟩
          case step6 =>
            rintro y c st6 hy1 hy2 ⟨rfl, rfl, hs⟩
            try dsimp only
            refine wpS_bind ?_
            refine lt_at hO hB5 h0 (by omega) (by omega) ?_
            try dsimp only
            cases hlt : κ.blt (KK κ (arrOf st6) (lo + y)) (KK κ (arrOf st6) (lo + y - 1))
            case true =>
              simp only [if_true]
              exact wpS_pure ⟨rfl, y, rfl, by omega, by omega, hs⟩
            case false =>
              simp only [Bool.false_eq_true, if_false]
              exact wpS_pure ⟨rfl, rfl, SrtIn.more hs (by omega) hlt⟩
          case post6 =>
            rintro c st6 ⟨rfl, n, rfl, g1, g2, hs⟩
            exact wpS_pure (h n _ hB5 g1 g2 hs)
        · rw [if_neg hneq]
          have hB4 := hB3
          have hD4 := hD3
          generalize st3 = st4 at hB4 hD4 ⊢
          refine wpS_bind ?_
          refine wpS_reverse ?_
          have hB5 := hB4.flip (i := lo) (j := lo + x) (Nat.le_refl _) (by omega)
          have hS5 : SrtIn κ (mirror (arrOf st4) lo (lo + x) ((lo + x - lo) / 2)) lo (lo + x) := by
            intro i j g1 g2 g3
            rw [KK_mirror (by rw [hB4.size]; omega), KK_mirror (by rw [hB4.size]; omega), if_pos (by omega), if_pos (by omega)]
            exact hD4 _ _ (by omega) (by omega) (by omega)
          generalize hst5 : setArr st4 (mirror (arrOf st4) lo (lo + x) ((lo + x - lo) / 2)) = st5 at hB5 ⊢
          replace hS5 : SrtIn κ (arrOf st5) lo (lo + x) := by rw [← hst5]; exact hS5
          refine wpS_bind (wpS_mono (wpS_forRange
            (I := fun y c st' => st' = st5 ∧ c = (none, y) ∧ SrtIn κ (arrOf st5) lo (lo + y))
            (Q := fun c st' => st' = st5 ∧ ∃ n, c = (none, n) ∧ 1 ≤ n ∧ n ≤ nrem ∧ SrtIn κ (arrOf st5) lo (lo + n)) ?step6 ?fin6 ?init6) ?post6)
          case init6 => exact ⟨rfl, rfl, hS5⟩
          case fin6 =>
            rintro c st6 ⟨rfl, rfl, hs⟩
            rw [show max x nrem = nrem by omega] at hs ⊢
            exact ⟨rfl, nrem, rfl, h1, Nat.le_refl _, hs⟩
          case step6 =>
            rintro y c st6 hy1 hy2 ⟨rfl, rfl, hs⟩
            try dsimp only
            refine wpS_bind ?_
            refine lt_at hO hB5 h0 (by omega) (by omega) ?_
            try dsimp only
            cases hlt : κ.blt (KK κ (arrOf st6) (lo + y)) (KK κ (arrOf st6) (lo + y - 1))
            case true =>
              simp only [if_true]
              exact wpS_pure ⟨rfl, y, rfl, by omega, by omega, hs⟩
            case false =>
              simp only [Bool.false_eq_true, if_false]
              exact wpS_pure ⟨rfl, rfl, SrtIn.more hs (by omega) hlt⟩
          case post6 =>
            rintro c st6 ⟨rfl, n, rfl, g1, g2, hs⟩
            exact wpS_pure (h n _ hB5 g1 g2 hs)

theorem binarySort_ok {st : SortSt} {n ok : Nat} {Q : Bool → SortSt → Prop} (hO : κ.OneLt) (h0 : KeysOf κ a₀) (hn : lo + n ≤ a₀.size) (hok : ok ≤ n) (hB : SB κ a₀ P lo x₀ st) (hs : SrtIn κ (arrOf st) lo (lo + ok))
    (h : ∀ st', SB κ a₀ P lo x₀ st' → SrtIn κ (arrOf st') lo (lo + n) → Q true st') : wpS (model prog w) A E s (binarySort' lo n ok) Q st := by
  refine wpS_bind ?_
  refine wpS_mono (wpS_forRange (I := fun k c st' => c = (none, ()) ∧ SB κ a₀ P lo x₀ st' ∧ SrtIn κ (arrOf st') lo (lo + min k n))
    (Q := fun c st' => c = (none, ()) ∧ SB κ a₀ P lo x₀ st' ∧ SrtIn κ (arrOf st') lo (lo + n)) ?step ?fin ?init) ?post
  case post =>
    rintro c st' ⟨rfl, hB', hs'⟩
    exact wpS_pure (h st' hB' hs')
  case init =>
    refine ⟨rfl, hB, fun i j g1 g2 g3 => ?_⟩
    by_cases h1 : ok = 0
    · obtain rfl : i = j := by omega
      exact KeyOrd.kle_refl _
    · exact hs i j g1 g2 (by omega)
  case fin =>
    rintro c st' ⟨hc, hB', hs'⟩
    rw [show min (max (max ok 1) n) n = n by omega] at hs'
    exact ⟨hc, hB', hs'⟩
  case step =>
    rintro k c st' hk1 hk2 ⟨rfl, hB', hs'⟩
    rw [show min k n = k by omega] at hs'
    try dsimp only
    refine wpS_bind ?_
    refine wpS_mono (wpS_forRange (I := fun x c st'' => st'' = st' ∧ ∃ l r, c = (none, l, r) ∧ l ≤ r ∧ r ≤ k ∧ r - l ≤ k - x ∧
        (∀ i, lo ≤ i → i < lo + l → κ.kle (KK κ (arrOf st') i) (KK κ (arrOf st') (lo + k))) ∧ (∀ i, lo + r ≤ i → i < lo + k → κ.klt (KK κ (arrOf st') (lo + k)) (KK κ (arrOf st') i)))
      (Q := fun c st'' => st'' = st' ∧ ∃ l r, c = (none, l, r) ∧ l ≤ k ∧
        (∀ i, lo ≤ i → i < lo + l → κ.kle (KK κ (arrOf st') i) (KK κ (arrOf st') (lo + k))) ∧ (∀ i, lo + l ≤ i → i < lo + k → κ.klt (KK κ (arrOf st') (lo + k)) (KK κ (arrOf st') i))) ?istep ?ifin ?iinit) ?ipost
    case iinit => exact ⟨rfl, 0, k, rfl, by omega, by omega, by omega, fun i g1 g2 => absurd g2 (by omega), fun i g1 g2 => absurd g2 (by omega)⟩
    case ifin =>
      rintro c st'' ⟨rfl, l, r, rfl, g1, g2, g3, g4, g5⟩
      obtain rfl : l = r := by omega
      exact ⟨rfl, l, l, rfl, g2, g4, g5⟩
    case istep =>
      rintro x c st'' _ hx ⟨rfl, l, r, rfl, g1, g2, g3, g4, g5⟩
      try dsimp only
      by_cases hge : l ≥ r
      · rw [if_pos hge]
        obtain rfl : l = r := by omega
        exact wpS_pure ⟨rfl, l, l, rfl, g2, g4, g5⟩
      · rw [if_neg hge]
        refine wpS_bind ?_
        refine lt_at hO hB' h0 (by omega) (by omega) ?_
        try dsimp only
        cases hless : κ.blt (KK κ (arrOf st'') (lo + k)) (KK κ (arrOf st'') (lo + (l + r) / 2))
        case true =>
          simp only [if_true]
          exact wpS_pure ⟨rfl, l, (l + r) / 2, rfl, by omega, by omega, by omega, g4, fun i d1 d2 => KeyOrd.klt_of_klt_of_kle hless (hs' _ _ (by omega) d1 d2)⟩
        case false =>
          simp only [Bool.false_eq_true, if_false]
          exact wpS_pure ⟨rfl, (l + r) / 2 + 1, r, rfl, by omega, by omega, by omega, fun i d1 d2 => KeyOrd.kle_trans (hs' i (lo + (l + r) / 2) d1 (by omega) (by omega)) hless, g5⟩
    case ipost =>
      rintro c st'' ⟨rfl, l, r, rfl, g2, g4, g5⟩
      try dsimp only
      refine wpS_bind ?_
      refine wpS_modify ?_
      have hks : lo + k < (arrOf st'').size := by rw [hB'.size]; omega
      have hkk := KK_bubble (κ := κ) (xs := arrOf st'') (src := lo + k) (d := lo + k - (lo + l)) hks (by omega)
      refine wpS_pure ⟨rfl, hB'.set (bubble_perm _ _ _) fun i hi => ?_, ?_⟩
      · exact (hkk i).trans (by rw [if_neg (by omega), if_neg (by omega)])
      · rw [show min (k + 1) n = k + 1 by omega]
        intro i j d1 d2 d3
        show κ.kle (KK κ (bubble (arrOf st'') (lo + k) (lo + k - (lo + l))) i) (KK κ (bubble (arrOf st'') (lo + k) (lo + k - (lo + l))) j)
        rw [hkk, hkk, show lo + k - (lo + k - (lo + l)) = lo + l by omega]
        repeat' split
        all_goals first
          | (exfalso; omega)
          | exact KeyOrd.kle_refl _
          | exact g4 _ (by omega) (by omega)
          | exact KeyOrd.kle_of_klt (g5 _ (by omega) (by omega))
          | exact hs' _ _ (by omega) (by omega) (by omega)
end
end
end Mine

end
section
open PySem PySem.W PyProof.Rows PySem.Spec PySem.Calls
set_option Elab.async false
set_option maxHeartbeats 1000000
namespace Mine
section
variable {κ : KeyKind}
theorem srt_of {l : List Keyed} (h : ∀ i j (hi : i < l.length) (hj : j < l.length), i < j → κ.kle (kOf κ l[i]) (kOf κ l[j])) : Srt κ l := List.pairwise_iff_getElem.mpr h
theorem SrtIn.ext {xs : Array Keyed} {lo hi i j : Nat} (h : SrtIn κ xs lo hi) (h1 : lo ≤ i) (h2 : j ≤ hi) (h3 : j ≤ xs.size) : Srt κ (xs.extract i j).toList := by
  refine srt_of fun m n hm hn hmn => ?_
  rw [Array.length_toList, Array.size_extract] at hm hn
  have e1 : xs[i + m]? = some xs[i + m] := getElem?_pos xs (i + m) (by omega)
  have e2 : xs[i + n]? = some xs[i + n] := getElem?_pos xs (i + n) (by omega)
  have := h (i + m) (i + n) (by omega) (by omega) (by omega)
  rw [KK_at e1, KK_at e2] at this
  simpa using this
theorem SrtIn.of {xs : Array Keyed} (h : Srt κ xs.toList) : SrtIn κ xs 0 xs.size := fun _ _ _ hij hj => srt_idx h hij hj
theorem setAll (k : Nat) : ∀ (l : List Keyed) (n : Nat) (arr : Array Keyed), k + n + l.length ≤ arr.size →
    ((l.zipIdx n).foldl (fun a (x : Keyed × Nat) => a.setIfInBounds (k + x.2) x.1) arr).toList = arr.toList.take (k + n) ++ l ++ arr.toList.drop (k + n + l.length)
  | [], n, arr, _ => by simp
  | p :: l, n, arr, h => by
    simp only [List.length_cons] at h
    rw [List.zipIdx_cons, List.foldl_cons, setAll k l (n + 1) _ (by simp only [Array.size_setIfInBounds]; omega)]
    simp only [Array.toList_setIfInBounds, List.length_cons]
    have hs : arr.toList.length = arr.size := by simp
    rw [List.drop_set_of_lt (by omega), show k + (n + 1) = k + n + 1 by omega, List.take_set]
    rw [← List.take_append_getElem (i := k + n) (by omega), List.set_append_right _ _ (by simp; omega)]
    simp only [List.length_take, List.append_assoc]
    have e : k + n - min (k + n) arr.toList.length = 0 := by omega
    rw [e]
    simp only [List.set_cons_zero, List.cons_append, List.nil_append]
    rw [show k + n + 1 + l.length = k + n + (l.length + 1) by omega]
section
variable {prog : Program} {w : World} {A : Around} {E : Value → Shared → Prop} {s : Shared}
theorem wpS_set {M : Model} {σ : Type} {x : σ} {Q : PUnit → σ → Prop} {st : σ} (h : Q ⟨⟩ x) : wpS M A E s (set x : StateT σ Sem PUnit) Q st := by
  unfold wpS; rw [StateT.run_set]; exact wpAny_pure ⟨rfl, h⟩

theorem merge_arr {arr : Array Keyed} {k n1 nb : Nat} {out : Array Keyed} {q p : Keyed} (hk : k < n1) (hb : 0 < nb) (hsz : n1 + nb ≤ arr.size) (h1 : SrtIn κ arr 0 n1) (h2 : SrtIn κ arr n1 arr.size)
    (eq : arr[n1]? = some q) (ep : arr[n1 - 1]? = some p)
    (g1 : ∀ m x, m < k → arr[m]? = some x → κ.kle (kOf κ x) (kOf κ q)) (g2 : ∀ m x, k ≤ m → m < n1 → arr[m]? = some x → κ.klt (kOf κ q) (kOf κ x))
    (g3 : ∀ m x, n1 ≤ m → m < n1 + nb → arr[m]? = some x → κ.klt (kOf κ x) (kOf κ p)) (g4 : ∀ m x, n1 + nb ≤ m → m < arr.size → arr[m]? = some x → κ.kle (kOf κ p) (kOf κ x))
    (hG : Good κ ((arr.extract k n1).toList ++ (arr.extract n1 (n1 + nb)).toList) out) :
    ((out.toList.zipIdx.foldl (fun a (x : Keyed × Nat) => a.setIfInBounds (k + x.2) x.1) arr).Perm arr) ∧ SrtIn κ (out.toList.zipIdx.foldl (fun a (x : Keyed × Nat) => a.setIfInBounds (k + x.2) x.1) arr) 0 arr.size := by
  have hlen : out.toList.length = n1 - k + nb := by
    rw [hG.1.length_eq, List.length_append, Array.length_toList, Array.length_toList, Array.size_extract, Array.size_extract]; omega
  have eR := setAll k out.toList 0 arr (by rw [hlen]; omega)
  rw [hlen, show k + 0 + (n1 - k + nb) = n1 + nb by omega, Nat.add_zero] at eR
  generalize (out.toList.zipIdx.foldl (fun a (x : Keyed × Nat) => a.setIfInBounds (k + x.2) x.1) arr) = R at eR ⊢
  have eA : arr.toList = arr.toList.take k ++ ((arr.extract k n1).toList ++ (arr.extract n1 (n1 + nb)).toList) ++ arr.toList.drop (n1 + nb) := by
    conv => lhs; rw [← List.take_append_drop (n1 + nb) arr.toList]
    rw [take_split arr (i := n1) (j := n1 + nb) (by omega), take_split arr (i := k) (j := n1) (by omega)]
    simp only [List.append_assoc]
  have hP : R.toList.Perm arr.toList := by
    rw [eR]
    conv => rhs; rw [eA]
    exact (hG.1.append_left _).append_right _
  have hsR : R.size = arr.size := by simpa using hP.length_eq
  refine ⟨Array.perm_iff_toList_perm.mpr hP, ?_⟩
  rw [← hsR]
  refine SrtIn.of ?_
  rw [eR]
  have qo : ∀ o ∈ out.toList, κ.kle (kOf κ q) (kOf κ o) := by
    intro o ho
    rcases List.mem_append.mp (hG.1.mem_iff.mp ho) with h | h
    · obtain ⟨m, m1, m2, e⟩ := mem_extract' h
      exact KeyOrd.kle_of_klt (g2 m o m1 m2 e)
    · obtain ⟨m, m1, m2, e⟩ := mem_extract' h
      have := h2 n1 m (Nat.le_refl _) m1 (by omega)
      rwa [KK_at eq, KK_at e] at this
  have op : ∀ o ∈ out.toList, κ.kle (kOf κ o) (kOf κ p) := by
    intro o ho
    rcases List.mem_append.mp (hG.1.mem_iff.mp ho) with h | h
    · obtain ⟨m, m1, m2, e⟩ := mem_extract' h
      have := h1 m (n1 - 1) (Nat.zero_le _) (by omega) (by omega)
      rwa [KK_at ep, KK_at e] at this
    · obtain ⟨m, m1, m2, e⟩ := mem_extract' h
      exact KeyOrd.kle_of_klt (g3 m o m1 m2 e)
  have qp : κ.kle (kOf κ q) (kOf κ p) := KeyOrd.kle_of_klt (g2 (n1 - 1) p (by omega) (by omega) ep)
  have lo1 : ∀ x ∈ arr.toList.take k, κ.kle (kOf κ x) (kOf κ q) := fun x hx => by
    obtain ⟨m, m1, m2, e⟩ := mem_take' hx
    exact g1 m x m1 e
  have hi1 : ∀ x ∈ arr.toList.drop (n1 + nb), κ.kle (kOf κ p) (kOf κ x) := fun x hx => by
    obtain ⟨m, m1, m2, e⟩ := mem_drop' hx
    exact g4 m x m1 m2 e
  refine Srt.mk' (Srt.mk' ?_ hG.2 ?_) ?_ ?_
  · rw [← ext_take]; exact h1.ext (Nat.le_refl _) (by omega) (by omega)
  · exact fun x hx o ho => KeyOrd.kle_trans (lo1 x hx) (qo o ho)
  · rw [← ext_drop]; exact h2.ext (by omega) (Nat.le_refl _) (Nat.le_refl _)
  · intro x hx y hy
    rcases List.mem_append.mp hx with hx | hx
    · exact KeyOrd.kle_trans (lo1 x hx) (KeyOrd.kle_trans qp (hi1 y hy))
    · exact KeyOrd.kle_trans (op x hx) (hi1 y hy)

theorem mergeAt_ok (hO : κ.OneLt) {a₀ arr : Array Keyed} {n1 n2 p1 p2 mg : Nat} {Q : Bool → SortSt → Prop} (h0 : KeysOf κ a₀) (hp : arr.Perm a₀) (hn1 : 1 ≤ n1) (hn2 : 1 ≤ n2) (hsz : n1 + n2 = a₀.size)
    (h1 : SrtIn κ arr 0 n1) (h2 : SrtIn κ arr n1 a₀.size)
    (h : ∀ st', (arrOf st').Perm a₀ → failedOf st' = none → (pendingOf st').size ≤ 1 → SrtIn κ (arrOf st') 0 a₀.size → Q true st') :
    wpS (model prog w) A E s (mergeAt' 0) Q (SortSt.mk' oneType' arr #[(0, n1, p1), (n1, n2, p2)] mg none) := by
  have hsa := hp.size_eq
  have ka : ∀ p ∈ arr.toList, Keyd κ p := fun p hp' => h0 p ((Array.perm_iff_toList_perm.mp hp).mem_iff.mp hp')
  have hka : ∀ {i p}, arr[i]? = some p → Keyd κ p := fun e => ka _ (by obtain ⟨hi, e⟩ := Array.getElem?_eq_some_iff.mp e; rw [← e]; simp)
  have iA : ∀ i, i < arr.size → ∃ p, arr[i]? = some p := fun i hi => ⟨_, getElem?_pos arr i hi⟩
  rw [← hsa] at hsz h2 h
  refine wpS_bind ?_
  refine wpS_get ?_
  have e1 : (#[(0, n1, p1), (n1, n2, p2)] : Array (Nat × Nat × Nat))[0]? = some (0, n1, p1) := rfl
  have e2 : (#[(0, n1, p1), (n1, n2, p2)] : Array (Nat × Nat × Nat))[0 + 1]? = some (n1, n2, p2) := rfl
  dsimp only
  rw [e1, e2]
  dsimp only
  obtain ⟨q, eq⟩ := iA n1 (by omega)
  obtain ⟨p, ep⟩ := iA (n1 - 1) (by omega)
  refine wpS_bind ?_
  refine wpS_set ?_
  refine wpS_bind ?_
  refine elem_ok eq ?_
  refine wpS_bind ?_
  refine gal_right hO rfl (hka eq) ka (fun i j d1 d2 d3 => h1 i j d1 d2 (by omega)) (by omega) (by omega) ?_
  intro k hk g1 g2
  dsimp only
  simp only [Nat.zero_add] at g1 g2 ⊢
  by_cases hk0 : n1 - k = 0
  · rw [if_pos (by simpa using hk0)]
    obtain rfl : k = n1 := by omega
    refine wpS_pure (h _ hp rfl (by show (Array.eraseIdxIfInBounds _ _).size ≤ 1; simp [Array.eraseIdxIfInBounds]) ?_)
    intro i j d1 d2 d3
    show κ.kle (KK κ arr i) (KK κ arr j)
    by_cases hj : j < k
    · exact h1 i j d1 d2 hj
    by_cases hi : k ≤ i
    · exact h2 i j hi d2 d3
    obtain ⟨x, ex⟩ := iA i (by omega)
    have a1 : κ.kle (KK κ arr i) (KK κ arr k) := by rw [KK_at ex, KK_at eq]; exact g1 i x (Nat.zero_le _) (by omega) ex
    exact KeyOrd.kle_trans a1 (h2 k j (Nat.le_refl _) (by omega) d3)
  rw [if_neg (by simpa using hk0)]
  have ep' : arr[k + (n1 - k) - 1]? = some p := by rw [show k + (n1 - k) - 1 = n1 - 1 by omega]; exact ep
  refine wpS_bind ?_
  refine elem_ok ep' ?_
  refine wpS_bind ?_
  refine gal_left hO rfl (hka ep) ka (fun i j d1 d2 d3 => h2 i j d1 d2 (by omega)) (by omega) (by omega) ?_
  intro nb hnb g3 g4
  dsimp only
  by_cases hb0 : nb = 0
  · rw [if_pos (by simpa using hb0)]
    subst hb0
    refine wpS_pure (h _ hp rfl (by show (Array.eraseIdxIfInBounds _ _).size ≤ 1; simp [Array.eraseIdxIfInBounds]) ?_)
    intro i j d1 d2 d3
    show κ.kle (KK κ arr i) (KK κ arr j)
    by_cases hj : j < n1
    · exact h1 i j d1 d2 hj
    by_cases hi : n1 ≤ i
    · exact h2 i j hi d2 d3
    obtain ⟨x, ex⟩ := iA j (by omega)
    have a1 : κ.kle (KK κ arr (n1 - 1)) (KK κ arr j) := by rw [KK_at ex, KK_at ep]; exact g4 j x (by omega) (by omega) ex
    exact KeyOrd.kle_trans (h1 i (n1 - 1) d1 (by omega) (by omega)) a1
  rw [if_neg (by simpa using hb0)]
  have kx : ∀ x ∈ (arr.extract k n1).toList, Keyd κ x := fun x hx => by obtain ⟨m, _, _, e⟩ := mem_extract' hx; exact hka e
  have ky : ∀ x ∈ (arr.extract n1 (n1 + nb)).toList, Keyd κ x := fun x hx => by obtain ⟨m, _, _, e⟩ := mem_extract' hx; exact hka e
  have sx : Srt κ (arr.extract k n1).toList := h1.ext (Nat.zero_le _) (Nat.le_refl _) (by omega)
  have sy : Srt κ (arr.extract n1 (n1 + nb)).toList := h2.ext (Nat.le_refl _) (by omega) (by omega)
  have zx : (arr.extract k n1).size = n1 - k := by rw [Array.size_extract]; omega
  have zy : (arr.extract n1 (n1 + nb)).size = nb := by rw [Array.size_extract]; omega
  have y0 : (arr.extract n1 (n1 + nb))[0]? = some q := by
    rw [Array.getElem?_extract]; rw [if_pos (by omega)]; exact eq
  have xl : (arr.extract k n1)[(arr.extract k n1).size - 1]? = some p := by
    rw [zx, Array.getElem?_extract, if_pos (by omega), show k + (n1 - k - 1) = n1 - 1 by omega]; exact ep
  have hfirst : ∀ x ∈ (arr.extract k n1).toList, κ.kle (kOf κ q) (kOf κ x) := fun x hx => by obtain ⟨m, m1, m2, e⟩ := mem_extract' hx; exact KeyOrd.kle_of_klt (g2 m x m1 m2 e)
  have hlast : ∀ y ∈ (arr.extract n1 (n1 + nb)).toList, κ.kle (kOf κ y) (kOf κ p) := fun x hx => by obtain ⟨m, m1, m2, e⟩ := mem_extract' hx; exact KeyOrd.kle_of_klt (g3 m x m1 m2 e)
  have last : ∀ (out : Array Keyed) (st' : SortSt), arrOf st' = arr → failedOf st' = none → (pendingOf st').size ≤ 1 → Good κ ((arr.extract k n1).toList ++ (arr.extract n1 (n1 + nb)).toList) out →
      Q true (setArr st' (out.toList.zipIdx.foldl (fun a (x : Keyed × Nat) => a.setIfInBounds (k + x.2) x.1) (arrOf st'))) := by
    intro out st' ea ef ep2 hG
    rw [ea]
    obtain ⟨m1, m2⟩ := merge_arr (by omega) (by omega) (by omega) h1 h2 eq ep (fun m x => g1 m x (Nat.zero_le _)) g2 g3 (fun m x c1 c2 => g4 m x c1 (by omega)) hG
    exact h _ (m1.trans hp) ef ep2 m2
  have pz : ∀ {st' : SortSt}, Same (SortSt.mk' oneType' arr ((#[(0, n1, p1), (n1, n2, p2)].setIfInBounds 0 (0, n1 + n2, p1)).eraseIdxIfInBounds (0 + 1)) mg none) st' → (pendingOf st').size ≤ 1 := fun hS => by
    rw [hS.pend]; show (Array.eraseIdxIfInBounds _ _).size ≤ 1; simp [Array.eraseIdxIfInBounds]
  by_cases hle : n1 - k ≤ nb
  · rw [if_pos hle]
    refine wpS_bind ?_
    refine mergeLo_ok hO rfl kx ky sx sy (by omega) (by omega) ?_ ?_ fun out st' hS hG => ?_
    · intro x ex
      rw [y0] at ex; obtain rfl := Option.some.inj ex
      intro z hz y hy
      rw [List.mem_singleton.mp hz]; exact hfirst y hy
    · intro y hy z hz
      rw [drop_at xl, drop_nil' (by omega)] at hz
      rw [List.mem_singleton.mp hz]; exact hlast y hy
    · refine wpS_bind ?_
      refine wpS_modify ?_
      refine wpS_bind (wpS_get ?_)
      have := last out st' hS.arr hS.failed (pz hS) hG
      have hf : failedOf st' = none := hS.failed
      refine wpS_pure ?_
      show Q (failedOf st').isNone _
      rw [hf]
      exact this
  · rw [if_neg hle]
    refine wpS_bind ?_
    refine mergeHi_ok hO rfl kx ky sx sy (by omega) (by omega) ?_ ?_ fun out st' hS hG => ?_
    · intro z hz y hy
      rw [show 1 = 0 + 1 from rfl, take_at y0] at hz
      simp only [List.take_zero, List.nil_append] at hz
      rw [List.mem_singleton.mp hz]; exact hfirst y hy
    · intro x ex
      rw [xl] at ex; obtain rfl := Option.some.inj ex
      intro y hy z hz
      rw [List.mem_singleton.mp hz]; exact hlast y hy
    · refine wpS_bind ?_
      refine wpS_modify ?_
      refine wpS_bind (wpS_get ?_)
      have := last out st' hS.arr hS.failed (pz hS) hG
      have hf : failedOf st' = none := hS.failed
      refine wpS_pure ?_
      show Q (failedOf st').isNone _
      rw [hf]
      exact this
end
end
end Mine

end
section
open PySem PySem.W PyProof.Rows PySem.Spec PySem.Calls
set_option Elab.async false
set_option maxHeartbeats 1000000
namespace Mine
section
variable {prog : Program} {w : World} {A : Around} {E : Value → Shared → Prop} {s : Shared} {κ : KeyKind}
/-- two runs stand one behind the other -/
structure Two (κ : KeyKind) (a₀ : Array Keyed) (st : SortSt) : Prop where
  perm : (arrOf st).Perm a₀
  kind : kindOf st = oneType'
  failed : failedOf st = none
  runs : ∃ n1 n2 pw, 1 ≤ n1 ∧ 1 ≤ n2 ∧ n1 + n2 = a₀.size ∧ pendingOf st = #[(0, n1, pw), (n1, n2, 0)] ∧ SrtIn κ (arrOf st) 0 n1 ∧ SrtIn κ (arrOf st) n1 a₀.size
structure One (κ : KeyKind) (a₀ : Array Keyed) (st : SortSt) : Prop where
  perm : (arrOf st).Perm a₀
  failed : failedOf st = none
  pend : (pendingOf st).size ≤ 1
  srt : SrtIn κ (arrOf st) 0 a₀.size

theorem sortRuns_ok {a₀ : Array Keyed} {st : SortSt} {Q : Unit → SortSt → Prop} (hO : κ.OneLt) (h0 : KeysOf κ a₀) (hB : SBase a₀ st) (h64 : 64 ≤ a₀.size) (h128 : a₀.size < 128)
    (h : ∀ st', (arrOf st').Perm a₀ → failedOf st' = none → SortedToK κ (arrOf st') a₀.size → Q () st') : wpS (model prog w) A E s sortRuns' Q st := by
  rw [sortRuns'_eq]
  refine wpS_bind (wpS_get ?_)
  try dsimp only
  obtain ⟨mr, hmr, hm1, hm2⟩ : ∃ mr, minRun' a₀.size a₀.size 0 = mr ∧ a₀.size ≤ mr + mr ∧ mr < a₀.size := by
    obtain ⟨f, hf⟩ : ∃ f, a₀.size = f + 1 + 1 := ⟨a₀.size - 2, by omega⟩
    refine ⟨_, rfl, ?_⟩
    have e : minRun' a₀.size a₀.size 0 = a₀.size / 2 + a₀.size % 2 := by
      have : minRun' (f + 1 + 1) a₀.size 0 = a₀.size / 2 + a₀.size % 2 := by
        rw [minRun'_succ, if_neg (by omega), minRun'_succ, if_pos (by omega)]; omega
      rw [← hf] at this; exact this
    rw [e]; omega
  simp only [hB.size, hmr]
  have hB0 : SB κ a₀ #[] 0 a₀ st := ⟨hB.perm, hB.kind, hB.failed, hB.pend, fun i hi => absurd hi (by omega)⟩
  refine wpS_bind (wpS_mono (wpS_forRange
    (I := fun x c st' => (x = 0 ∧ c = (none, 0) ∧ SB κ a₀ #[] 0 a₀ st') ∨ (x = 1 ∧ ∃ n1, c = (none, n1) ∧ mr ≤ n1 ∧ n1 ≤ a₀.size ∧ SB κ a₀ #[(0, n1, 0)] 0 a₀ st' ∧ SrtIn κ (arrOf st') 0 n1) ∨ (2 ≤ x ∧ c = (none, a₀.size) ∧ Two κ a₀ st'))
    (Q := fun c st' => c = (none, a₀.size) ∧ (One κ a₀ st' ∨ Two κ a₀ st')) ?step ?fin (.inl ⟨rfl, rfl, hB0⟩)) ?post)
  case fin =>
    rintro c st' (⟨hx, _⟩ | ⟨hx, _⟩ | ⟨_, hc, hD⟩)
    · omega
    · omega
    · exact ⟨hc, .inr hD⟩
  case step =>
    rintro x c st' _ hx (⟨rfl, rfl, hB'⟩ | ⟨rfl, n1, rfl, hn1, hn2, hB', hS'⟩ | ⟨hx2, rfl, hD⟩)
    · dsimp only
      rw [if_neg (by omega)]
      simp only [Nat.sub_zero, Nat.zero_add]
      refine wpS_bind (countRun_ok hO h0 (by omega) (by omega) hB' fun m st2 hB2 g1 g2 hs2 => ?_)
      try dsimp only
      have fin1 : ∀ (n : Nat) (st3 : SortSt), SB κ a₀ #[] 0 a₀ st3 → mr ≤ n → n ≤ a₀.size → SrtIn κ (arrOf st3) 0 n → SB κ a₀ #[(0, n, 0)] 0 a₀ (setPending st3 ((pendingOf st3).push (0, n, 0))) := fun n st3 hB3 _ _ _ =>
        ⟨hB3.perm, hB3.kind, hB3.failed, by show (pendingOf st3).push _ = _; rw [hB3.pend]; rfl, hB3.pre⟩
      rw [Nat.zero_add] at hs2
      by_cases hlt : m < mr
      · rw [if_pos hlt]
        refine wpS_bind (wpS_lift (wpAny_rule ⟨rfl, ?_⟩))
        have hfo : min a₀.size mr = mr := by omega
        simp only [hfo]
        refine wpS_bind (binarySort_ok hO h0 (by omega) (by omega) hB2 (by rw [Nat.zero_add]; exact hs2) fun st3 hB3 hs3 => ?_)
        rw [Nat.zero_add] at hs3
        simp only [Bool.not_true, Bool.false_eq_true, if_false]
        refine wpS_bind (wpS_get ?_)
        have hb : (pendingOf st3).back? = none := by rw [hB3.pend]; rfl
        rw [hb]
        try dsimp only
        exact wpS_bind (wpS_modify (wpS_pure (.inr (.inl ⟨trivial, mr, rfl, Nat.le_refl _, by omega, fin1 mr st3 hB3 (Nat.le_refl _) (by omega) hs3, hs3⟩))))
      · rw [if_neg hlt]
        refine wpS_bind (wpS_get ?_)
        have hb : (pendingOf st2).back? = none := by rw [hB2.pend]; rfl
        rw [hb]
        try dsimp only
        exact wpS_bind (wpS_modify (wpS_pure (.inr (.inl ⟨trivial, m, rfl, by omega, g2, fin1 m st2 hB2 (by omega) g2 hs2, hs2⟩))))
    · dsimp only
      by_cases hfull : n1 ≥ a₀.size
      · rw [if_pos hfull]
        obtain rfl : n1 = a₀.size := by omega
        exact wpS_pure ⟨rfl, .inl ⟨hB'.perm, hB'.failed, by rw [hB'.pend]; exact Nat.le_refl 1, hS'⟩⟩
      · rw [if_neg hfull]
        have hBn : SB κ a₀ #[(0, n1, 0)] n1 (arrOf st') st' := ⟨hB'.perm, hB'.kind, hB'.failed, hB'.pend, fun _ _ => rfl⟩
        refine wpS_bind (countRun_ok hO h0 (by omega) (by omega) hBn fun m st2 hB2 g1 g2 hs2 => ?_)
        try dsimp only
        have fin2 : ∀ (pw : Nat) (st3 : SortSt), SB κ a₀ #[(0, n1, 0)] n1 (arrOf st') st3 → SrtIn κ (arrOf st3) n1 (n1 + (a₀.size - n1)) →
            Two κ a₀ (setPending (setPending st3 ((pendingOf st3).modify ((pendingOf st3).size - 1) fun (st, len, _) => (st, len, pw))) ((pendingOf (setPending st3 ((pendingOf st3).modify ((pendingOf st3).size - 1) fun (st, len, _) => (st, len, pw)))).push (n1, a₀.size - n1, 0))) := by
          intro pw st3 hB3 hs3
          refine ⟨hB3.perm, hB3.kind, hB3.failed, n1, a₀.size - n1, pw, by omega, by omega, by omega, ?_, ?_, ?_⟩
          · show ((pendingOf st3).modify ((pendingOf st3).size - 1) fun (st, len, _) => (st, len, pw)).push _ = _
            rw [hB3.pend]; rfl
          · intro i j d1 d2 d3
            show κ.kle (KK κ (arrOf st3) i) (KK κ (arrOf st3) j)
            rw [hB3.pre i (by omega), hB3.pre j (by omega)]
            exact hS' i j d1 d2 d3
          · rw [show n1 + (a₀.size - n1) = a₀.size by omega] at hs3
            exact hs3
        by_cases hlt : m < mr
        · rw [if_pos hlt]
          refine wpS_bind (wpS_lift (wpAny_rule ⟨rfl, ?_⟩))
          have hfo : min (a₀.size - n1) mr = a₀.size - n1 := by omega
          simp only [hfo]
          refine wpS_bind (binarySort_ok hO h0 (by omega) g2 hB2 hs2 fun st3 hB3 hs3 => ?_)
          simp only [Bool.not_true, Bool.false_eq_true, if_false]
          refine wpS_bind (wpS_get ?_)
          have hb : (pendingOf st3).back? = some (0, n1, 0) := by rw [hB3.pend]; rfl
          rw [hb]
          try dsimp only
          refine wpS_bind (wpS_mono (wpS_forRange (I := fun _ c st'' => st'' = st3 ∧ c = (none, ())) (Q := fun c st'' => st'' = st3 ∧ c = (none, ())) ?_ (fun _ _ hh => hh) ⟨rfl, rfl⟩) ?_)
          · rintro x c st'' _ _ ⟨rfl, rfl⟩
            refine wpS_bind (wpS_get ?_)
            have e : (if (pendingOf st'').size > 1 then (pendingOf st'')[(pendingOf st'').size - 2]? else none) = none := by rw [hB3.pend]; rfl
            try dsimp only
            rw [e]
            exact wpS_pure ⟨rfl, rfl⟩
          · rintro c st'' ⟨rfl, rfl⟩
            try dsimp only
            refine wpS_bind (wpS_modify ?_)
            refine wpS_bind (wpS_modify ?_)
            refine wpS_pure (.inr (.inr ⟨by omega, ?_, fin2 _ _ hB3 hs3⟩))
            rw [show n1 + (a₀.size - n1) = a₀.size by omega]
        · rw [if_neg hlt]
          obtain rfl : m = a₀.size - n1 := by omega
          refine wpS_bind (wpS_get ?_)
          have hb : (pendingOf st2).back? = some (0, n1, 0) := by rw [hB2.pend]; rfl
          rw [hb]
          try dsimp only
          refine wpS_bind (wpS_mono (wpS_forRange (I := fun _ c st'' => st'' = st2 ∧ c = (none, ())) (Q := fun c st'' => st'' = st2 ∧ c = (none, ())) ?_ (fun _ _ hh => hh) ⟨rfl, rfl⟩) ?_)
          · rintro x c st'' _ _ ⟨rfl, rfl⟩
            refine wpS_bind (wpS_get ?_)
            have e : (if (pendingOf st'').size > 1 then (pendingOf st'')[(pendingOf st'').size - 2]? else none) = none := by rw [hB2.pend]; rfl
            try dsimp only
            rw [e]
            exact wpS_pure ⟨rfl, rfl⟩
          · rintro c st'' ⟨rfl, rfl⟩
            try dsimp only
            refine wpS_bind (wpS_modify ?_)
            refine wpS_bind (wpS_modify ?_)
            refine wpS_pure (.inr (.inr ⟨by omega, ?_, fin2 _ _ hB2 hs2⟩))
            rw [show n1 + (a₀.size - n1) = a₀.size by omega]
    · dsimp only
      rw [if_pos (Nat.le_refl _)]
      exact wpS_pure ⟨rfl, .inr hD⟩
  case post =>
    rintro c st' ⟨rfl, hD⟩
    try dsimp only
    refine wpS_bind (wpS_mono (wpS_forRange (I := fun y c st'' => c = (none, ()) ∧ (One κ a₀ st'' ∨ (y = 0 ∧ Two κ a₀ st''))) (Q := fun c st'' => c = (none, ()) ∧ One κ a₀ st'') ?_ ?_ ⟨rfl, hD.imp id fun hh => ⟨rfl, hh⟩⟩) ?_)
    · rintro y c st'' _ _ ⟨rfl, hD⟩
      refine wpS_bind (wpS_get ?_)
      try dsimp only
      rcases hD with hD | ⟨rfl, hD⟩
      · rw [if_pos hD.pend]
        exact wpS_pure ⟨rfl, hD⟩
      · obtain ⟨n1, n2, pw, d1, d2, d3, d4, d5, d6⟩ := hD.runs
        rw [d4]
        rw [if_neg (by show ¬ 2 ≤ 1; decide)]
        have hst : st'' = SortSt.mk' oneType' (arrOf st'') #[(0, n1, pw), (n1, n2, 0)] (gallopOf st'') none := by
          have e1 := hD.kind
          have e2 := hD.failed
          obtain ⟨kd, ar, pd, mg, fl⟩ := st''
          change kd = oneType' at e1
          change fl = none at e2
          change pd = _ at d4
          subst e1; subst e2; subst d4; rfl
        refine wpS_bind ?_
        show wpS _ _ _ _ (mergeAt' 0) _ st''
        rw [hst]
        refine mergeAt_ok hO h0 hD.perm d1 d2 d3 d5 d6 fun st3 c1 c2 c3 c4 => ?_
        exact wpS_pure ⟨rfl, .inl ⟨c1, c2, c3, c4⟩⟩
    · rintro c st'' ⟨rfl, hD | ⟨hy, _⟩⟩
      · exact ⟨rfl, hD⟩
      · omega
    · rintro c st'' ⟨rfl, hD⟩
      exact wpS_pure (h _ hD.perm hD.failed fun i j d1 d2 => hD.srt i j (Nat.zero_le _) d1 d2)
end
end Mine

end
section
open PySem PySem.W PyProof.Rows PySem.Spec PySem.Calls
set_option Elab.async false
set_option maxHeartbeats 1000000
namespace Mine
section
variable {prog : Program} {w : World} {A : Around} {E : Value → Shared → Prop} {s : Shared}

/-- list.sort of 64 to 127 items -/
theorem big_tree {κ : KeyKind} (hO : κ.OneLt) {a : Addr} {vs : List Value} {n : Nat} {P : Fin → Shared → Prop} (ho : s.heap.get? a = some (seqObj "list" vs.toArray n)) (h0 : KeysOf κ (pairsOf vs))
    (hkk : ∀ v₁ v₂ rest, vs = v₁ :: v₂ :: rest → keyKind' (v₁ :: v₂ :: rest).toArray = pure oneType') (h64 : 64 ≤ vs.length) (h128 : vs.length < 128)
    (h : ∀ st' : SortSt, (arrOf st').Perm (pairsOf vs) → SortedToK κ (arrOf st') (pairsOf vs).size → P (.done (.ret .none)) { s with heap := sortedHeap s.heap a vs ((arrOf st').map (·.2)) }) :
    wpAny (model prog w) A (Builtin.«list.sort» ⟨[.ref a], []⟩) P E s := by
  obtain ⟨v₁, v₂, rest, rfl⟩ : ∃ v₁ v₂ rest, vs = v₁ :: v₂ :: rest := by
    match vs, h64 with
    | [], h => simp at h
    | [_], h => simp at h
    | v₁ :: v₂ :: rest, _ => exact ⟨v₁, v₂, rest, rfl⟩
  generalize hvs : v₁ :: v₂ :: rest = vs at ho h0 h64 h128 h ⊢
  have hk2 := hkk _ _ _ rfl
  rw [hvs] at hk2
  rw [list_sort_plain]
  have ha : a < s.heap.objs.size := Heap.lt_size ho
  refine wpAny_bind (listItems_at ho rfl ?_)
  refine wpAny_bind (listUpdate_at ho rfl ?_)
  obtain ⟨e1, ho1⟩ : ∃ e1, (s.heap.update a (Obj.mapSeq fun _ => #[])).get? a = some (seqObj "list" #[] e1) := ⟨_, get?_update_seq ho (fun _ => #[])⟩
  refine wpAny_bind (seqEpoch_at ho1 rfl ?_)
  refine wpAny_bind (wpAny_newTuple ?_)
  refine wpAny_bind (wpAny_newList ?_)
  refine wpAny_holding ?_
  have ho6 : (((s.heap.update a (Obj.mapSeq fun _ => #[])).push (seqObj "tuple" vs.toArray 0)).push (seqObj "list" #[] 0)).get? a = some (seqObj "list" #[] e1) := by
    rw [Heap.get?_push_ne _ _ _ (by rw [size_push', Heap.size_update]; exact Nat.ne_of_lt (Nat.lt_succ_of_lt ha)), Heap.get?_push_ne _ _ _ (by rw [Heap.size_update]; exact Nat.ne_of_lt ha)]
    exact ho1
  show wpAny (model prog w) A _ P E { s with heap := ((s.heap.update a (Obj.mapSeq fun _ => #[])).push (seqObj "tuple" vs.toArray 0)).push (seqObj "list" #[] 0) }
  try dsimp only
  have h2 : ¬ vs.toArray.size < 2 := by rw [List.size_toArray]; omega
  rw [if_neg h2, if_neg h2, hk2]
  refine wpAny_bind (wpAny_pure ?_)
  refine wpAny_bind (wpAny_mono (sortRuns_ok (κ := κ) hO (a₀ := pairsOf vs) (st := SortSt.mk' oneType' (vs.toArray.zip vs.toArray) #[] 7 none)
    (Q := fun _ st' => (arrOf st').Perm (pairsOf vs) ∧ failedOf st' = none ∧ SortedToK κ (arrOf st') (pairsOf vs).size)
    h0 ⟨Array.Perm.refl _, rfl, rfl, rfl⟩ (by rw [pairsOf_size]; exact h64) (by rw [pairsOf_size]; exact h128) fun st' a1 a2 a3 => ⟨a1, a2, a3⟩) ?_ fun _ _ e => e)
  rintro ⟨⟨⟩, st'⟩ s' ⟨rfl, hp, hf, hs⟩
  try dsimp only
  refine wpAny_bind (seqEpoch_at ho6 rfl ?_)
  refine wpAny_bind (listUpdate_at ho6 rfl ?_ (hsz2 := by refine Nat.le_trans (Nat.le_of_eq ((Array.size_map ..).trans (hp.size_eq.trans (pairsOf_size _)))) ?_; rw [sizeLine_eq]; omega))
  rw [hf]
  simp only [bne_self_eq_false, Bool.false_eq_true, if_false]
  exact wpAny_pure (h st' hp hs)

theorem big_sorted {κ : KeyKind} (hO : κ.OneLt) {l : Addr} {vs : List Value} {Q : Value → Shared → Prop} (hl : s.heap.IsList l vs.toArray) (h0 : KeysOf κ (pairsOf vs))
    (hkk : ∀ v₁ v₂ rest, vs = v₁ :: v₂ :: rest → keyKind' (v₁ :: v₂ :: rest).toArray = pure oneType') (h64 : 64 ≤ vs.length) (h128 : vs.length < 128)
    (h : ∀ st' : SortSt, (arrOf st').Perm (pairsOf vs) → SortedToK κ (arrOf st') (pairsOf vs).size → Q (.ref (s.heap.objs.size + 1)) { s with heap := sortedAll s.heap vs ((arrOf st').map (·.2)) }) :
    wpAny (model prog w) A (call (.builtin "sorted") [.ref l]) Q E s := by
  refine Calls.call_function_entry kind_sorted plain_sorted entry_sorted (args_sorted1 _) ?_
  unfold Builtin.«sorted»
  refine wpAny_bind (m := checkCount "sorted" 1 1 _) (wpAny_pure ?_)
  refine wpAny_bind (collect_list hl ?_)
  refine wpAny_bind (wpAny_newList ?_)
  have hsz : ((s.heap.push (seqObj "list" #[] 0)).update s.heap.objs.size (Obj.mapSeq (· ++ vs.toArray))).objs.size = s.heap.objs.size + 1 := by
    rw [Heap.size_update, size_push']
  have hoL : (((s.heap.push (seqObj "list" #[] 0)).update s.heap.objs.size (Obj.mapSeq (· ++ vs.toArray))).push (seqObj "list" vs.toArray 0)).get? (s.heap.objs.size + 1) = some (seqObj "list" vs.toArray 0) := by
    rw [← hsz]; exact Heap.get?_push_size _ rfl
  show wpAny _ _ _ _ _ { s with heap := ((s.heap.push (seqObj "list" #[] 0)).update s.heap.objs.size (Obj.mapSeq (· ++ vs.toArray))).push (seqObj "list" vs.toArray 0) }
  rw [hsz]
  refine wpAny_bind (wpAny_holding (wpAny_call_entry slot_list_sort ⟨_, hoL, rfl⟩ entry_list_sort (big_tree hO hoL h0 hkk h64 h128 fun st' a1 a2 => ⟨_, rfl, ?_⟩) (args_list_sort _)))
  exact wpAny_pure ⟨_, rfl, h st' a1 a2⟩

/-- sorted over a made list of up to 127 texts -/
theorem sorted_texts {h₀ : Heap} {L : Addr} {m : Str → Option Value} {news : List (Addr × Obj)} {l : Addr} {vs : List Value} {k : Nat} {ss : List Str} {Q : Value → Shared → Prop}
    (F : Fr h₀ L s.heap m) (N : News h₀ L s.heap news) (hl : (l, listOf vs.toArray k) ∈ news) (hS : StrsAre vs ss) (h128 : ss.length < 128)
    (h : ∀ (D : Addr) (h' : Heap) (vs' : List Value) (ss' : List Str) (e : Nat), Fr h₀ L h' m → News h₀ L h' ((D, listOf vs'.toArray e) :: news) →
      StrsAre vs' ss' → ss'.Perm ss → sortedS ss' = true → Q (.ref D) { s with heap := h' }) :
    wpAny (model prog w) A (call (.builtin "sorted") [.ref l]) Q E s := by
  have hls : s.heap.IsList l vs.toArray := ⟨_, (N _ hl).1, rfl, k, rfl⟩
  have hlen := hS.length
  by_cases h64 : vs.length < 64
  · exact sorted_N_str F N hls hS h64 fun h' vs' ss' e F' N' a1 a2 a3 => h _ h' vs' ss' e F' N' a1 a2 a3
  · refine big_sorted strKind_oneLt hls hS.keysOf (fun v₁ v₂ rest e => keyKind_strs (by rw [← e]; exact hS)) (by omega) (by omega) fun st' hp hs => ?_
    obtain ⟨ss', a1, a2, a3⟩ := sorted_out_str hS hp hs
    obtain ⟨e, he⟩ := sortedAll_at s.heap vs ((arrOf st').map (·.2))
    have a1' : StrsAre ((arrOf st').map (·.2)).toList ss' := a1
    exact h _ _ _ ss' e (F.kept fun _ _ => sortedAll_old) (N.kept_cons F (fun _ _ => sortedAll_old) (Nat.le_succ _) he) a1' a2 a3
end
end Mine

end
section
open PySem PySem.W PyProof.Rows PySem.Spec PySem.Calls PyProof.Rows.LCg
set_option Elab.async false
namespace Mine
section
variable {prog : Program} {w : World} {A : Around} {E : Value → Shared → Prop} {s : Shared} {env : Env}

/-- `len` is the builtin one in this environment, at this heap -/
structure LenAt (env : Env) (lenN : Str) (h : Heap) : Prop where
  at' : ∃ mg mb, h.Ns env.globals mg ∧ mg lenN = none ∧ h.Ns env.builtins mb ∧ mb lenN = some (.builtin "len")
theorem LenAt.keeps {lenN : Str} {h h' : Heap} (x : LenAt env lenN h) (hk : ∀ b o, h.get? b = some o → h'.get? b = some o) : LenAt env lenN h' :=
  let ⟨mg, mb, a, b, c, d⟩ := x.at'; ⟨mg, mb, a.keeps hk, b, c.keeps hk, d⟩
theorem LenAt.eval {lenN : Str} {env' : Env} {pos : Pos} {Q : Value → Shared → Prop} (x : LenAt env lenN s.heap) (hg : env'.globals = env.globals) (hb : env'.builtins = env.builtins)
    (hk : env'.scope.kind = .function) (hx : env'.kindOf lenN = some .globalImplicit) (hd : (lenN == ("__debug__" : Str)) = false) (h : Q (.builtin "len") s) : wpAny (model prog w) A (eval (.Name lenN pos) env') Q E s := by
  obtain ⟨mg, mb, a, b, c, d⟩ := x.at'
  exact Calls.Name_function_global hk hx (Calls.loadGlobal_builtin (env := env') (by rw [hg]; exact a) b (by rw [hb]; exact c) d h) hd

abbrev testE (lenN tN nN : Str) (q4 q5 q6 q7 q8 : Pos) : Expr := .Compare (.Call (.Name lenN q4) [.Name tN q5] [] q6) [.Eq] [.Name nN q7] q8
def pLen (n : Int) (v : Value) : Bool := match v with | .str x _ => ((x.length : Int) == n) | _ => false
theorem filter_count {n : Int} : ∀ {vs : List Value} {xs : List Str}, StrsAre vs xs → (vs.filter (pLen n)).length = (xs.filter fun x => ((x.length : Int) == n)).length
  | _, _, .nil => rfl
  | _, _, .cons x t h => by
    have ih := filter_count (n := n) h
    rw [List.filter_cons, List.filter_cons]
    show (if ((x.length : Int) == n) = true then _ else _ : List Value).length = _
    split
    · rw [List.length_cons, List.length_cons, ih]
    · exact ih

theorem inner_eval {tN lenN nN gN : Str} {q1 q2 q3 q4 q5 q6 q7 q8 q9 : Pos} {isc : Scope} {icl : List (Str × Addr)} {cg cn ax : Addr} {vs : List Value} {xs : List Str} {n : Int} {tn : Tok} {Q : Value → Shared → Prop}
    (hh : A.handled = none) (hek : env.scope.kind = .function)
    (hg : env.kindOf gN = some .cell) (hgc : env.cells.lookup gN = some cg) (hgv : s.heap.IsCell cg (some (.ref ax))) (hl : s.heap.IsList ax vs.toArray) (hV : StrsAre vs xs)
    (hlen : LenAt env lenN s.heap) (hclos : closureFor isc env = pure icl) (hn : icl.lookup nN = some cn) (hnv : s.heap.IsCell cn (some (.int n tn)))
    (hcell : ∀ y ∈ isc.names, y.2 ≠ .cell) (hkind : isc.kind = .function) (hnames : ∀ y ∈ isc.names, y.2 = .local → isc.names.lookup y.1 = some .local) (hx : isc.names.lookup tN = some .local)
    (hnk : ∀ C, (compEnvC isc icl C env).kindOf nN = some .cell) (hlk : ∀ C, (compEnvC isc icl C env).kindOf lenN = some .globalImplicit)
    (hd1 : (tN == ("__debug__" : Str)) = false) (hd2 : (gN == ("__debug__" : Str)) = false) (hd3 : (lenN == ("__debug__" : Str)) = false) (hd4 : (nN == ("__debug__" : Str)) = false)
    (hxs : ∀ x ∈ xs, x.length ≤ 1000) (hsz : xs.length ≤ 1000)
    (h : ∀ D h' tk (ys : Array Value), s.heap.get? D = none → (∀ b o, s.heap.get? b = some o → h'.get? b = some o) → h'.IsList D ys → ys.size = (xs.filter fun x => ((x.length : Int) == n)).length → Q (.ref D) { s with heap := h', toks := tk })
    (hs : ∀ x, foldedSetIterable (.Name gN q3) env x = pure x) :
    wpAny (model prog w) A (eval (.ListComp (.Name tN q1) [⟨.Name tN q2, .Name gN q3, [testE lenN tN nN q4 q5 q6 q7 q8], 0⟩] isc q9) env) Q E s := by
  refine wpAny_ListComp_free (pLen n) (fun v y => y = v) hclos hcell hkind hnames hx ?_ hs
  refine wpAny_Name (wpAny_loadName_cell hek hg hgc hgv ?_) hd2
  refine wpAny_pyIter_list hl ?_
  have hlt : ax < s.heap.objs.size := by obtain ⟨_, e, _⟩ := hl; exact Heap.lt_size e
  have up : ∀ b o, s.heap.get? b = some o → (s.heap.push { cls := .type "list_iterator", data := .fields #[.ref ax, .int 0 0] }).get? b = some o := fun b o e => Heap.get?_push_of_some _ e
  have hvl := hV.length
  refine ⟨s.heap.objs.size, [s.heap.objs.size, ax], [s.heap.objs.size], vs.toArray.size, _, _, rfl, Walks.list hh _ ax (Nat.ne_of_lt hlt) vs.toArray, ?_, ⟨⟨_, Heap.get?_push_size _ rfl, rfl, rfl⟩, hl.push _⟩, ?_, ?_, ?_⟩
  · rw [List.size_toArray, hvl, sizeLine_eq]; omega
  · intro b hb
    rw [Heap.size_push]
    rcases List.mem_cons.mp hb with rfl | hb
    · exact Nat.lt_succ_self _
    · rw [List.mem_singleton.mp hb]; exact Nat.lt_succ_of_lt hlt
  · have old : ∀ {s₃ : Shared}, (∀ b o, b ∉ [s.heap.objs.size] → (s.heap.push { cls := .type "list_iterator", data := .fields #[.ref ax, .int 0 0] }).get? b = some o → s₃.heap.get? b = some o) → ∀ b o, s.heap.get? b = some o → s₃.heap.get? b = some o := fun hk b o e =>
      hk b o (fun q => by have := Heap.lt_size e; rw [List.mem_singleton.mp q] at this; exact Nat.lt_irrefl _ this) (up b o e)
    refine ⟨fun C i v s₃ m₃ E' hC hP hns hm hk htk => ?_, fun C i v s₃ m₃ E' hC hP hpv hns hm hk htk => ?_⟩
    · have hvi : vs[i]? = some v := by simpa using hP
      obtain ⟨x, tx, rfl, hxi⟩ := hV.item i v hvi
      have hxl := hxs x (List.mem_of_getElem? hxi)
      refine wpAny_tests_one (wpAny_isTrue_Compare1 ?_)
      refine wpAny_Call_Name_kw ?_
      refine (hlen.keeps (old hk)).eval rfl rfl (by simp [compEnvC, relabel, hkind]) (hlk C) hd3 ?_
      refine PyProof.Rows.callWith_builtin1 ?_
      refine spliced_cons ?_
      refine wpAny_Name (wpAny_loadName_local (v := .str x tx) (by simp [compEnvC, relabel, hkind]) (lookup_relabel_local hx) hns hm ?_) hd1
      refine spliced_nil ?_
      refine SBL.len (by omega) ?_
      refine wpAny_Name (wpAny_loadName_cell (by simp [compEnvC, relabel, hkind]) (hnk C) hn (hnv.keeps (old hk)) ?_) hd4
      refine eq_int ?_
      refine wpAny_truthy_bool ?_
      exact ⟨rfl, _, _, rfl, fun b o e => e⟩
    · refine wpAny_Name (wpAny_loadName_local (by simp [compEnvC, relabel, hkind]) (lookup_relabel_local hx) hns hm ?_) hd1
      exact ⟨rfl, _, _, rfl, fun b o e => e⟩
  · intro D h' tk ys vs' hD hl' _ hlen' hP hF hk
    have hvs : vs' = vs := by
      refine List.ext_getElem? fun j => ?_
      by_cases hj : j < vs'.length
      · have e1 : vs'[j]? = some vs'[j] := List.getElem?_eq_getElem hj
        have e2 : vs.toArray[j]? = some vs'[j] := hP j _ e1
        rw [e1]; simpa using e2.symm
      · have hj2 : vs.length ≤ j := by rw [hlen'] at hj; simpa using hj
        rw [List.getElem?_eq_none (by omega), List.getElem?_eq_none hj2]
    have hys := hF.length
    rw [hvs, filter_count hV, Array.length_toList] at hys
    refine h D h' tk ys ?_ (fun b o e => hk b o (fun q => by have := Heap.lt_size e; rw [List.mem_singleton.mp q] at this; exact Nat.lt_irrefl _ this) (up b o e)) hl' hys.symm
    cases e : s.heap.get? D with
    | none => rfl
    | some o => have := up D o e; rw [hD] at this; cases this
end
end Mine

end
section
open PySem PySem.W PyProof.Rows PySem.Spec PySem.Calls PyProof.Rows.LCg
set_option Elab.async false
set_option maxHeartbeats 1000000
namespace Mine
section
variable {M : Model} {prog : Program} {w : World} {A : Around} {E : Value → Shared → Prop} {s : Shared} {env : Env}

/-- the block's own place when its scope has one cell -/
theorem new_env_cell {scope : Scope} {globals : Addr} {cl : List (Str × Addr)} {qual x0 nN x2 x3 : Str} {Q : Env → Shared → Prop}
    (hsc : scope.names = [(x0, .local), (nN, .cell), (x2, .globalImplicit), (x3, .free)])
    (h : Q { scope, locals := s.heap.objs.size, globals, cells := (nN, s.heap.objs.size + 1) :: cl, qual, func := none, code := env.code, frame := env.frame, builtins := env.builtins }
      { s with heap := (s.heap.push { cls := .type "dict", data := .dict #[] }).push { cls := .type "cell", data := .cell none } }) :
    wpAny M A (newFunctionEnv scope globals cl [] qual none .none (some env)) Q E s := by
  simp only [newFunctionEnv, Option.isSome_some, if_true]
  refine wpAny_bind (wpAny_alloc ?_)
  rw [hsc]
  simp only [List.forIn_cons, List.forIn_nil, pure_bind, bind_assoc, show (NameKind.local == NameKind.cell) = false from rfl, show (NameKind.cell == NameKind.cell) = true from rfl,
    show (NameKind.globalImplicit == NameKind.cell) = false from rfl, show (NameKind.free == NameKind.cell) = false from rfl, Bool.false_eq_true, if_false, if_true]
  refine wpAny_bind (wpAny_alloc ?_)
  have e : (s.heap.push { cls := .type "dict", data := .dict #[] }).objs.size = s.heap.objs.size + 1 := Heap.size_push _ _
  try dsimp only
  rw [e]
  exact wpAny_pure h

theorem ints_snoc {n : Int} {t : Tok} : ∀ {vs : List Value} {ns : List Int}, IntsAre vs ns → IntsAre (vs ++ [.int n t]) (ns ++ [n])
  | _, _, .nil => .cons n t .nil
  | _, _, .cons m u r => .cons m u (ints_snoc r)
theorem ints_len : ∀ {vs : List Value} {ns : List Int}, IntsAre vs ns → vs.length = ns.length
  | _, _, .nil => rfl
  | _, _, .cons _ _ r => by rw [List.length_cons, List.length_cons, ints_len r]

/-- how many of the texts have n characters -/
def cnt (xs : List Str) (n : Nat) : Int := ((xs.filter fun x => ((x.length : Int) == 1 + (n : Int))).length : Int)
def cnts (xs : List Str) : Nat → List Int
  | 0 => []
  | i + 1 => cnts xs i ++ [cnt xs i]
theorem cnts_len (xs : List Str) : ∀ i, (cnts xs i).length = i
  | 0 => rfl
  | i + 1 => by show (cnts xs i ++ [cnt xs i]).length = _; rw [List.length_append, cnts_len xs i]; rfl

abbrev innerE (lenN tN nN gN : Str) (q1 q2 q3 q4 q5 q6 q7 q8 q9 : Pos) (isc : Scope) : Expr := .ListComp (.Name tN q1) [⟨.Name tN q2, .Name gN q3, [testE lenN tN nN q4 q5 q6 q7 q8], 0⟩] isc q9
abbrev outerE (inner : Expr) (lenN nN : Str) (r1 r2 r3 r4 : Pos) (iter : Expr) (osc : Scope) : Expr := .ListComp (.Call (.Name lenN r1) [inner] [] r2) [⟨.Name nN r3, iter, [], 0⟩] osc r4

/-- what is asked once the range is made -/
def SizesOn (prog : Program) (w : World) (A : Around) (E : Value → Shared → Prop) (env : Env) (e : Expr) (osc : Scope) (cl : List (Str × Addr)) (y : Str) (py : Pos) (Q : Flow → Shared → Prop) (x : Value) (s₁ : Shared) : Prop :=
  wpAny (model prog w) A (pyIter x) (fun it s₂ => wpAny (model prog w) A (newList []) (fun acc s₃ =>
    wpAny (model prog w) A (newFunctionEnv osc env.globals cl [] env.qual none .none (some env)) (fun cenv s₄ =>
      codeAny (model prog w) A (.compStart e 0 it acc { cenv with scope := relabel osc env }) (compPost (model prog w) A E (some (assign (.Name y py) env)) (fun _ s' => Q .next s') acc cenv.locals) s₄) E s₃) E s₂) E s₁

theorem Assign_sizes {y : Str} {py spos : Pos} {iter inner : Expr} {lenN nN : Str} {r1 r2 r3 r4 : Pos} {osc : Scope} {cl : List (Str × Addr)} {Q : Flow → Shared → Prop}
    (hsw : swapsWith (outerE inner lenN nN r1 r2 r3 r4 iter osc) (some (.Name y py)) spos.line env = pure true)
    (hclos : closureFor osc env = pure cl) (hkind : osc.kind = .function) (hnames : ∀ z ∈ osc.names, z.2 = .local → osc.names.lookup z.1 = some .local)
    (hs : ∀ x, foldedSetIterable iter env x = pure x)
    (h : wpAny (model prog w) A (eval iter env) (fun x s₁ => SizesOn prog w A E env (outerE inner lenN nN r1 r2 r3 r4 iter osc) osc cl y py Q x s₁) E s) :
    wpAny (model prog w) A (exec (.Assign [.Name y py] (outerE inner lenN nN r1 r2 r3 r4 iter osc) spos) env) Q E s := by
  rw [exec_Assign_Name_used _ _ _ _ hsw]
  refine wpAny_bind (wpAny_standAt (wpAny_bind ?_))
  show wpAny _ A (do let _ ← comprehension (outerE inner lenN nN r1 r2 r3 r4 iter osc) osc env _ (newList []) false (eval iter env) (some (assign (.Name y py) env))) _ _ s
  exact wpAny_bind (wpAny_mono (wpAny_comprehension_free (use := some (assign (.Name y py) env)) (Q := fun _ s' => Q .next s') rfl hs hclos hkind hnames h) (fun _ s' hq => wpAny_pure (wpAny_pure hq)) fun _ _ e => e)

theorem sizes_on {tN lenN nN gN y x0 : Str} {q1 q2 q3 q4 q5 q6 q7 q8 q9 r1 r2 r3 r4 py : Pos} {isc osc : Scope} {cl : List (Str × Addr)} {icl : Addr → List (Str × Addr)} {iter : Expr} {cg ax R n1 : Nat} {oc : Obj} {vs : List Value} {xs : List Str} {t u v : Tok}
    {h₀ : Heap} {m : Str → Option Value} {news : List (Addr × Obj)} {Q : Flow → Shared → Prop}
    (F : Fr h₀ env.locals s.heap m) (N : News h₀ env.locals s.heap news) (hr : IsRange s.heap R 1 5 1 t u v) (hh : A.handled = none)
    (hax : (ax, listOf vs.toArray n1) ∈ news) (hcg : (cg, oc) ∈ news) (hoc : oc.data = .cell (some (.ref ax))) (hV : StrsAre vs xs)
    (hxs : ∀ x ∈ xs, x.length ≤ 1000) (hsz : xs.length ≤ 1000)
    (hlen : LenAt env lenN h₀)
    (hsc : osc.names = [(x0, .local), (nN, .cell), (lenN, .globalImplicit), (gN, .free)]) (hkind : osc.kind = .function)
    (hoN : ∀ C cl, (compEnvC osc cl C env).kindOf nN = some .cell) (hoG : ∀ C cl, (compEnvC osc cl C env).kindOf gN = some .cell) (hoL : ∀ C cl, (compEnvC osc cl C env).kindOf lenN = some .globalImplicit)
    (hcl : ∀ c, ((nN, c) :: cl).lookup gN = some cg)
    (hiclos : ∀ C c, closureFor isc (compEnvC osc ((nN, c) :: cl) C env) = pure (icl c)) (hicl : ∀ c, (icl c).lookup nN = some c)
    (hicell : ∀ y ∈ isc.names, y.2 ≠ .cell) (hikind : isc.kind = .function) (hinames : ∀ y ∈ isc.names, y.2 = .local → isc.names.lookup y.1 = some .local) (hx : isc.names.lookup tN = some .local)
    (hnk : ∀ C c C', (compEnvC isc (icl c) C' (compEnvC osc ((nN, c) :: cl) C env)).kindOf nN = some .cell) (hlk : ∀ C c C', (compEnvC isc (icl c) C' (compEnvC osc ((nN, c) :: cl) C env)).kindOf lenN = some .globalImplicit)
    (hd1 : (tN == ("__debug__" : Str)) = false) (hd2 : (gN == ("__debug__" : Str)) = false) (hd3 : (lenN == ("__debug__" : Str)) = false) (hd4 : (nN == ("__debug__" : Str)) = false)
    (hs2 : ∀ C c x, foldedSetIterable (.Name gN q3) (compEnvC osc ((nN, c) :: cl) C env) x = pure x)
    (hy : env.kindOf y = some .local) (hp : (env.scope.kind == .class || (env.scope.kind == .module && env.locals != env.globals)) = false)
    (done : ∀ D us h tk, Fr h₀ env.locals h (fun z => if z = y then some (.ref D) else m z) → News h₀ env.locals h ((D, listOf us.toArray us.length) :: news) → (∀ p ∈ news, p.1 < D) → IntsAre us (cnts xs 4) → Q .next { s with heap := h, toks := tk }) :
    SizesOn prog w A E env (outerE (innerE lenN tN nN gN q1 q2 q3 q4 q5 q6 q7 q8 q9 isc) lenN nN r1 r2 r3 r4 iter osc) osc cl y py Q (.ref R) s := by
  unfold SizesOn
  refine wpAny_pyIter_range hr (by decide) ?_
  have hnames : ∀ z ∈ osc.names, z.2 = .local → osc.names.lookup z.1 = some .local := by
    intro z hz hl
    rw [hsc] at hz ⊢
    simp only [List.mem_cons, List.mem_nil_iff, or_false] at hz
    rcases hz with rfl | rfl | rfl | rfl
    · simp [List.lookup_cons]
    · cases hl
    · cases hl
    · cases hl
  have up : ∀ b o, s.heap.get? b = some o → (s.heap.push { cls := .type "range_iterator", data := .fields #[rawInt 1, rawInt (Builtin.Range.rangeSize 1 5 1), rawInt 1] }).get? b = some o := fun b o e => Heap.get?_push_of_some _ e
  have hit0 : IsRangeIter (s.heap.push { cls := .type "range_iterator", data := .fields #[rawInt 1, rawInt (Builtin.Range.rangeSize 1 5 1), rawInt 1] }) s.heap.objs.size 1 4 1 := Heap.get?_push_size _ rfl
  have hsz1 : (s.heap.push { cls := .type "range_iterator", data := .fields #[rawInt 1, rawInt (Builtin.Range.rangeSize 1 5 1), rawInt 1] }).objs.size = s.heap.objs.size + 1 := Heap.size_push _ _
  generalize s.heap.push { cls := .type "range_iterator", data := .fields #[rawInt 1, rawInt (Builtin.Range.rangeSize 1 5 1), rawInt 1] } = H1 at up hit0 hsz1 ⊢
  refine wpAny_newObj_type (new_env_cell hsc ?_)
  try dsimp only
  have hsz2 : (H1.push { cls := .type "list", dict := none, data := .seq ([] : List Value).toArray }).objs.size = s.heap.objs.size + 2 := by rw [Heap.size_push, hsz1]
  have up2 : ∀ b o, H1.get? b = some o → (H1.push { cls := .type "list", dict := none, data := .seq ([] : List Value).toArray }).get? b = some o := fun b o e => Heap.get?_push_of_some _ e
  have hD2 : (H1.push { cls := .type "list", dict := none, data := .seq ([] : List Value).toArray }).get? H1.objs.size = some (lst []) := Heap.get?_push_size _ rfl
  generalize H1.push { cls := .type "list", dict := none, data := .seq ([] : List Value).toArray } = H2 at hsz2 up2 hD2 ⊢
  have hns3 : (H2.push { cls := .type "dict", data := .dict #[] }).Ns H2.objs.size (fun _ => none) := Heap.Ns.new _ _
  have hsz3 : (H2.push { cls := .type "dict", data := .dict #[] }).objs.size = s.heap.objs.size + 3 := by rw [Heap.size_push, hsz2]
  have up3 : ∀ b o, H2.get? b = some o → (H2.push { cls := .type "dict", data := .dict #[] }).get? b = some o := fun b o e => Heap.get?_push_of_some _ e
  generalize H2.push { cls := .type "dict", data := .dict #[] } = H3 at hns3 hsz3 up3 ⊢
  have up4 : ∀ b o, H3.get? b = some o → (H3.push { cls := .type "cell", data := .cell none }).get? b = some o := fun b o e => Heap.get?_push_of_some _ e
  have hcell4 : (H3.push { cls := .type "cell", data := .cell none }).IsCell (H2.objs.size + 1) none := ⟨_, by rw [show H2.objs.size + 1 = H3.objs.size by omega]; exact Heap.get?_push_size _ rfl, rfl⟩
  generalize H3.push { cls := .type "cell", data := .cell none } = H4 at up4 hcell4 ⊢
  have hns4 := hns3.keeps up4
  have hD4 := up4 _ _ (up3 _ _ hD2)
  have hit4 : IsRangeIter H4 s.heap.objs.size 1 4 1 := up4 _ _ (up3 _ _ (up2 _ _ hit0))
  have old : ∀ b o, s.heap.get? b = some o → H4.get? b = some o := fun b o e => up4 _ _ (up3 _ _ (up2 _ _ (up b o e)))
  have hLlt : env.locals < s.heap.objs.size := F.ns.lt
  have fresh₀ : ∀ a, s.heap.objs.size ≤ a → h₀.get? a = none := fun a ha => by
    cases e : h₀.get? a with
    | none => rfl
    | some o' => exact absurd (Heap.lt_size (F.keep a o' e)) (Nat.not_lt.mpr ha)
  have F₁ : Fr h₀ env.locals H4 m := F.keeps old
  have N₁ : News h₀ env.locals H4 news := N.grown old
  have hlow : ∀ p ∈ news, p.1 < s.heap.objs.size := fun p hp => Heap.lt_size (N p hp).1
  rw [hsz1] at hD4
  rw [hsz2] at hns4 hcell4
  rw [hsz1, hsz2]
  generalize hI0 : s.heap.objs.size = I0 at *
  have nI : ∀ p ∈ news, p.1 ≠ I0 := fun p hp => Nat.ne_of_lt (hlow p hp)
  have nD : ∀ p ∈ news, p.1 ≠ I0 + 1 := fun p hp => Nat.ne_of_lt (Nat.lt_succ_of_lt (hlow p hp))
  have nC : ∀ p ∈ news, p.1 ≠ I0 + 2 := fun p hp => Nat.ne_of_lt (Nat.lt_of_lt_of_le (hlow p hp) (Nat.le_add_right I0 2))
  have nN' : ∀ p ∈ news, p.1 ≠ I0 + 3 := fun p hp => Nat.ne_of_lt (Nat.lt_of_lt_of_le (hlow p hp) (Nat.le_add_right I0 3))
  show codeAny (model prog w) A (.compStart (outerE (innerE lenN tN nN gN q1 q2 q3 q4 q5 q6 q7 q8 q9 isc) lenN nN r1 r2 r3 r4 iter osc) 0 (.ref I0) (.ref (I0 + 1)) (compEnvC osc ((nN, I0 + 3) :: cl) (I0 + 2) env)) _ _
  have hCI : I0 + 2 ≠ I0 := by omega
  have hDI : I0 + 1 ≠ I0 := by omega
  have hNI : I0 + 3 ≠ I0 := by omega
  have hDC : I0 + 1 ≠ I0 + 2 := by omega
  have hDN : I0 + 1 ≠ I0 + 3 := by omega
  have hCN : I0 + 2 ≠ I0 + 3 := by omega
  have hLI : env.locals ≠ I0 := Nat.ne_of_lt hLlt
  have hLD : env.locals ≠ I0 + 1 := Nat.ne_of_lt (Nat.lt_of_lt_of_le hLlt (Nat.le_add_right I0 1))
  have hLC : env.locals ≠ I0 + 2 := Nat.ne_of_lt (Nat.lt_of_lt_of_le hLlt (Nat.le_add_right I0 2))
  have hLN : env.locals ≠ I0 + 3 := Nat.ne_of_lt (Nat.lt_of_lt_of_le hLlt (Nat.le_add_right I0 3))
  have fI : h₀.get? I0 = none := fresh₀ _ (Nat.le_refl _)
  have fD : h₀.get? (I0 + 1) = none := fresh₀ _ (Nat.le_add_right _ _)
  have fC : h₀.get? (I0 + 2) = none := fresh₀ _ (Nat.le_add_right _ _)
  have fN : h₀.get? (I0 + 3) = none := fresh₀ _ (Nat.le_add_right _ _)
  have frE : ∀ {h h' : Heap} {a : Addr}, Fr h₀ env.locals h m → Heap.ExtBut a h h' → env.locals ≠ a → h₀.get? a = none → Fr h₀ env.locals h' m := fun F' hx ha hf =>
    ⟨F'.ns.extBut hx ha, fun b o e => hx b o (fun q => by rw [q, hf] at e; cases e) (F'.keep b o e), F'.above⟩
  have nwE : ∀ {h h' : Heap} {a : Addr}, News h₀ env.locals h news → Heap.ExtBut a h h' → (∀ p ∈ news, p.1 ≠ a) → News h₀ env.locals h' news := fun N' hx ha p hp => ⟨hx _ _ (ha p hp) (N' p hp).1, (N' p hp).2⟩
  have loop : ∀ s₃ : Shared, s₃ = { s with heap := H4 } →
      codeAny (model prog w) A (.compLoop (outerE (innerE lenN tN nN gN q1 q2 q3 q4 q5 q6 q7 q8 q9 isc) lenN nN r1 r2 r3 r4 iter osc) 0 (.ref I0) (.ref (I0 + 1)) (compEnvC osc ((nN, I0 + 3) :: cl) (I0 + 2) env))
        (compPost (model prog w) A E (some (assign (.Name y py) env)) (fun _ s' => Q .next s') (.ref (I0 + 1)) (I0 + 2)) s₃ := by
    rintro s₃ rfl
    refine codeAny_compLoop_list (fun k s' => ∃ h' tk i us cv, s' = { s with heap := h', toks := tk } ∧ i ≤ 4 ∧ k = 5 - i ∧ IsRangeIter h' I0 (1 + (i : Int)) (4 - (i : Int)) 1 ∧ h'.Ns (I0 + 2) (fun _ => none) ∧ h'.IsCell (I0 + 3) cv ∧
        h'.get? (I0 + 1) = some (lst us) ∧ IntsAre us (cnts xs i) ∧ Fr h₀ env.locals h' m ∧ News h₀ env.locals h' news) ?_ 5
      ⟨H4, s.toks, 0, [], _, rfl, Nat.zero_le _, rfl, hit4, hns4, hcell4, hD4, .nil, F₁, N₁⟩
    rintro k s' ⟨h', tk, i, us, cv, rfl, hi, rfl, hit, hn', hc', hD', hU, F', N'⟩
    by_cases hlt : i < 4
    · refine wpAny_pyNext_range_item hit (by omega) fun h₂ hit₂ hs₂ => ?_
      have hn₂ := hn'.sameBut hs₂ hCI
      have hc₂ := hc'.sameBut hs₂ hNI
      have hD₂ : h₂.get? (I0 + 1) = some (lst us) := hs₂.extBut _ _ hDI hD'
      have F₂ := frE F' hs₂.extBut hLI fI
      have N₂ := nwE N' hs₂.extBut nI
      refine wpAny_assign_Name (wpAny_storeName_cell (by simp [compEnvC, relabel, hkind]) (hoN _ _) (by simp [compEnvC, List.lookup_cons]) hc₂ fun h₃ hc₃ hs₃ => ?_)
      have hn₃ := hn₂.sameBut hs₃ hCN
      have hD₃ : h₃.get? (I0 + 1) = some (lst us) := hs₃.extBut _ _ hDN hD₂
      have hit₃ : IsRangeIter h₃ I0 (1 + (i : Int) + 1) (4 - (i : Int) - 1) 1 := hs₃.extBut _ _ (Ne.symm hNI) hit₂
      have F₃ := frE F₂ hs₃.extBut hLN fN
      have N₃ := nwE N₂ hs₃.extBut nN'
      have hl₃ : LenAt env lenN h₃ := hlen.keeps F₃.keep
      refine wpAny_Call_Name_kw ?_
      refine hl₃.eval (s := { s with heap := h₃, toks := _ }) rfl rfl (by simp [compEnvC, relabel, hkind]) (hoL _ _) hd3 ?_
      refine PyProof.Rows.callWith_builtin1 ?_
      refine spliced_cons ?_
      refine inner_eval (env := compEnvC osc ((nN, I0 + 3) :: cl) (I0 + 2) env) (s := { s with heap := h₃, toks := _ }) (n := 1 + (i : Int)) hh (by simp [compEnvC, relabel, hkind]) (hoG _ _) (hcl _) ⟨oc, (N₃ _ hcg).1, hoc⟩ ⟨_, (N₃ _ hax).1, rfl, _, rfl⟩ hV
        ⟨hl₃.at'⟩ (hiclos _ _) (hicl _) hc₃ hicell hikind hinames hx (hnk _ _) (hlk _ _) hd1 hd2 hd3 hd4 hxs hsz ?_ (hs2 _ _)
      intro D₄ h₄ tk₄ ys hDn hk₄ hl₄ hys
      refine spliced_nil ?_
      have hcntle : (xs.filter fun x => ((x.length : Int) == 1 + (i : Int))).length ≤ 1000 := Nat.le_trans (List.length_filter_le _ _) hsz
      refine len_list hl₄ (by rw [hys]; omega) ?_
      have hul := ints_len hU
      rw [cnts_len] at hul
      refine append_at (hsz := by show us.toArray.size ≤ sizeLine; rw [List.size_toArray, sizeLine_eq]; omega) (hk₄ _ _ hD₃) fun h₅ hs₅ hD₅ => ?_
      have F₄ : Fr h₀ env.locals h₄ m := F₃.keeps hk₄
      have N₄ : News h₀ env.locals h₄ news := N₃.grown hk₄
      refine ⟨5 - (i + 1), by omega, h₅, _, i + 1, us ++ [.int (ys.size : Int) (tk₄ + 1)], _, rfl, hlt, rfl, ?_, (hn₃.keeps hk₄).sameBut hs₅ (Ne.symm hDC), (hc₃.keeps hk₄).sameBut hs₅ (Ne.symm hDN), ?_, ?_, frE F₄ hs₅.extBut hLD fD, nwE N₄ hs₅.extBut nD⟩
      · have e1 : (1 : Int) + ((i + 1 : Nat) : Int) = 1 + (i : Int) + 1 := by omega
        have e2 : (4 : Int) - ((i + 1 : Nat) : Int) = 4 - (i : Int) - 1 := by omega
        rw [e1, e2]
        exact hs₅.extBut _ _ (Ne.symm hDI) (hk₄ _ _ hit₃)
      · rw [← lst_snoc]; exact hD₅
      · show IntsAre _ (cnts xs i ++ [cnt xs i])
        have e : cnt xs i = (ys.size : Int) := by unfold cnt; rw [hys]
        rw [e]
        exact ints_snoc hU
    · obtain rfl : i = 4 := by omega
      refine wpAny_pyNext_range_end hh hit (by omega) fun h₂ hs₂ => ?_
      have hn₂ := hn'.extBut hs₂ hCI
      have hD₂ : h₂.get? (I0 + 1) = some (lst us) := hs₂ _ _ hDI hD'
      have F₂ := frE F' hs₂ hLI fI
      have N₂ := nwE N' hs₂ nI
      show wpAny _ A (assign (.Name y py) env (.ref (I0 + 1))) _ _ _
      refine wpAny_assign_Name (wpAny_storeName_local hy F₂.ns (fun h₃ hn₃ hs₃ => ?_) hp)
      have hL₀ : h₀.get? env.locals = none := Heap.get?_none_of_le F₂.above
      have F₃ : Fr h₀ env.locals h₃ (fun z => if z = y then some (.ref (I0 + 1)) else m z) := ⟨hn₃, fun b o e => hs₃.extBut b o (fun q => by rw [q, hL₀] at e; cases e) (F₂.keep b o e), F₂.above⟩
      refine ⟨_, hn₂.sameBut hs₃ (Ne.symm hLC), fun h'' hs'' => done (I0 + 1) us h'' _ (F₃.change hs'' (Ne.symm hLC) fC) (fun p hp => ?_) (fun p hp => Nat.lt_of_lt_of_le (hlow p hp) (Nat.le_add_right I0 1)) hU⟩
      rcases List.mem_cons.mp hp with rfl | hp
      · exact ⟨hs''.extBut _ _ hDC (hs₃.extBut _ _ (Ne.symm hLD) hD₂), Ne.symm hLD, fD⟩
      · exact ⟨hs''.extBut _ _ (nC p hp) (hs₃.extBut _ _ (N₂ p hp).2.1 (N₂ p hp).1), (N₂ p hp).2⟩
  have W := Walks.range (prog := prog) (w := w) hh I0 1 1 4
  exact codeAny_compStart_list (loop _ rfl) (W.self 0 _ _ _ hit4 (loop _ rfl))
end
end Mine

end
section
open PySem PySem.W PyProof.Rows PySem.Spec PySem.Calls
set_option Elab.async false
namespace Mine
def W (cs : List Nat) : Nat → List (List Nat)
  | 0 => [[]]
  | n + 1 => (W cs n).flatMap fun w => cs.map fun c => w ++ [c]
def AllW (cs : List Nat) : List (List Nat) := W cs 1 ++ W cs 2 ++ W cs 3 ++ W cs 4
def strictL (cs : List Nat) : List (List Nat) := (AllW cs).filter fun l => (rd [] l).isSome
def writtenL (cs : List Nat) : List (List Nat) := ((AllW cs).filter fun l => decide ((esc l).length ≤ 4)).map esc
abbrev S1 (c : Nat) : Str := S [c]
theorem S_app (u v : List Nat) : S u ++ S v = S (u ++ v) := str_ext (by show (u.toArray ++ v.toArray).toList = (u ++ v).toArray.toList; simp)
theorem S_list (l : List Nat) : (S l).cps.toList = l := by simp [S]
theorem words_W (cs : List Nat) : ∀ n, wordsN (cs.map S1) n = (W cs n).map S
  | 0 => by show [Str.ofString ""] = [S []]; decide +kernel
  | n + 1 => by
    show pairsUp (wordsN (cs.map S1) n) (cs.map S1) = _
    rw [words_W cs n]
    show _ = ((W cs n).flatMap fun w => cs.map fun c => w ++ [c]).map S
    unfold pairsUp
    rw [List.flatMap_map, List.map_flatMap]
    congr 1
    funext w
    rw [List.map_map, List.map_map]
    refine List.map_congr_left fun c _ => ?_
    show S w ++ S [c] = S (w ++ [c])
    exact S_app _ _
theorem all_W (cs : List Nat) : allTexts (cs.map S1) = (AllW cs).map S := by
  unfold allTexts AllW
  simp only [List.nil_append, List.map_append, words_W]
theorem strict_W (cs : List Nat) : (allTexts (cs.map S1)).filterMap gStrict = (strictL cs).map S := by
  rw [all_W, List.filterMap_map]
  unfold strictL
  generalize AllW cs = l
  induction l with
  | nil => rfl
  | cons a r ih =>
    rw [List.filterMap_cons, List.filter_cons]
    have e : (gStrict ∘ S) a = if (rd [] a).isSome = true then some (S a) else none := by
      show gStrict (S a) = _
      unfold gStrict; rw [S_list]
    rw [e]
    by_cases h : (rd [] a).isSome = true
    · rw [if_pos h, if_pos h, List.map_cons, ih]
    · rw [if_neg h, if_neg h]; exact ih
theorem esc_S (l : List Nat) : escS (S l) = S (esc l) := str_ext (by rw [escS_toList, S_list, S_list])
theorem written_W (cs : List Nat) : (allTexts (cs.map S1)).filterMap gWritten = (writtenL cs).map S := by
  rw [all_W, List.filterMap_map]
  unfold writtenL
  generalize AllW cs = l
  induction l with
  | nil => rfl
  | cons a r ih =>
    rw [List.filterMap_cons, List.filter_cons]
    have e : (gWritten ∘ S) a = if (esc a).length ≤ 4 then some (S (esc a)) else none := by
      show gWritten (S a) = _
      unfold gWritten; rw [esc_S, S_len]
    rw [e]
    by_cases h : (esc a).length ≤ 4
    · rw [if_pos h, if_pos (by simpa using h), List.map_cons, List.map_cons, ih]
    · rw [if_neg h, if_neg (by simpa using h)]; exact ih

/-- another name for each sign that is no mark -/
structure Ren (f : Nat → Nat) : Prop where
  q : ∀ c, f c = 34 ↔ c = 34
  b : ∀ c, f c = 92 ↔ c = 92
theorem rd_ren {f : Nat → Nat} (hf : Ren f) : ∀ (n : Nat) (l o o' : List Nat), l.length ≤ n → (rd o' (l.map f)).isSome = (rd o l).isSome
  | _, [], o, o', _ => by rw [List.map_nil, rd_nil, rd_nil]; rfl
  | 0, _ :: _, _, _, hn => by simp at hn
  | n + 1, [c], o, o', hn => by
    rw [List.map_cons, List.map_nil]
    by_cases h1 : c = 34
    · rw [(hf.q c).mpr h1, h1, rd_q, rd_q]
    · by_cases h2 : c = 92
      · rw [(hf.b c).mpr h2, h2, rd_b1, rd_b1]
      · rw [rd_cons _ _ _ h1 h2, rd_cons _ _ _ (fun e => h1 ((hf.q c).mp e)) (fun e => h2 ((hf.b c).mp e)), rd_nil, rd_nil]; rfl
  | n + 1, c :: d :: l, o, o', hn => by
    simp only [List.length_cons] at hn
    rw [List.map_cons]
    by_cases h1 : c = 34
    · rw [(hf.q c).mpr h1, h1, rd_q, rd_q]
    · by_cases h2 : c = 92
      · rw [(hf.b c).mpr h2, h2, List.map_cons]
        by_cases h3 : d = 34 ∨ d = 92
        · rw [rd_b _ _ _ h3, rd_b _ _ _ (h3.imp (hf.q d).mpr (hf.b d).mpr)]
          exact rd_ren hf n l _ _ (by omega)
        · rw [rd_bn _ _ _ h3, rd_bn _ _ _ (fun e => h3 (e.imp (hf.q d).mp (hf.b d).mp))]
      · rw [rd_cons _ _ _ h1 h2, rd_cons _ _ _ (fun e => h1 ((hf.q c).mp e)) (fun e => h2 ((hf.b c).mp e))]
        exact rd_ren hf n (d :: l) _ _ (by simp only [List.length_cons]; omega)
theorem esc_ren {f : Nat → Nat} (hf : Ren f) (l : List Nat) : esc (l.map f) = (esc l).map f := by
  induction l with
  | nil => rfl
  | cons a r ih =>
    rw [List.map_cons, esc_cons, esc_cons, ih, List.map_append]
    congr 1
    have h92 : f 92 = 92 := (hf.b 92).mpr rfl
    by_cases h : a = 34 ∨ a = 92
    · rw [if_pos h, if_pos (h.imp (hf.q a).mpr (hf.b a).mpr)]; simp [h92]
    · rw [if_neg h, if_neg (fun e => h (e.imp (hf.q a).mp (hf.b a).mp))]; rfl
theorem W_ren (f : Nat → Nat) (cs : List Nat) : ∀ n, W (cs.map f) n = (W cs n).map (List.map f)
  | 0 => rfl
  | n + 1 => by
    unfold W
    rw [W_ren f cs n, List.flatMap_map, List.map_flatMap]
    congr 1
    funext w
    rw [List.map_map, List.map_map]
    refine List.map_congr_left fun c _ => ?_
    simp
theorem AllW_ren (f : Nat → Nat) (cs : List Nat) : AllW (cs.map f) = (AllW cs).map (List.map f) := by
  unfold AllW; simp only [List.map_append, W_ren]
theorem strict_ren {f : Nat → Nat} (hf : Ren f) (cs : List Nat) : strictL (cs.map f) = (strictL cs).map (List.map f) := by
  unfold strictL
  rw [AllW_ren, List.filter_map]
  congr 1
  refine List.filter_congr fun l _ => ?_
  exact rd_ren hf l.length l [] [] (Nat.le_refl _)
theorem written_ren {f : Nat → Nat} (hf : Ren f) (cs : List Nat) : writtenL (cs.map f) = (writtenL cs).map (List.map f) := by
  unfold writtenL
  rw [AllW_ren, List.filter_map, List.map_map, List.map_map]
  have e : (AllW cs).filter ((fun l => decide ((esc l).length ≤ 4)) ∘ List.map f) = (AllW cs).filter fun l => decide ((esc l).length ≤ 4) :=
    List.filter_congr fun l _ => by show decide ((esc (l.map f)).length ≤ 4) = _; rw [esc_ren hf, List.length_map]
  rw [e]
  exact List.map_congr_left fun l _ => esc_ren hf l

def canon : Nat → List Nat
  | 0 => [34, 92]
  | 1 => [34, 92, 0]
  | _ => [34, 92, 0, 1]
def cntL (l : List (List Nat)) (i : Nat) : Nat := (l.filter fun w => w.length == i + 1).length
def ruleL : Nat → List Int
  | 0 => [0, 2, 0, 4]
  | 1 => [1, 3, 5, 11]
  | _ => [2, 6, 16, 44]
theorem canon_counts : ∀ k, [(cntL (strictL (canon k)) 0 : Int), (cntL (strictL (canon k)) 1 : Int), (cntL (strictL (canon k)) 2 : Int), (cntL (strictL (canon k)) 3 : Int)] = ruleL k
  | 0 => by decide +kernel
  | 1 => by decide +kernel
  | _ + 2 => by show [(cntL (strictL [34, 92, 0, 1]) 0 : Int), (cntL (strictL [34, 92, 0, 1]) 1 : Int), (cntL (strictL [34, 92, 0, 1]) 2 : Int), (cntL (strictL [34, 92, 0, 1]) 3 : Int)] = [2, 6, 16, 44]; decide +kernel
theorem canon_perm : ∀ k, (writtenL (canon k)).isPerm (strictL (canon k)) = true
  | 0 => by decide +kernel
  | 1 => by decide +kernel
  | _ + 2 => by show (writtenL [34, 92, 0, 1]).isPerm (strictL [34, 92, 0, 1]) = true; decide +kernel
theorem canon_len : ∀ k, (strictL (canon k)).length < 128
  | 0 => by decide +kernel
  | 1 => by decide +kernel
  | _ + 2 => by show (strictL [34, 92, 0, 1]).length < 128; decide +kernel
end Mine

end
section
open PySem PySem.W PyProof.Rows PySem.Spec PySem.Calls
set_option Elab.async false
namespace Mine
def ren (a b c : Nat) : Nat := if c = 0 then a else if c = 1 then b else c
theorem ren_ok {a b : Nat} (ha : ¬ (a = 34 ∨ a = 92)) (hb : ¬ (b = 34 ∨ b = 92)) : Ren (ren a b) := by
  constructor <;> intro c <;> unfold ren <;> (repeat' split) <;> omega
theorem base_S : [Str.ofString "\"", Str.ofString "\\"] = [34, 92].map S1 := by decide +kernel
theorem sgn_S (x : Int) : sgn x = S1 (sgnC x) := rfl
theorem S1_inj {a b : Nat} (h : S1 a = S1 b) : a = b := by
  have := congrArg (fun s : Str => s.cps.toList) h
  simpa [S] using this
theorem any_S (cs : List Nat) (c : Nat) : (cs.map S1).any (· == S1 c) = cs.contains c := by
  induction cs with
  | nil => rfl
  | cons a r ih =>
    rw [List.map_cons, List.any_cons, ih, List.contains_cons]
    congr 1
    by_cases e : c = a
    · subst e; simp
    · have h1 : (S1 a == S1 c) = false := by
        cases h : (S1 a == S1 c)
        · rfl
        · exact absurd (S1_inj (eq_of_beq h)).symm e
      rw [h1]; simp [e]
theorem add_S (cs : List Nat) (x : Int) : addS sgn (cs.map S1) x = (if cs.contains (sgnC x) = true then cs else cs ++ [sgnC x]).map S1 := by
  unfold addS
  rw [sgn_S, any_S]
  by_cases h : cs.contains (sgnC x) = true
  · rw [if_pos h, if_pos h]
  · rw [if_neg h, if_neg h, List.map_append]; rfl
theorem sgnC_lt (x : Int) : sgnC x < 1114112 := by
  unfold sgnC
  split
  · have h : ∀ (l : List Nat), (∀ c ∈ l, c < 1114112) → ∀ i, l.getD i 0 < 1114112 := by
      intro l hl i
      induction l generalizing i with
      | nil => simp
      | cons a r ih =>
        cases i with
        | zero => simpa using hl a (List.mem_cons_self ..)
        | succ i => simpa using ih (fun c hc => hl c (List.mem_cons_of_mem _ hc)) i
    exact h _ (by decide +kernel) _
  · have h1 := Int.fmod_lt_of_pos (x.fdiv 2) (b := 8000) (by decide)
    omega
theorem signs_shape (ns : List Int) : ∃ k f, k ≤ 2 ∧ Ren f ∧ signsOf ns = ((canon k).map f).map S1 ∧ (signsOf ns).length = k + 2 ∧ ∀ c ∈ (canon k).map f, c < 1114112 := by
  obtain ⟨x1, x2, h⟩ : ∃ x1 x2, List.take 2 (ns ++ [1, 3]) = [x1, x2] := by
    match ns with
    | [] => exact ⟨1, 3, rfl⟩
    | [x] => exact ⟨x, 1, rfl⟩
    | x :: y :: r => exact ⟨x, y, rfl⟩
  have e : signsOf ns = addS sgn (addS sgn ([34, 92].map S1) x1) x2 := by unfold signsOf; rw [h, base_S]; rfl
  have free : ∀ {c : Nat} {l : List Nat}, (34 :: 92 :: l).contains c ≠ true → ¬ (c = 34 ∨ c = 92) := fun h1 h2 => h1 (by rcases h2 with rfl | rfl <;> simp)
  have h2 : ¬ ((2 : Nat) = 34 ∨ (2 : Nat) = 92) := by decide
  have lim : ∀ l : List Nat, (∀ c ∈ l, c < 1114112) → ∀ c ∈ 34 :: 92 :: l, c < 1114112 := fun l hl c hc => by
    rcases List.mem_cons.mp hc with rfl | hc
    · decide
    · rcases List.mem_cons.mp hc with rfl | hc
      · decide
      · exact hl c hc
  rw [e, add_S]
  by_cases c1 : [34, 92].contains (sgnC x1) = true
  · rw [if_pos c1, add_S]
    by_cases c2 : [34, 92].contains (sgnC x2) = true
    · rw [if_pos c2]
      exact ⟨0, ren 2 2, by omega, ren_ok h2 h2, rfl, rfl, lim [] (by simp)⟩
    · rw [if_neg c2]
      exact ⟨1, ren (sgnC x2) 2, by omega, ren_ok (free c2) h2, rfl, rfl, lim [sgnC x2] (by simp [sgnC_lt])⟩
  · rw [if_neg c1, add_S]
    by_cases c2 : ([34, 92] ++ [sgnC x1]).contains (sgnC x2) = true
    · rw [if_pos c2]
      exact ⟨1, ren (sgnC x1) 2, by omega, ren_ok (free c1) h2, rfl, rfl, lim [sgnC x1] (by simp [sgnC_lt])⟩
    · rw [if_neg c2]
      exact ⟨2, ren (sgnC x1) (sgnC x2), by omega, ren_ok (free c1) (free (l := [sgnC x1]) c2), rfl, rfl, lim [sgnC x1, sgnC x2] (by simp [sgnC_lt])⟩

theorem cnt_S (l : List (List Nat)) (i : Nat) : cnt (l.map S) i = (cntL l i : Int) := by
  unfold cnt cntL
  rw [List.filter_map, List.length_map]
  congr 2
  refine List.filter_congr fun w _ => ?_
  show (((S w).length : Int) == 1 + (i : Int)) = (w.length == i + 1)
  rw [S_len]
  by_cases h : w.length = i + 1
  · rw [h]; simp; omega
  · have h1 : ¬ ((w.length : Int) = 1 + (i : Int)) := by omega
    rw [beq_eq_false_iff_ne.mpr h1, beq_eq_false_iff_ne.mpr h]
theorem cntL_ren (f : Nat → Nat) (l : List (List Nat)) (i : Nat) : cntL (l.map (List.map f)) i = cntL l i := by
  unfold cntL
  rw [List.filter_map, List.length_map]
  congr 1
  exact List.filter_congr fun w _ => by show ((w.map f).length == i + 1) = _; rw [List.length_map]

theorem W_mem {cs : List Nat} : ∀ n, ∀ l ∈ W cs n, ∀ c ∈ l, c ∈ cs
  | 0, l, hl, c, hc => by rw [List.mem_singleton.mp hl] at hc; exact absurd hc (by simp)
  | n + 1, l, hl, c, hc => by
    obtain ⟨u, hu, hl⟩ := List.mem_flatMap.mp hl
    obtain ⟨d, hd, rfl⟩ := List.mem_map.mp hl
    rcases List.mem_append.mp hc with hc | hc
    · exact W_mem n u hu c hc
    · rw [List.mem_singleton.mp hc]; exact hd
theorem strict_mem {cs : List Nat} {l : List Nat} (h : l ∈ strictL cs) : ∀ c ∈ l, c ∈ cs := by
  have h1 := (List.mem_filter.mp h).1
  unfold AllW at h1
  rcases List.mem_append.mp h1 with h1 | h1
  · rcases List.mem_append.mp h1 with h1 | h1
    · rcases List.mem_append.mp h1 with h1 | h1
      · exact W_mem _ _ h1
      · exact W_mem _ _ h1
    · exact W_mem _ _ h1
  · exact W_mem _ _ h1
theorem law_facts (ns : List Int) : ∃ k, k ≤ 2 ∧ (signsOf ns).length = k + 2 ∧ cnts ((allTexts (signsOf ns)).filterMap gStrict) 4 = ruleL k ∧
    ((allTexts (signsOf ns)).filterMap gWritten).Perm ((allTexts (signsOf ns)).filterMap gStrict) ∧ ((allTexts (signsOf ns)).filterMap gStrict).length < 128 ∧ ∀ x ∈ (allTexts (signsOf ns)).filterMap gStrict, PyData.strOk x = true := by
  obtain ⟨k, f, hk, hf, e, hl, hc⟩ := signs_shape ns
  refine ⟨k, hk, hl, ?_, ?_, ?_, ?_⟩
  · rw [e, strict_W, strict_ren hf]
    show [cnt _ 0, cnt _ 1, cnt _ 2, cnt _ 3] = _
    rw [cnt_S, cnt_S, cnt_S, cnt_S, cntL_ren, cntL_ren, cntL_ren, cntL_ren]
    exact canon_counts k
  · rw [e, strict_W, written_W, strict_ren hf, written_ren hf]
    exact ((List.isPerm_iff.mp (canon_perm k)).map _).map _
  · rw [e, strict_W, strict_ren hf, List.length_map, List.length_map]
    exact canon_len k
  · rw [e, strict_W]
    intro x hx
    obtain ⟨l, hl, rfl⟩ := List.mem_map.mp hx
    unfold PyData.strOk
    rw [Array.all_eq_true_iff_forall_mem]
    intro c hc'
    have := hc c (strict_mem hl c (by simpa [S] using hc'))
    simpa using this

theorem sorted_pw : ∀ (p : Str) (l : List Str), risingS p l = true → (p :: l).Pairwise fun a b => a.cps.toList ≤ b.cps.toList
  | p, [], _ => by simp
  | p, x :: r, h => by
    have h' : (!ltCps x.cps.toList p.cps.toList && risingS x r) = true := h
    rw [Bool.and_eq_true] at h'
    have h1 : p.cps.toList ≤ x.cps.toList := by
      have := h'.1
      rw [ltCps_eq] at this
      simpa using this
    have ih := sorted_pw x r h'.2
    refine List.pairwise_cons.mpr ⟨fun y hy => ?_, ih⟩
    rcases List.mem_cons.mp hy with rfl | hy
    · exact h1
    · exact List.le_trans h1 (List.rel_of_pairwise_cons ih hy)
theorem sorted_pairwise : ∀ {l : List Str}, sortedS l = true → l.Pairwise fun a b => a.cps.toList ≤ b.cps.toList
  | [], _ => List.Pairwise.nil
  | x :: r, h => sorted_pw x r h
theorem pw_unique : ∀ {l₁ l₂ : List Str}, (l₁.Pairwise fun a b => a.cps.toList ≤ b.cps.toList) → (l₂.Pairwise fun a b => a.cps.toList ≤ b.cps.toList) → l₁.Perm l₂ → l₁ = l₂
  | [], l₂, _, _, h => (List.nil_perm.mp h).symm
  | a :: r, [], _, _, h => by have := h.length_eq; simp at this
  | a :: r, b :: r₂, h1, h2, h => by
    have hab : a = b := by
      by_cases e : a = b
      · exact e
      · have m1 : b ∈ r := by
          rcases List.mem_cons.mp (h.mem_iff.mpr (List.mem_cons_self ..)) with q | q
          · exact absurd q.symm e
          · exact q
        have m2 : a ∈ r₂ := by
          rcases List.mem_cons.mp (h.mem_iff.mp (List.mem_cons_self ..)) with q | q
          · exact absurd q e
          · exact q
        exact str_ext (List.le_antisymm (List.rel_of_pairwise_cons h1 m1) (List.rel_of_pairwise_cons h2 m2))
    subst hab
    rw [pw_unique (List.pairwise_cons.mp h1).2 (List.pairwise_cons.mp h2).2 ((List.perm_cons a).mp h)]
theorem sorted_unique {l₁ l₂ : List Str} (h1 : sortedS l₁ = true) (h2 : sortedS l₂ = true) (h : l₁.Perm l₂) : l₁ = l₂ := pw_unique (sorted_pairwise h1) (sorted_pairwise h2) h
end Mine

end
section
open PySem PySem.W PyProof.Rows PySem.Spec PySem.Calls
set_option Elab.async false
namespace Mine
theorem lay_strs : ∀ {ss : List Str}, (∀ x ∈ ss, PyData.strOk x = true) → PyData.canLayAll0 (ss.map PyData.str) = true
  | [], _ => rfl
  | x :: r, h => by
    rw [List.map_cons, PyData.canLayAll0, lay_strs fun y hy => h y (List.mem_cons_of_mem _ hy), Bool.and_true]
    show PyData.strOk x = true
    exact h x (List.mem_cons_self ..)
theorem depth_strs : ∀ ss : List Str, PyData.depthAll (ss.map PyData.str) = 0
  | [] => rfl
  | _ :: r => by simp [PyData.depthAll, PyData.depth, depth_strs r]
theorem shaped_strs {ss : List Str} (h : ∀ x ∈ ss, PyData.strOk x = true) : SeqAt.shaped (.list (ss.map PyData.str)) = true := by
  simp [SeqAt.shaped, PyData.canLay0, PyData.depth, lay_strs h, depth_strs]
theorem same_strs : ∀ ss : List Str, PySem.Spec.sameAll (ss.map PyData.str) (ss.map PyData.str) = true
  | [] => by simp [PySem.Spec.sameAll]
  | a :: r => by simp [PySem.Spec.sameAll, PySem.Spec.same, same_strs r]
theorem carried_strs : ∀ {vs : List Value} {ss : List Str}, StrsAre vs ss → CarriedAll vs (ss.map PyData.str)
  | _, _, .nil => .nil
  | _, _, .cons _ t r => .cons (.str _ t) (carried_strs r)
section
variable {prog : Program} {w : World} {A : Around} {E : Value → Shared → Prop} {s : Shared} {env : Env} {h₀ : Heap} {L : Addr} {m : Str → Option Value} {news : List (Addr × Obj)} {Q : Value → Shared → Prop}
theorem eq_texts {a b : Addr} {xs ys : List Value} {k n : Nat} {ss ts : List Str} (N : News h₀ L s.heap news) (ha : (a, listOf xs.toArray k) ∈ news) (hb : (b, listOf ys.toArray n) ∈ news) (hi : StrsAre xs ss) (hj : StrsAre ys ts)
    (hok : ∀ x ∈ ss, PyData.strOk x = true) (e : ss = ts) (hu : A.units + 64 < cLine) (h : Q (.bool true) s) : wpAny (model prog w) A (compareOp .Eq (.ref a) (.ref b)) Q E s := by
  subst e
  refine eq_dataH_same (reads_newData ⟨_, (N _ ha).1, rfl, _, rfl⟩ (carried_strs hi)) (reads_newData ⟨_, (N _ hb).1, rfl, _, rfl⟩ (carried_strs hj)) (shaped_strs hok) (shaped_strs hok) hu (SeqAt.noMix_of_shape (.list .str) rfl _ _ (list_map_has fun _ => rfl) (list_map_has fun _ => rfl)) ?_
  have : PySem.Spec.same (.list (ss.map PyData.str)) (.list (ss.map PyData.str)) = true := by simp only [PySem.Spec.same]; exact same_strs ss
  rw [this]; exact h
theorem eq_counts {a b : Addr} {xs ys : List Value} {k n : Nat} {ns ms : List Int} (N : News h₀ L s.heap news) (ha : (a, listOf xs.toArray k) ∈ news) (hb : (b, listOf ys.toArray n) ∈ news) (hi : IntsAre xs ns) (hj : IntsAre ys ms)
    (e : ns = ms) (hu : A.units + 64 < cLine) (h : Q (.bool true) s) : wpAny (model prog w) A (compareOp .Eq (.ref a) (.ref b)) Q E s :=
  ke_eq_ints (xs := xs) (ys := ys) ⟨_, (N _ ha).1, rfl, _, rfl⟩ ⟨_, (N _ hb).1, rfl, _, rfl⟩ hi hj hu (by rw [e, decide_eq_true rfl]; exact h)
theorem pick_four {v0 v1 v2 v3 v4 : Value} : slicePick [v0, v1, v2, v3, v4].toArray (some 1) none none = [v1, v2, v3, v4].toArray := by
  rw [kmk_pick_nat _ (a := 1) (b := 5) (by rfl)]; rfl
theorem slice_rule {value slice : Expr} {l : Addr} {items : Array Value} {k : Nat} {u t0 t1 t2 t3 t4 : Tok} {a0 a1 a2 a3 a4 : Int} (F : Fr h₀ L s.heap m) (N : News h₀ L s.heap news) (hl : (l, listOf items k) ∈ news)
    (e : items = [.int a0 t0, .int a1 t1, .int a2 t2, .int a3 t3, .int a4 t4].toArray)
    (h : ∀ D ws h', Fr h₀ L h' m → News h₀ L h' ((D, listOf (List.toArray ws) 0) :: news) → (∀ p ∈ news, p.1 < D) → IntsAre ws [a1, a2, a3, a4] → Q (.ref D) { s with heap := h' })
    (hs : subscripted slice false (.ref l) (.ref s.heap.objs.size) = operate [.ref s.heap.objs.size, .ref l] (getItem (.ref l) (.ref s.heap.objs.size))) (ht : ∀ r, letTemporaryGo value (.ref l) r = pure ()) :
    wpAny (model prog w) A (subscriptTail value slice (.ref l) (.ref s.heap.objs.size)) Q E { s with heap := s.heap.push { cls := .type "slice", data := .fields #[.int 1 u, .none, .none] } } := by
  subst e
  refine kmk_slice_ints F N ⟨_, (N _ hl).1, rfl, _, rfl⟩ (IsPart.int _ _) IsPart.none (ns := [a0, a1, a2, a3, a4]) (ms := [a1, a2, a3, a4]) (c := 4) (.cons _ _ (.cons _ _ (.cons _ _ (.cons _ _ (.cons _ _ .nil))))) ?_ rfl (fun D ws h' F' N' l1 hi _ _ => h D ws h' F' N' l1 hi) hs ht ?_
  · rw [pick_four]; exact .cons _ _ (.cons _ _ (.cons _ _ (.cons _ _ .nil)))
  · rw [sizeLine_eq]; show 5 ≤ _; decide
theorem len_at {K : Frag} {p : Program} {loose : List Str} {mean : ExcName → Option Value} {mg mb : Str → Option Value} (X : K.In h₀) (T : Top p loose mean mg mb h₀) (e : nsIn K mainGlobals "len" = some none)
    (hg : env.globals = mainGlobals) (hb : env.builtins = builtinsNs) : LenAt env "len" h₀ :=
  ⟨mg, mb, by rw [hg]; exact T.g, mg_none_of X T.g e, by rw [hb]; exact T.b, (T.builtins _ (by decide)).trans bootS_len⟩
end
theorem strict_len (ns : List Int) : ∀ x ∈ (allTexts (signsOf ns)).filterMap gStrict, x.length ≤ 1000 := by
  intro x hx
  obtain ⟨z, hz, e⟩ := List.mem_filterMap.mp hx
  unfold gStrict at e
  split at e
  · cases e; exact Nat.le_trans (all_texts_len (signs_len1 ns) _ hz).2 (by decide)
  · cases e
theorem strict_count (ns : List Int) : ((allTexts (signsOf ns)).filterMap gStrict).length < 128 := by
  obtain ⟨k, _, _, _, _, h, _⟩ := law_facts ns
  exact h
theorem written_count (ns : List Int) : ((allTexts (signsOf ns)).filterMap gWritten).length < 128 := by
  obtain ⟨k, _, _, _, hp, h, _⟩ := law_facts ns
  rw [hp.length_eq]; exact h
theorem final_eq {ns : List Int} {s5 s6 : List Str} (hp5 : s5.Perm ((allTexts (signsOf ns)).filterMap gWritten)) (hs5 : sortedS s5 = true) (hp6 : s6.Perm ((allTexts (signsOf ns)).filterMap gStrict)) (hs6 : sortedS s6 = true) : s5 = s6 := by
  obtain ⟨k, _, _, _, hp, _, _⟩ := law_facts ns
  exact sorted_unique hs5 hs6 (hp5.trans (hp.trans hp6.symm))
theorem final_ok {ns : List Int} {s5 : List Str} (hp5 : s5.Perm ((allTexts (signsOf ns)).filterMap gWritten)) : ∀ x ∈ s5, PyData.strOk x = true := by
  obtain ⟨k, _, _, _, hp, _, h⟩ := law_facts ns
  exact fun x hx => h x ((hp5.trans hp).mem_iff.mp hx)
theorem counts_of (ns : List Int) {k : Nat} (h : ((signsOf ns).length : Int) = 2 + (k : Int)) : cnts ((allTexts (signsOf ns)).filterMap gStrict) 4 = ruleL k := by
  obtain ⟨j, _, hl, hc, _, _, _⟩ := law_facts ns
  obtain rfl : j = k := by omega
  exact hc
theorem counts0 {ns : List Int} (h : ((signsOf ns).length : Int) = 2) : cnts ((allTexts (signsOf ns)).filterMap gStrict) 4 = [0, 2, 0, 4] := counts_of ns (k := 0) (by omega)
theorem counts1 {ns : List Int} (h : ((signsOf ns).length : Int) = 3) : cnts ((allTexts (signsOf ns)).filterMap gStrict) 4 = [1, 3, 5, 11] := counts_of ns (k := 1) (by omega)
theorem counts2 {ns : List Int} (h : ((signsOf ns).length : Int) = 4) : cnts ((allTexts (signsOf ns)).filterMap gStrict) 4 = [2, 6, 16, 44] := counts_of ns (k := 2) (by omega)
end Mine

end
section
open PySem PySem.W PyProof.Rows PySem.Spec PySem.Calls
set_option Elab.async false
set_option maxRecDepth 100000
set_option maxHeartbeats 8000000
namespace Mine
theorem law_holds : PySem.Challenge.rw_dm5018_01.Holds := Mine.hd (by
  w_strict (
    k_go0
    (all_goals try k_fold)
    k_with_none
    k_with "exec For" => (
      (rename Fr _ _ _ _ => lF');
      (with_unfolding_all refine' For_invVF lF' ?k1 ?k2 ?_); (case k1 => exact rfl); (case k2 => exact rfl))
    k_with "pyIter ref" => k_dflt (first
      | ((rename Fr _ _ _ _ => lF'); (rename News _ _ _ _ => lN');
         (with_unfolding_all refine' loopA sgn ?hh lF' lN' ?hi ?hW ?tn ?dn);
         (case hh => exact rfl); (case hi => assumption); (case hW => exact .cons _ _ (.cons _ _ .nil));
         (case' tn => clear lF' lN'; intro ws2 k2 i2 n2 t2 u2 h2 tk2 own2 hn2 hoff hW2 hl2 F' N'; (try simp only [List.cons_append, List.nil_append] at N'));
         (case' dn => clear lF' lN'; intro ws2 k2 u2 h2 tk2 hW2 F' N'))
      | ((rename Fr _ _ _ _ => lF'); (rename News _ _ _ _ => lN');
         (with_unfolding_all refine' loopB gStrict [Str.ofString "text", Str.ofString "read"] ?hh lF' lN' ?hl hUt ?tnB ?dnB);
         (case hh => exact rfl); (case hl => k_mem);
         (case' tnB => clear lF' lN'; intro ws3 k3 i3 x3 t3 u3 h3 tk3 own3 hn3 hx3 hoff3 hW3 hl3 F' N'; have hx3' := (text_one hx3).2; have hl3' : ws3.length ≤ 340 := Nat.le_trans hl3 (all_texts_count (signs_count _)); (try rename List Int => nsq); have hnm := name_len ((nsq.sum.fmod 4).toNat); (try simp only [List.cons_append, List.nil_append] at N'));
         (case' dnB => clear lF' lN'; (try rename List Int => nsq); intro ws3 k3 u3 h3 tk3 hW3 F' N'))
      | ((rename Fr _ _ _ _ => lF'); (rename News _ _ _ _ => lN');
         (with_unfolding_all refine' loopB gWritten [Str.ofString "text", Str.ofString "told"] ?hh lF' lN' ?hl hUt ?tnC ?dnC);
         (case hh => exact rfl); (case hl => k_mem);
         (case' tnC => clear lF' lN'; intro ws4 k4 i4 x4 t4 u4 h4 tk4 own4 hn4 hx4 hoff4 hW4 hl4 F' N'; have hx4' := (text_one hx4).2; have hl4' : ws4.length ≤ 340 := Nat.le_trans hl4 (all_texts_count (signs_count _)); (try rename List Int => nsq); have hnm := name_len ((nsq.sum.fmod 4).toNat); (try simp only [List.cons_append, List.nil_append] at N'));
         (case' dnC => clear lF' lN'; intro ws4 k4 u4 h4 tk4 hW4 F' N'))
      )
    k_with "call ref" => k_dflt (first
      | ((with_unfolding_all refine' sign_call ?hB ?hF ?hK ?hN ?hT ?hk ?hdp ?hun ?_);
         (case hB => k_asm); (case hF => k_asm); (case hK => k_asm); (case hN => k_asm); (case hT => k_asm); (case hk => exact rfl); (case hdp => ktr_room); (case hun => ktr_units);
         intro t9 h9 tk9 F9 N9)
      | ((with_unfolding_all refine' texts_call ?hsx ?hW ?hyl ?hys ?hB ?hF ?hK ?hN ?hT ?hk ?hdp ?hun ?_);
         (case hN => k_asm); (case hsx => k_mem); (case hW => exact hW2); (case hyl => exact fun y hy => Nat.le_trans (Nat.le_of_eq (signs_len1 _ y hy)) (by decide)); (case hys => exact signs_count _);
         (case hB => k_asm); (case hF => k_asm); (case hK => k_asm); (case hT => k_asm); (case hk => exact rfl); (case hdp => ktr_room); (case hun => ktr_units);
         intro Dt ut nt h9 tk9 F9 N9 l9 hUt; (try k_lt l9))
      | ((with_unfolding_all refine' reader_two ?hB ?hF ?hK ?hN ?hT ?hk (text_one hx3) ?hdp ?hun ?hno ?hyes);
         (case hN => k_asm); (case hB => k_asm); (case hF => k_asm); (case hK => k_asm); (case hT => k_asm); (case hk => exact rfl); (case hdp => ktr_room); (case hun => ktr_units);
         (case' hno => intro hg3 h9 tk9 F9 N9); (case' hyes => intro r9 t9 h9 tk9 hg3 hr9 hl0 hl1 F9 N9))
      | ((with_unfolding_all refine' format_call ?hB ?hF ?hK ?hN ?hT ?hk (name_len _) hl0 (Nat.le_trans hl1 (by decide)) ?hdp ?hun ?_);
         (case hN => k_asm); (case hB => k_asm); (case hF => k_asm); (case hK => k_asm); (case hT => k_asm); (case hk => exact rfl); (case hdp => ktr_room); (case hun => ktr_units);
         intro t9 h9 tk9 F9 N9)
      | ((with_unfolding_all refine' format_call ?hB ?hF ?hK ?hN ?hT ?hk (name_len _) (text_one hx4).1 (Nat.le_trans (text_one hx4).2 (by decide)) ?hdp ?hun ?_);
         (case hN => k_asm); (case hB => k_asm); (case hF => k_asm); (case hK => k_asm); (case hT => k_asm); (case hk => exact rfl); (case hdp => ktr_room); (case hun => ktr_units);
         intro t9 h9 tk9 F9 N9))
    k_with "KvPost" => (dsimp only [KvPost])
    k_with "KvEnd" => k_dflt (first
      | ((rename Fr _ _ _ _ => lF'); (rename News _ _ _ _ => lN');
         (with_unfolding_all refine' kv_end (_, _) lF' lN' ?hn ?ho ?hr (pa_same hn2 hW2 (by assumption)));
         (case hn => (unfold LedA; repeat' (first | exact List.forall_mem_nil _ | refine List.forall_mem_cons.mpr ⟨by k_mem, ?_⟩)));
         (case ho => exact fun p hp => (by repeat (first | exact hp | refine List.Mem.tail _ ?_)));
         (case hr => (intro z hz; have hz' : ¬ z = Str.ofString "x" := (by simpa using hz); simp only [hz', if_false, hz, Bool.false_eq_true])))
      | ((rename Fr _ _ _ _ => lF'); (rename News _ _ _ _ => lN');
         (simp only [List.push_toArray] at lN');
         (with_unfolding_all refine' kv_end (_, _) lF' lN' ?hn ?ho ?hr (pa_new hn2 hW2 (by assumption)));
         (case hn => (unfold LedA; repeat' (first | exact List.forall_mem_nil _ | refine List.forall_mem_cons.mpr ⟨by k_mem, ?_⟩)));
         (case ho => exact fun p hp => (by repeat (first | exact hp | refine List.Mem.tail _ ?_)));
         (case hr => (intro z hz; have hz' : ¬ z = Str.ofString "x" := (by simpa using hz); simp only [hz', if_false, hz, Bool.false_eq_true])))
      | ((rename Fr _ _ _ _ => lF'); (rename News _ _ _ _ => lN');
         (try simp only [List.push_toArray] at lN');
         (with_unfolding_all refine' kv_end (_, _) lF' lN' ?hn ?ho ?hr (pb_none hn3 hW3 hg3));
         (case hn => (unfold LedB; repeat' (first | exact List.forall_mem_nil _ | refine List.forall_mem_cons.mpr ⟨by k_mem, ?_⟩)));
         (case ho => exact fun p hp => (by repeat (first | exact hp | refine List.Mem.tail _ ?_)));
         (case hr => (intro z hz; have hz1 : ¬ z = Str.ofString "text" ∧ ¬ z = Str.ofString "read" := (by simpa using hz); simp only [hz1.1, hz1.2, if_false, hz, Bool.false_eq_true])))
      | ((rename Fr _ _ _ _ => lF'); (rename News _ _ _ _ => lN');
         (try simp only [List.push_toArray] at lN');
         (with_unfolding_all refine' kv_end (_, _) lF' lN' ?hn ?ho ?hr (pb_some hn3 hW3 hg3));
         (case hn => (unfold LedB; repeat' (first | exact List.forall_mem_nil _ | refine List.forall_mem_cons.mpr ⟨by k_mem, ?_⟩)));
         (case ho => exact fun p hp => (by repeat (first | exact hp | refine List.Mem.tail _ ?_)));
         (case hr => (intro z hz; have hz1 : ¬ z = Str.ofString "text" ∧ ¬ z = Str.ofString "read" := (by simpa using hz); simp only [hz1.1, hz1.2, if_false, hz, Bool.false_eq_true])))
      | ((rename Fr _ _ _ _ => lF'); (rename News _ _ _ _ => lN');
         (try simp only [List.push_toArray] at lN');
         (with_unfolding_all refine' kv_end (_, _) lF' lN' ?hn ?ho ?hr (pb_some hn4 hW4 (gw_some (len_tab _) (by assumption))));
         (case hn => (unfold LedB; repeat' (first | exact List.forall_mem_nil _ | refine List.forall_mem_cons.mpr ⟨by k_mem, ?_⟩)));
         (case ho => exact fun p hp => (by repeat (first | exact hp | refine List.Mem.tail _ ?_)));
         (case hr => (intro z hz; have hz1 : ¬ z = Str.ofString "text" ∧ ¬ z = Str.ofString "told" := (by simpa using hz); simp only [hz1.1, hz1.2, if_false, hz, Bool.false_eq_true])))
      | ((rename Fr _ _ _ _ => lF'); (rename News _ _ _ _ => lN');
         (try simp only [List.push_toArray] at lN');
         (with_unfolding_all refine' kv_end (_, _) lF' lN' ?hn ?ho ?hr (pb_none hn4 hW4 (gw_none (len_tab _) (by assumption))));
         (case hn => (unfold LedB; repeat' (first | exact List.forall_mem_nil _ | refine List.forall_mem_cons.mpr ⟨by k_mem, ?_⟩)));
         (case ho => exact fun p hp => (by repeat (first | exact hp | refine List.Mem.tail _ ?_)));
         (case hr => (intro z hz; have hz1 : ¬ z = Str.ofString "text" ∧ ¬ z = Str.ofString "told" := (by simpa using hz); simp only [hz1.1, hz1.2, if_false, hz, Bool.false_eq_true]))))
    k_with "compareOp NotEq str str" => (first
      | refine ne_same (fmt_read hr9) ?_
      | refine ne_same rfl ?_)
    k_with "subscriptTail" => ((rename Fr _ _ _ _ => lF'); (rename News _ _ _ _ => lN'); (with_unfolding_all refine' tail_to ?hj lF' lN' (name_len _) (text_one hx4).2 ?_ ?hs1 ?hs2); (case hj => rw [len_tab]); (case hs1 => with_unfolding_all rfl); (case hs2 => (intro _; with_unfolding_all rfl)); clear lF' lN'; intro h8 t8 k8 F' N')
    k_with "subscriptTail" => ((rename Fr _ _ _ _ => lF'); (rename News _ _ _ _ => lN'); (with_unfolding_all refine' tail_last lF' lN' (name_len _) (text_one hx4).2 ?_ ?hs1 ?hs2); (case hs1 => with_unfolding_all rfl); (case hs2 => (intro _; with_unfolding_all rfl)); clear lF' lN'; intro h8 t8 k8 F' N')
    k_with "subscriptTail" => ((rename Fr _ _ _ _ => lF'); (rename News _ _ _ _ => lN'); (with_unfolding_all refine' tail_mid ?hj lF' lN' (name_len _) (text_one hx4).2 ?_ ?hs1 ?hs2); (case hj => rw [len_tab]); (case hs1 => with_unfolding_all rfl); (case hs2 => (intro _; with_unfolding_all rfl)); clear lF' lN'; intro h8 t8 k8 F' N')
    k_with "call builtin:len" => ((with_reducible show wpAny _ _ (call (Value.builtin "len") [Value.ref _]) _ _ _); rcases signs_case nsq with (hlen | hlen) | hlen <;> ((with_unfolding_all refine' len_strs ?hN ?hl hW2 hlen ?hb ?_); (case hN => k_asm); (case hl => k_mem); (case hb => exact Nat.le_trans (signs_count _) (by decide)); intro _ _))
    k_with "call builtin:len" => ((with_reducible show wpAny _ _ (call (Value.builtin "len") [Value.str (fmtS _ _) _]) _ _ _); refine len_fmt (name_len _) (text_one hx4).2 ?_)
    k_with "exec Assign" => ((with_unfolding_all refine' Assign_sizes ?hsw ?hclos ?hkind ?hnames ?hs ?_); (case hsw => exact rfl); (case hclos => exact rfl); (case hkind => exact rfl); (case hnames => decide); (case hs => exact fun _ => rfl))
    k_with "exec Return some" => k_dflt (
      (refine wpAny_Return_some ?_);
      (repeat (first | ((fail_if_success (with_reducible show wpAny _ _ (subscriptTail _ _ _ _) _ _ _)); (first | walk1 | (dsimp only; walk1)))));
      (rename Fr _ _ _ _ => lF'); (rename News _ _ _ _ => lN'); (with_unfolding_all refine' slice_rule lF' lN' ?hl ?he ?_ ?hs1 ?hs2); (case hl => k_mem); (case he => exact rfl); (case hs1 => with_unfolding_all rfl); (case hs2 => (intro _; with_unfolding_all rfl));
      clear lF' lN'; intro D7 ws7 h7 F' N' l7 hR7; (try k_lt l7);
      (rename News _ _ _ _ => lN'); (with_unfolding_all refine' eq_counts lN' ?ha ?hb hUs hR7 ?he ?hu ?_); (case ha => k_mem); (case hb => k_mem);
      (case he => first | exact (counts0 hlen).trans (by decide +kernel) | exact (counts1 hlen).trans (by decide +kernel) | exact (counts2 hlen).trans (by decide +kernel)); (case hu => ktr_units))
    k_with "SizesOn" => (
      (rename Fr _ _ _ _ => lF'); (rename News _ _ _ _ => lN');
      (with_unfolding_all refine' sizes_on lF' lN' ?hr ?hh ?hax ?hcg ?hoc hW3 ?hxs ?hsz ?hlen ?hsc ?hkind ?hoN ?hoG ?hoL ?hcl ?hiclos ?hicl ?hicell ?hikind ?hinames ?hx ?hnk ?hlk ?hd1 ?hd2 ?hd3 ?hd4 ?hs2 ?hy ?hp ?_);
      (case hr => assumption); (case hh => exact rfl); (case hoc => assumption); (case hcl => exact fun _ => rfl); (case hcg => k_mem); (case hax => k_mem);
      (case hxs => exact strict_len _); (case hsz => exact Nat.le_trans (Nat.le_of_lt (strict_count _)) (by decide));
      (case hlen => exact len_at (by k_asm) (by k_asm) (by k_is) rfl rfl);
      (case hsc => exact rfl); (case hkind => exact rfl); (case hoN => exact fun _ _ => rfl); (case hoG => exact fun _ _ => rfl); (case hoL => exact fun _ _ => rfl);
      (case hiclos => exact fun _ _ => rfl); (case hicl => exact fun _ => rfl); (case hicell => decide); (case hikind => exact rfl); (case hinames => decide); (case hx => exact rfl);
      (case hnk => exact fun _ _ _ => rfl); (case hlk => exact fun _ _ _ => rfl); (case hd1 => decide); (case hd2 => decide); (case hd3 => decide); (case hd4 => decide); (case hs2 => exact fun _ _ _ => rfl); (case hy => exact rfl); (case hp => exact rfl);
      clear lF' lN'; intro Ds us hs tks F' N' l1 hUs; (try k_lt l1))
    k_with "call builtin:sorted" => ((rename Fr _ _ _ _ => lF'); (rename News _ _ _ _ => lN'); (with_unfolding_all refine' sorted_texts lF' lN' ?hl hW4 (written_count _) ?_); (case hl => k_mem); clear lF' lN'; intro D5 h5 vs5 ss5 e5 F' N' hS5 hp5 hs5)
    k_with "call builtin:sorted" => ((rename Fr _ _ _ _ => lF'); (rename News _ _ _ _ => lN'); (with_unfolding_all refine' sorted_texts lF' lN' ?hl hW3 (strict_count _) ?_); (case hl => k_mem); clear lF' lN'; intro D6 h6 vs6 ss6 e6 F' N' hS6 hp6 hs6; (rename News _ _ _ _ => lN'); (with_unfolding_all refine' eq_texts lN' ?ha ?hb hS5 hS6 (final_ok hp5) (final_eq hp5 hs5 hp6 hs6) ?hu ?_); (case ha => k_mem); (case hb => k_mem); (case hu => ktr_units))
    k_with "table" => skip
    k_steps))
end Mine

end
theorem PySem.Challenge.cw_dm5018_01_holds : PySem.Challenge.rw_dm5018_01.Holds := by
  exact Mine.law_holds
