import PyProof.Rows.All
import Wide.All
import OpenK.AllK
import Wide.FinOn
import PySem.Challenge.RW_eu0040_01
set_option Elab.async false
set_option rowWalk.seconds 0
section
open PySem PySem.W PyProof.Rows
namespace Mine
local macro_rules | `(tactic| o_head ($h $k $as $e $ts)) => `(tactic| o_head $h $k $as $e [259, 226])
set_option maxRecDepth 100000 in
set_option maxHeartbeats 8000000 in
open_top hd for PySem.Challenge.rw_eu0040_01
theorem top_off : True := by w_top off; trivial
end Mine
end
section
open PySem PySem.W PySem.Calls PyProof.Rows
set_option maxRecDepth 100000
set_option maxHeartbeats 8000000
namespace Mine
/-- a call of the def at f, from any def's frame, with the ledger kept -/
abbrev Ctr (f : Addr) (vs : List Value) (d u : Nat) (R : Tok → Value) : Prop :=
  ∀ (prog : Program) (w : World) (p : Program) (loose : List Str) (mean : ExcName → Option Value) (mg mb : Str → Option Value) (news : List (Addr × Obj))
    (dp un : Nat) (gd : Option (List Code)) (cn : Str) (cs : Scope) (a : Addr) (ccd : Value) (cl : List (Str × Addr)) (outer : List Env) (A₀ : Around) (base h₀ : Heap) (L : Addr) (m : Str → Option Value) (s : Shared) (Q E : Value → Shared → Prop),
    Below A₀ base outer h₀ → Fr h₀ L s.heap m → (hd.heap_39 w.params).In h₀ → News h₀ L s.heap news → Top p loose mean mg mb h₀ → cs.kind = .function →
    dp + d < recursionLimit → un + u < cLine →
    (∀ (t : Tok) (h' : Heap) (tk' : Nat), Fr h₀ L h' m → News h₀ L h' news → Q (R t) { s with heap := h', toks := tk' }) →
      wpAny (model prog w) (ktrTop dp un gd cn cs L a ccd cl outer) (call (.ref f) vs) Q E s
theorem Ctr.use {f : Addr} {vs : List Value} {d u : Nat} {R : Tok → Value} {prog : Program} {w : World} {p : Program} {loose : List Str} {mean : ExcName → Option Value} {mg mb : Str → Option Value} {news : List (Addr × Obj)}
    {dp un : Nat} {gd : Option (List Code)} {cn : Str} {cs : Scope} {a : Addr} {ccd : Value} {cl : List (Str × Addr)} {outer : List Env} {A₀ : Around} {base h₀ : Heap} {L : Addr} {m : Str → Option Value} {s : Shared} {Q E : Value → Shared → Prop}
    (C : Ctr f vs d u R) (B : Below A₀ base outer h₀) (F : Fr h₀ L s.heap m) (X : (hd.heap_39 w.params).In h₀) (N : News h₀ L s.heap news) (T : Top p loose mean mg mb h₀) (hk : cs.kind = .function)
    (h1 : dp + d < recursionLimit) (h2 : un + u < cLine)
    (hret : ∀ (t : Tok) (h' : Heap) (tk' : Nat), Fr h₀ L h' m → News h₀ L h' news → Q (R t) { s with heap := h', toks := tk' }) :
    wpAny (model prog w) (ktrTop dp un gd cn cs L a ccd cl outer) (call (.ref f) vs) Q E s := C _ _ _ _ _ _ _ _ _ _ _ _ _ _ _ _ _ _ _ _ _ _ _ _ _ B F X N T hk h1 h2 hret
end Mine
end
section
open PySem PySem.W PyProof.Rows
set_option autoImplicit false
namespace Mine

/-! ## texts and lists of code points -/
def S (l : List Nat) : Str := ⟨l.toArray⟩
abbrev cps (x : Str) : List Nat := x.cps.toList
theorem cps_S (l : List Nat) : cps (S l) = l := rfl
theorem S_cps (x : Str) : S (cps x) = x := Str.ext' (by simp [S, cps])
theorem S_inj {a b : List Nat} (h : S a = S b) : a = b := by
  have := congrArg cps h
  exact this
theorem len_S (l : List Nat) : (S l).length = l.length := by simp [S, Str.length]
theorem len_cps (x : Str) : (cps x).length = x.length := by simp [Str.length]
theorem S_append (a b : List Nat) : S a ++ S b = S (a ++ b) := Str.ext' (by simp [S, Str.cps_append])
theorem cps_app (a b : Str) : cps (a ++ b) = cps a ++ cps b := by
  show (a.cps ++ b.cps).toList = _
  simp
theorem S_nil : S [] = Str.ofString "" := by decide +kernel

theorem item_S {x : Str} {i : Int} {c : Nat} (h0 : 0 ≤ i) (hc : (cps x)[i.toNat]? = some c) : Txt.item x i = S [c] := by
  have h : x.cps[i.toNat]? = some c := by rw [← Array.getElem?_toList]; exact hc
  unfold Txt.item Txt.charAt
  rw [StrLaws.at_nonneg h0 h]
  rfl
theorem at_some {x : Str} {i : Int} (h0 : 0 ≤ i) (h1 : i < (x.length : Int)) : ∃ c, (cps x)[i.toNat]? = some c := by
  obtain ⟨n, hn⟩ := StrLaws.some_at h0 h1
  exact ⟨n, by rw [Array.getElem?_toList]; exact hn⟩

theorem foldl_app (f : List Nat) : ∀ (n : Nat) (acc : Array Nat), (List.replicate n f.toArray).foldl (· ++ ·) acc = (acc.toList ++ (List.replicate n f).flatten).toArray := by
  intro n
  induction n with
  | zero => intro acc; simp
  | succ n ih =>
    intro acc
    rw [List.replicate_succ, List.foldl_cons, ih, List.replicate_succ, List.flatten_cons]
    simp
theorem mul_S (c : Nat) {n : Int} (h : 0 ≤ n) : Txt.mul (S [c]) n = S (List.replicate n.toNat c) := by
  unfold Txt.mul
  by_cases h0 : n < 1
  · rw [if_pos h0]
    have : n = 0 := by omega
    subst this
    rfl
  rw [if_neg h0]
  split
  · rename_i h1
    have : n = 1 := by simpa [S, Str.length] using h1
    subst this
    rfl
  · refine Str.ext' ?_
    show (List.replicate n.toNat [c].toArray).foldl (· ++ ·) #[] = _
    rw [foldl_app]
    simp [S]

/-! ## run lengths -/
def dig (n : Nat) : List Nat := (Nat.toDigits 10 n).map Char.toNat
theorem dig_str (n : Nat) : Str.ofString (toString ((n : Nat) : Int)) = S (dig n) := by
  have h := KIN.signs_num n
  rw [← S_cps (Str.ofString (toString ((n : Nat) : Int)))]
  exact congrArg S h
def chunk (n c : Nat) : List Nat := if n > 2 then dig n ++ [c] else List.replicate n c
def runs : List Nat → List (Nat × Nat)
  | [] => []
  | c :: r => (c, 1 + (r.takeWhile (· == c)).length) :: runs (r.dropWhile (· == c))
termination_by l => l.length
decreasing_by
  simp only [List.length_cons]
  have := NumText.len_dropWhile (· == c) r
  omega
def rle (l : List Nat) : List Nat := (runs l).flatMap fun p => chunk p.2 p.1
theorem runs_nil : runs [] = [] := by rw [runs]
theorem runs_cons (c : Nat) (r : List Nat) : runs (c :: r) = (c, 1 + (r.takeWhile (· == c)).length) :: runs (r.dropWhile (· == c)) := by rw [runs]
theorem rle_nil : rle [] = [] := by simp [rle, runs_nil]
theorem rle_cons (c : Nat) (r : List Nat) : rle (c :: r) = chunk (1 + (r.takeWhile (· == c)).length) c ++ rle (r.dropWhile (· == c)) := by
  unfold rle
  rw [runs_cons, List.flatMap_cons]

/-- what is true of the empty list, and of a run ahead of a list that does not begin with its letter -/
theorem runs_ind {P : List Nat → Prop} (h0 : P []) (h1 : ∀ c r, P (r.dropWhile (· == c)) → P (c :: r)) : ∀ l, P l := by
  intro l
  generalize hn : l.length = n
  induction n using Nat.strongRecOn generalizing l with
  | ind n ih =>
    cases l with
    | nil => exact h0
    | cons c r =>
      refine h1 c r (ih _ ?_ _ rfl)
      rw [← hn, List.length_cons]
      have := NumText.len_dropWhile (· == c) r
      omega

theorem tw_rep (c : Nat) : ∀ r : List Nat, r.takeWhile (· == c) = List.replicate (r.takeWhile (· == c)).length c
  | [] => rfl
  | d :: r => by
    rw [List.takeWhile_cons]
    split
    · rename_i h
      have e : d = c := by simpa using h
      subst e
      rw [List.length_cons, List.replicate_succ, ← tw_rep d r]
    · rfl
theorem run_split (c : Nat) (r : List Nat) : c :: r = List.replicate (1 + (r.takeWhile (· == c)).length) c ++ r.dropWhile (· == c) := by
  rw [Nat.add_comm, List.replicate_succ, ← tw_rep, List.cons_append, List.takeWhile_append_dropWhile]
theorem drop_head (c : Nat) : ∀ r : List Nat, (r.dropWhile (· == c)).head? ≠ some c
  | [] => by simp
  | d :: r => by
    rw [List.dropWhile_cons]
    split
    · exact drop_head c r
    · rename_i h
      intro e
      have : d = c := by simpa using e
      subst this
      simp at h
theorem runs_decode : ∀ l : List Nat, (runs l).flatMap (fun p => List.replicate p.2 p.1) = l := by
  refine runs_ind (by simp [runs_nil]) fun c r ih => ?_
  rw [runs_cons, List.flatMap_cons, ih]
  exact (run_split c r).symm
theorem runs_pos : ∀ l : List Nat, ∀ p ∈ runs l, 1 ≤ p.2 := by
  refine runs_ind (by simp [runs_nil]) fun c r ih => ?_
  rw [runs_cons]
  intro p hp
  rcases List.mem_cons.mp hp with rfl | hp
  · exact Nat.le_add_right _ _
  · exact ih p hp
theorem runs_head (l : List Nat) : (runs l).head?.map (·.1) = l.head? := by
  cases l with
  | nil => simp [runs_nil]
  | cons c r => simp [runs_cons]
theorem runs_mem : ∀ l : List Nat, ∀ p ∈ runs l, p.1 ∈ l := by
  refine runs_ind (by simp [runs_nil]) fun c r ih => ?_
  rw [runs_cons]
  intro p hp
  rcases List.mem_cons.mp hp with rfl | hp
  · exact List.mem_cons_self ..
  · exact List.mem_cons_of_mem _ ((List.dropWhile_sublist _).subset (ih p hp))
theorem runs_le (l : List Nat) : ∀ p ∈ runs l, p.2 ≤ l.length := by
  revert l
  refine runs_ind (by simp [runs_nil]) fun c r ih => ?_
  rw [runs_cons]
  intro p hp
  rcases List.mem_cons.mp hp with rfl | hp
  · have := NumText.len_takeWhile (· == c) r
    show 1 + (r.takeWhile (· == c)).length ≤ r.length + 1
    omega
  · have := ih p hp
    have h := NumText.len_dropWhile (· == c) r
    simp only [List.length_cons]
    omega

theorem dig_short : ∀ n : Nat, n < 401 → n > 2 → (dig n).length + 1 ≤ n := by decide +kernel
theorem dig_first : ∀ n : Nat, n < 401 → n > 2 → (dig n).head? ≠ some 48 ∧ dig n ≠ [] := by decide +kernel
theorem dig_all : ∀ n : Nat, n < 401 → (dig n).all (fun c => 48 ≤ c && c ≤ 57) = true := by decide +kernel
theorem dig_val (n : Nat) : NumText.digitsVal (dig n) = n := KIN.val_back n

theorem chunk_len {n c : Nat} (hn : n ≤ 400) : (chunk n c).length ≤ n := by
  unfold chunk
  split
  · rename_i h
    have := dig_short n (by omega) h
    simp only [List.length_append, List.length_cons, List.length_nil]
    omega
  · simp
theorem rle_len : ∀ l : List Nat, l.length ≤ 400 → (rle l).length ≤ l.length := by
  refine runs_ind (by simp [rle_nil]) fun c r ih h => ?_
  have e := congrArg List.length (run_split c r)
  simp only [List.length_append, List.length_replicate, List.length_cons] at e
  simp only [List.length_cons] at h
  rw [rle_cons, List.length_append, List.length_cons]
  have h1 := chunk_len (n := 1 + (r.takeWhile (· == c)).length) (c := c) (by omega)
  have h2 := ih (by omega)
  omega

theorem runs_replicate {n c : Nat} (h : 1 ≤ n) : runs (List.replicate n c) = [(c, n)] := by
  obtain ⟨k, rfl⟩ : ∃ k, n = k + 1 := ⟨n - 1, by omega⟩
  rw [List.replicate_succ, runs_cons]
  simp [Nat.add_comm, runs_nil]
theorem rle_replicate {n c : Nat} (h : 3 ≤ n) : rle (List.replicate n c) = dig n ++ [c] := by
  unfold rle
  rw [runs_replicate (by omega)]
  simp [chunk, show 2 < n by omega]
theorem rle_one (c : Nat) : rle [c] = [c] := by
  unfold rle
  have := runs_replicate (n := 1) (c := c) (Nat.le_refl 1)
  rw [List.replicate_one] at this
  rw [this]
  simp [chunk]
end Mine
end
section
open PySem PySem.W PyProof.Rows
set_option autoImplicit false
namespace Mine

/-! ## reading a form -/
def isDig (c : Nat) : Bool := 48 ≤ c && c ≤ 57
def worth (ds : List Nat) : Nat := if ds = [] then 1 else NumText.digitsVal ds
def rdStep (p : List Nat × List Nat) (c : Nat) : List Nat × List Nat := if isDig c = true then (p.1, p.2 ++ [c]) else (p.1 ++ List.replicate (worth p.2) c, [])
def rd (l : List Nat) : List Nat × List Nat := l.foldl rdStep ([], [])
theorem rdStep_dig {p : List Nat × List Nat} {c : Nat} (h : isDig c = true) : rdStep p c = (p.1, p.2 ++ [c]) := if_pos h
theorem rdStep_sign {p : List Nat × List Nat} {c : Nat} (h : isDig c = false) : rdStep p c = (p.1 ++ List.replicate (worth p.2) c, []) := if_neg (by simp [h])
theorem rd_digits : ∀ (ds : List Nat) (p : List Nat × List Nat), (∀ c ∈ ds, isDig c = true) → ds.foldl rdStep p = (p.1, p.2 ++ ds)
  | [], p, _ => by simp
  | d :: ds, p, h => by
    rw [List.foldl_cons, rdStep_dig (h d (List.mem_cons_self ..)), rd_digits ds _ fun c hc => h c (List.mem_cons_of_mem _ hc)]
    simp
theorem dig_isDig {n : Nat} (h : n ≤ 400) : ∀ c ∈ dig n, isDig c = true := fun c hc => List.all_eq_true.mp (dig_all n (by omega)) c hc
theorem rd_chunk {n c : Nat} (hn : n ≤ 400) (h1 : 1 ≤ n) (hc : isDig c = false) (a : List Nat) : (chunk n c).foldl rdStep (a, []) = (a ++ List.replicate n c, []) := by
  unfold chunk
  split
  · rename_i h
    rw [List.foldl_append, rd_digits _ _ (dig_isDig hn), List.foldl_cons, List.foldl_nil, rdStep_sign hc]
    have hne := (dig_first n (by omega) h).2
    simp [worth, hne, dig_val]
  · rename_i h
    have : n = 1 ∨ n = 2 := by omega
    rcases this with rfl | rfl
    · simp [rdStep_sign hc, worth]
    · simp [List.replicate, rdStep_sign hc, worth]
theorem rd_rle : ∀ (l : List Nat), l.length ≤ 400 → (∀ c ∈ l, isDig c = false) → ∀ a, (rle l).foldl rdStep (a, []) = (a ++ l, []) := by
  refine runs_ind (fun _ _ a => by simp [rle_nil]) fun c r ih h hd a => ?_
  have e := congrArg List.length (run_split c r)
  simp only [List.length_append, List.length_replicate, List.length_cons] at e
  simp only [List.length_cons] at h
  rw [rle_cons, List.foldl_append, rd_chunk (by omega) (Nat.le_add_right _ _) (hd c (List.mem_cons_self ..)), ih (by omega) (fun d hm => hd d (List.mem_cons_of_mem _ ((List.dropWhile_sublist _).subset hm)))]
  rw [List.append_assoc, ← run_split]
theorem rd_of_rle {l : List Nat} (h : l.length ≤ 400) (hd : ∀ c ∈ l, isDig c = false) : rd (rle l) = (l, []) := by
  unfold rd
  rw [rd_rle l h hd]
  simp
theorem rle_inj {a b : List Nat} (ha : a.length ≤ 400) (hb : b.length ≤ 400) (da : ∀ c ∈ a, isDig c = false) (db : ∀ c ∈ b, isDig c = false) (h : rle a = rle b) : a = b := by
  have e := rd_of_rle ha da
  rw [h, rd_of_rle hb db] at e
  exact (congrArg Prod.fst e).symm

/-- the word read grows; the digits kept are digits of the form -/
theorem rd_grows : ∀ (l : List Nat) (p : List Nat × List Nat), p.1.length ≤ (l.foldl rdStep p).1.length
  | [], _ => Nat.le_refl _
  | c :: l, p => by
    rw [List.foldl_cons]
    refine Nat.le_trans ?_ (rd_grows l _)
    unfold rdStep
    split <;> simp
theorem rd_keeps : ∀ (l : List Nat) (p : List Nat × List Nat), (∀ c ∈ p.2, isDig c = true) → (∀ c ∈ (l.foldl rdStep p).2, isDig c = true)
  | [], _, h => h
  | c :: l, p, h => by
    rw [List.foldl_cons]
    refine rd_keeps l _ ?_
    unfold rdStep
    split
    · rename_i hc
      intro d hd
      rcases List.mem_append.mp hd with hd | hd
      · exact h d hd
      · rw [List.mem_singleton.mp hd]; exact hc
    · intro d hd; cases hd
theorem rd_count : ∀ (l : List Nat) (p : List Nat × List Nat), (l.foldl rdStep p).2.length ≤ p.2.length + l.length
  | [], _ => by simp
  | c :: l, p => by
    rw [List.foldl_cons]
    have h := rd_count l (rdStep p c)
    refine Nat.le_trans h ?_
    unfold rdStep
    split <;> simp only [List.length_append, List.length_cons, List.length_nil] <;> omega

/-! ## the rows of a form -/
abbrev Row := Nat × List Nat
def rwStep (p : List Row × List Nat) (c : Nat) : List Row × List Nat := if isDig c = true then (p.1, p.2 ++ [c]) else (p.1 ++ [(c, p.2)], [])
def rw' (l : List Nat) : List Row × List Nat := l.foldl rwStep ([], [])
theorem rwStep_dig {p : List Row × List Nat} {c : Nat} (h : isDig c = true) : rwStep p c = (p.1, p.2 ++ [c]) := if_pos h
theorem rwStep_sign {p : List Row × List Nat} {c : Nat} (h : isDig c = false) : rwStep p c = (p.1 ++ [(c, p.2)], []) := if_neg (by simp [h])
theorem rw_digits : ∀ (ds : List Nat) (p : List Row × List Nat), (∀ c ∈ ds, isDig c = true) → ds.foldl rwStep p = (p.1, p.2 ++ ds)
  | [], p, _ => by simp
  | d :: ds, p, h => by
    rw [List.foldl_cons, rwStep_dig (h d (List.mem_cons_self ..)), rw_digits ds _ fun c hc => h c (List.mem_cons_of_mem _ hc)]
    simp
def chunkRows (n c : Nat) : List Row := if n > 2 then [(c, dig n)] else List.replicate n (c, [])
theorem rw_chunk {n c : Nat} (hn : n ≤ 400) (h1 : 1 ≤ n) (hc : isDig c = false) (a : List Row) : (chunk n c).foldl rwStep (a, []) = (a ++ chunkRows n c, []) := by
  unfold chunk chunkRows
  split
  · rename_i h
    rw [List.foldl_append, rw_digits _ _ (dig_isDig hn), List.foldl_cons, List.foldl_nil, rwStep_sign hc, List.nil_append]
  · rename_i h
    have : n = 1 ∨ n = 2 := by omega
    rcases this with rfl | rfl
    · simp [rwStep_sign hc]
    · simp [List.replicate, rwStep_sign hc]
def rleRows (l : List Nat) : List Row := (runs l).flatMap fun p => chunkRows p.2 p.1
theorem rleRows_cons (c : Nat) (r : List Nat) : rleRows (c :: r) = chunkRows (1 + (r.takeWhile (· == c)).length) c ++ rleRows (r.dropWhile (· == c)) := by
  unfold rleRows
  rw [runs_cons, List.flatMap_cons]
theorem rw_rle : ∀ (l : List Nat), l.length ≤ 400 → (∀ c ∈ l, isDig c = false) → ∀ a, (rle l).foldl rwStep (a, []) = (a ++ rleRows l, []) := by
  refine runs_ind (fun _ _ a => by simp [rle_nil, rleRows, runs_nil]) fun c r ih h hd a => ?_
  have e := congrArg List.length (run_split c r)
  simp only [List.length_append, List.length_replicate, List.length_cons] at e
  simp only [List.length_cons] at h
  rw [rle_cons, List.foldl_append, rw_chunk (by omega) (Nat.le_add_right _ _) (hd c (List.mem_cons_self ..)), ih (by omega) (fun d hm => hd d (List.mem_cons_of_mem _ ((List.dropWhile_sublist _).subset hm)))]
  rw [List.append_assoc, ← rleRows_cons]

/-- what the law asks of a row, by the two ahead of it -/
def RowOk (p2 p1 : Option Row) (r : Row) : Prop :=
  (r.2 ≠ [] → r.2.head? ≠ some 48 ∧ 3 ≤ NumText.digitsVal r.2) ∧
  (∀ q, p1 = some q → q.1 = r.1 → r.2 = [] ∧ q.2 = [] ∧ ∀ q2, p2 = some q2 → q2.1 ≠ r.1)
def RowsOk : Option Row → Option Row → List Row → Prop
  | _, _, [] => True
  | p2, p1, r :: rs => RowOk p2 p1 r ∧ RowsOk p1 (some r) rs
theorem rows_ok : ∀ (l : List Nat), l.length ≤ 400 → ∀ p2 p1 : Option Row, (∀ q, p1 = some q → l.head? ≠ some q.1) → RowsOk p2 p1 (rleRows l) := by
  refine runs_ind (fun _ _ _ _ => by simp [rleRows, runs_nil, RowsOk]) fun c r ih h p2 p1 hp => ?_
  have e := congrArg List.length (run_split c r)
  simp only [List.length_append, List.length_replicate, List.length_cons] at e
  simp only [List.length_cons] at h
  have hp' : ∀ q, p1 = some q → q.1 ≠ c := fun q hq hc => hp q hq (by simp [hc])
  have hd := drop_head c r
  rw [rleRows_cons]
  generalize hn : 1 + (r.takeWhile (· == c)).length = n at e ⊢
  have ih' := ih (by omega)
  unfold chunkRows
  split
  · rename_i h2
    rw [List.singleton_append]
    refine ⟨⟨fun _ => ⟨(dig_first n (by omega) h2).1, by simp only [dig_val]; omega⟩, fun q hq hc => absurd hc (hp' q hq)⟩, ih' _ _ ?_⟩
    intro q hq
    cases hq
    exact hd
  · have : n = 1 ∨ n = 2 := by omega
    rcases this with rfl | rfl
    · refine ⟨⟨fun hne => absurd rfl hne, fun q hq hc => absurd hc (hp' q hq)⟩, ih' _ _ ?_⟩
      intro q hq
      cases hq
      exact hd
    · refine ⟨⟨fun hne => absurd rfl hne, fun q hq hc => absurd hc (hp' q hq)⟩, ⟨fun hne => absurd rfl hne, fun q hq hc => ?_⟩, ih' _ _ ?_⟩
      · cases hq
        exact ⟨rfl, rfl, fun q2 hq2 => hp' q2 hq2⟩
      · intro q hq
        cases hq
        exact hd
theorem rowsOk_at : ∀ (rs pre : List Row) (p2 p1 : Option Row), RowsOk p2 p1 rs → (∀ q, p1 = some q ↔ pre.getLast? = some q) → (∀ q, p2 = some q ↔ pre.dropLast.getLast? = some q) →
    ∀ k r, (pre ++ rs)[k]? = some r → pre.length ≤ k →
      RowOk (if k < 2 then none else (pre ++ rs)[k - 2]?) (if k < 1 then none else (pre ++ rs)[k - 1]?) r
  | [], pre, _, _, _, _, _, k, r, hk, hp => by
    rw [List.append_nil, List.getElem?_eq_none hp] at hk
    cases hk
  | s :: rs, pre, p2, p1, h, h1, h2, k, r, hk, hp => by
    by_cases hkp : k = pre.length
    · subst hkp
      have hr : s = r := by simpa using hk
      subst hr
      have e1 : (if pre.length < 1 then none else (pre ++ s :: rs)[pre.length - 1]?) = p1 := by
        refine Option.ext fun q => ?_
        rw [h1]
        split
        · rename_i h0
          have : pre = [] := List.length_eq_zero_iff.mp (by omega)
          simp [this]
        · rw [List.getElem?_append_left (by omega), List.getLast?_eq_getElem?]
      have e2 : (if pre.length < 2 then none else (pre ++ s :: rs)[pre.length - 2]?) = p2 := by
        refine Option.ext fun q => ?_
        rw [h2]
        split
        · rename_i h0
          have : pre.dropLast = [] := List.length_eq_zero_iff.mp (by rw [List.length_dropLast]; omega)
          simp [this]
        · rw [List.getElem?_append_left (by omega), List.getLast?_eq_getElem?, List.length_dropLast, List.getElem?_dropLast, if_pos (by omega)]
          rw [show pre.length - 1 - 1 = pre.length - 2 by omega]
      rw [e1, e2]
      exact h.1
    · have := rowsOk_at rs (pre ++ [s]) p1 (some s) h.2 (fun q => by simp) (fun q => by rw [List.dropLast_concat]; exact h1 q) k r (by simpa using hk) (by simp; omega)
      simpa using this
/-- the law's test passes at each row of the form of a word -/
theorem rle_rows_ok {l : List Nat} (h : l.length ≤ 400) {k : Nat} {r : Row} (hk : (rleRows l)[k]? = some r) :
    (r.2 ≠ [] → r.2.head? ≠ some 48 ∧ 3 ≤ NumText.digitsVal r.2) ∧
    (1 ≤ k → ∀ q, (rleRows l)[k - 1]? = some q → q.1 = r.1 → r.2 = [] ∧ q.2 = [] ∧ (2 ≤ k → ∀ q2, (rleRows l)[k - 2]? = some q2 → q2.1 ≠ r.1)) := by
  have h0 := rows_ok l h none none (fun q hq => nomatch hq)
  have h1 := rowsOk_at (rleRows l) [] none none h0 (by simp) (by simp) k r (by simpa using hk) (Nat.zero_le _)
  rw [List.nil_append] at h1
  refine ⟨h1.1, fun hk1 q hq hs => ?_⟩
  have h2 := h1.2 q (by rw [if_neg (by omega)]; exact hq) hs
  exact ⟨h2.1, h2.2.1, fun hk2 q2 hq2 => h2.2.2 q2 (by rw [if_neg (by omega)]; exact hq2)⟩
end Mine
end
section
open PySem PySem.W PyProof.Rows
set_option autoImplicit false
namespace Mine

/-! ## all turnings of a word, in order; the last letters; the way back -/
def rot (w : List Nat) (i : Nat) : List Nat := w.drop i ++ w.take i
def rots (w : List Nat) : List (List Nat) := (List.range w.length).map (rot w)
def lastOf (r : List Nat) : Nat := r.getLastD 0
def leB (a b : List Nat) : Bool := decide (a ≤ b)
def srows (w : List Nat) : List (List Nat) := (rots w).mergeSort leB
def bwt (w : List Nat) : List Nat := (srows w).map lastOf

theorem leB_iff {a b : List Nat} : leB a b = true ↔ a ≤ b := by simp [leB]
theorem srows_perm (w : List Nat) : (srows w).Perm (rots w) := List.mergeSort_perm _ _
theorem srows_sorted (w : List Nat) : (srows w).Pairwise (· ≤ ·) := by
  have h := List.pairwise_mergeSort (le := leB) (fun a b c h1 h2 => leB_iff.mpr (List.le_trans (leB_iff.mp h1) (leB_iff.mp h2))) (fun a b => by
    rcases List.le_total a b with h | h
    · simp [leB_iff.mpr h]
    · simp [leB_iff.mpr h]) (rots w)
  exact h.imp fun h => leB_iff.mp h
theorem sorted_eq {a b : List (List Nat)} (p : a.Perm b) (ha : a.Pairwise (· ≤ ·)) (hb : b.Pairwise (· ≤ ·)) : a = b :=
  List.Perm.eq_of_pairwise (le := (· ≤ ·)) (fun _ _ _ _ h1 h2 => List.le_antisymm h1 h2) ha hb p
theorem srows_eq {w : List Nat} {R : List (List Nat)} (p : R.Perm (rots w)) (h : R.Pairwise (· ≤ ·)) : R = srows w :=
  sorted_eq (p.trans (srows_perm w).symm) h (srows_sorted w)
theorem rots_length (w : List Nat) : (rots w).length = w.length := by simp [rots]
theorem srows_length (w : List Nat) : (srows w).length = w.length := by rw [(srows_perm w).length_eq, rots_length]
theorem bwt_length (w : List Nat) : (bwt w).length = w.length := by simp [bwt, srows_length]
theorem rot_length {w : List Nat} {i : Nat} : (rot w i).length = w.length := by
  simp only [rot, List.length_append, List.length_drop, List.length_take]
  omega
theorem mem_srows {w r : List Nat} (h : r ∈ srows w) : ∃ i, i < w.length ∧ r = rot w i := by
  have := (srows_perm w).mem_iff.mp h
  simp only [rots, List.mem_map, List.mem_range] at this
  obtain ⟨i, h1, h2⟩ := this
  exact ⟨i, h1, h2.symm⟩

/-- the last letter goes to the front -/
def turnR (r : List Nat) : List Nat := lastOf r :: r.dropLast
theorem rot_zero (w : List Nat) : rot w 0 = w := by simp [rot]
theorem lastOf_snoc (l : List Nat) (c : Nat) : lastOf (l ++ [c]) = c := by simp [lastOf]
theorem turnR_snoc (l : List Nat) (c : Nat) : turnR (l ++ [c]) = c :: l := by simp [turnR, lastOf_snoc]
theorem rot_succ {w : List Nat} {i : Nat} {c : Nat} (h : w[i]? = some c) : rot w (i + 1) = (w.drop (i + 1) ++ w.take i) ++ [c] := by
  unfold rot
  rw [List.take_add_one, h, List.append_assoc]
  rfl
theorem rot_cons {w : List Nat} {i : Nat} {c : Nat} (h : w[i]? = some c) : rot w i = c :: (w.drop (i + 1) ++ w.take i) := by
  unfold rot
  rw [List.drop_eq_getElem_cons (List.getElem?_eq_some_iff.mp h).1, (List.getElem?_eq_some_iff.mp h).2]
  rfl
theorem turnR_rot_succ {w : List Nat} {i : Nat} (h : i < w.length) : turnR (rot w (i + 1)) = rot w i := by
  have e : w[i]? = some w[i] := List.getElem?_eq_getElem h
  rw [rot_succ e, turnR_snoc, rot_cons e]
theorem rot_len (w : List Nat) : rot w w.length = w := by simp [rot]
theorem turnR_rot_zero {w : List Nat} (h : 0 < w.length) : turnR (rot w 0) = rot w (w.length - 1) := by
  have := turnR_rot_succ (w := w) (i := w.length - 1) (by omega)
  rw [show w.length - 1 + 1 = w.length by omega, rot_len] at this
  rw [rot_zero]
  exact this
theorem turnR_perm (w : List Nat) : ((rots w).map turnR).Perm (rots w) := by
  unfold rots
  rcases Nat.eq_zero_or_pos w.length with h0 | h0
  · rw [h0]; simp
  · obtain ⟨m, hm⟩ : ∃ m, w.length = m + 1 := ⟨w.length - 1, by omega⟩
    have e1 : ((List.range w.length).map (rot w)).map turnR = rot w m :: (List.range m).map (rot w) := by
      rw [hm, List.range_succ_eq_map, List.map_cons, List.map_cons, turnR_rot_zero h0, hm, Nat.add_sub_cancel, List.map_map, List.map_map]
      congr 1
      refine List.map_congr_left fun i hi => ?_
      exact turnR_rot_succ (by have := List.mem_range.mp hi; omega)
    have e2 : (List.range w.length).map (rot w) = (List.range m).map (rot w) ++ [rot w m] := by
      rw [hm, List.range_succ, List.map_append]
      rfl
    rw [e1, e2]
    exact (List.perm_append_singleton _ _).symm
theorem lastOf_rot_succ {w : List Nat} {i : Nat} {c : Nat} (h : w[i]? = some c) : lastOf (rot w (i + 1)) = c := by rw [rot_succ h, lastOf_snoc]
theorem bwt_perm (w : List Nat) : (bwt w).Perm w := by
  unfold bwt
  refine ((srows_perm w).map lastOf).trans ?_
  unfold rots
  rcases Nat.eq_zero_or_pos w.length with h0 | h0
  · rw [List.length_eq_zero_iff.mp h0]; simp
  · obtain ⟨m, hm⟩ : ∃ m, w.length = m + 1 := ⟨w.length - 1, by omega⟩
    have e1 : ((List.range w.length).map (rot w)).map lastOf = lastOf w :: w.take m := by
      rw [hm, List.range_succ_eq_map, List.map_cons, List.map_cons, rot_zero, List.map_map, List.map_map]
      congr 1
      refine List.ext_getElem (by simp; omega) fun i h1 h2 => ?_
      have hi : i < m := by simpa using h1
      simp only [List.getElem_map, List.getElem_range, Function.comp, List.getElem_take]
      exact lastOf_rot_succ (List.getElem?_eq_getElem (by omega))
    have e2 : w = w.take m ++ [lastOf w] := by
      have hne : w ≠ [] := fun e => by rw [e] at h0; exact absurd h0 (Nat.lt_irrefl _)
      have : lastOf w = w.getLast hne := by rw [lastOf, List.getLastD_eq_getLast?, List.getLast?_eq_some_getLast hne]; rfl
      rw [this, show m = w.length - 1 by omega, ← List.dropLast_eq_take, List.dropLast_concat_getLast]
    rw [e1]
    conv => rhs; rw [e2]
    exact (List.perm_append_singleton _ _).symm

/-- the law's key for a place of the last letters -/
def KeyLt (last : List Nat) (a b : Nat) : Prop := last.getD a 0 < last.getD b 0 ∨ (last.getD a 0 = last.getD b 0 ∧ a < b)

theorem snoc_lt {t t' : List Nat} {c : Nat} (hl : t.length = t'.length) (h : t < t') : t ++ [c] < t' ++ [c] := by
  induction t generalizing t' with
  | nil =>
    cases t' with
    | nil => exact absurd h (List.lt_irrefl _)
    | cons => cases hl
  | cons a t ih =>
    cases t' with
    | nil => cases hl
    | cons b t' =>
      rw [List.cons_append, List.cons_append]
      rcases List.cons_lt_cons_iff.mp h with h5 | ⟨h4, h5⟩
      · exact List.cons_lt_cons_iff.mpr (.inl h5)
      · exact List.cons_lt_cons_iff.mpr (.inr ⟨h4, ih (Nat.succ.inj hl) h5⟩)
theorem snoc_le {t t' : List Nat} {c : Nat} (hl : t.length = t'.length) (h : t ++ [c] ≤ t' ++ [c]) : t ≤ t' :=
  fun h' => h (snoc_lt hl.symm h')

theorem snoc_of {r : List Nat} (h : 0 < r.length) : ∃ t, r = t ++ [lastOf r] := by
  have hne : r ≠ [] := fun e => by rw [e] at h; exact absurd h (Nat.lt_irrefl _)
  refine ⟨r.dropLast, ?_⟩
  have : lastOf r = r.getLast hne := by rw [lastOf, List.getLastD_eq_getLast?, List.getLast?_eq_some_getLast hne]; rfl
  rw [this, List.dropLast_concat_getLast]

theorem bwt_get {w : List Nat} {a : Nat} (ha : a < w.length) : (bwt w).getD a 0 = lastOf ((srows w)[a]'(by rw [srows_length]; exact ha)) := by
  unfold bwt
  rw [List.getD_eq_getElem?_getD, List.getElem?_map, List.getElem?_eq_getElem (by rw [srows_length]; exact ha)]
  rfl
theorem srow_length {w r : List Nat} (h : r ∈ srows w) : r.length = w.length := by
  obtain ⟨i, _, rfl⟩ := mem_srows h
  exact rot_length

theorem order_rows {w order : List Nat} (hp : order.Perm (List.range w.length)) (hs : order.Pairwise (KeyLt (bwt w))) :
    order.map (fun a => turnR ((srows w).getD a [])) = srows w := by
  refine sorted_eq ?_ ?_ (srows_sorted w)
  · refine (hp.map _).trans ?_
    have e : (List.range w.length).map (fun a => turnR ((srows w).getD a [])) = (srows w).map turnR := by
      refine List.ext_getElem (by simp [srows_length]) fun i h1 h2 => ?_
      have hi : i < (srows w).length := by simpa using h2
      simp [List.getD_eq_getElem?_getD, List.getElem?_eq_getElem hi]
    rw [e]
    exact (((srows_perm w).map turnR).trans (turnR_perm w)).trans (srows_perm w).symm
  · refine List.pairwise_map.mpr ?_
    have hlt : ∀ a ∈ order, a < w.length := fun a ha => List.mem_range.mp (hp.mem_iff.mp ha)
    refine List.Pairwise.imp_of_mem ?_ hs
    intro a b ha hb hk
    have ha' := hlt a ha
    have hb' := hlt b hb
    have ia : a < (srows w).length := by rw [srows_length]; exact ha'
    have ib : b < (srows w).length := by rw [srows_length]; exact hb'
    unfold KeyLt at hk
    rw [bwt_get ha', bwt_get hb'] at hk
    simp only [List.getD_eq_getElem?_getD, List.getElem?_eq_getElem ia, List.getElem?_eq_getElem ib, Option.getD_some]
    have la := srow_length (List.getElem_mem ia)
    have lb := srow_length (List.getElem_mem ib)
    rcases hk with hk | ⟨he, hab⟩
    · unfold turnR
      exact List.le_of_lt (List.cons_lt_cons_iff.mpr (.inl hk))
    · have hle : (srows w)[a] ≤ (srows w)[b] := List.pairwise_iff_getElem.mp (srows_sorted w) a b ia ib hab
      obtain ⟨t, et⟩ := snoc_of (r := (srows w)[a]) (by rw [la]; omega)
      obtain ⟨t', et'⟩ := snoc_of (r := (srows w)[b]) (by rw [lb]; omega)
      generalize (srows w)[a] = ra at *
      generalize (srows w)[b] = rb at *
      rw [he] at et
      generalize hc : lastOf rb = c at *
      subst et et'
      rw [turnR_snoc, turnR_snoc]
      have hl : t.length = t'.length := by
        simp only [List.length_append, List.length_cons, List.length_nil] at la lb
        omega
      exact List.cons_le_cons_iff.mpr (.inr ⟨rfl, snoc_le hl hle⟩)

/-- the law's loop -/
def walkBack (last order : List Nat) : Nat → Nat → List Nat
  | 0, _ => []
  | k + 1, p => last.getD p 0 :: walkBack last order k (order.getD p 0)

theorem order_step {w order : List Nat} (hp : order.Perm (List.range w.length)) (hs : order.Pairwise (KeyLt (bwt w))) {p i : Nat} (hpl : p < w.length) (hi : i < w.length)
    (h : (srows w)[p]? = some (rot w i)) : order.getD p 0 < w.length ∧ (srows w)[order.getD p 0]? = some (rot w (i + 1)) := by
  have hl : order.length = w.length := by rw [hp.length_eq, List.length_range]
  have hpo : p < order.length := by omega
  have hq : order.getD p 0 < w.length := by
    rw [List.getD_eq_getElem?_getD, List.getElem?_eq_getElem hpo]
    exact List.mem_range.mp (hp.mem_iff.mp (List.getElem_mem hpo))
  refine ⟨hq, ?_⟩
  have e := congrArg (·[p]?) (order_rows hp hs)
  simp only [List.getElem?_map, List.getElem?_eq_getElem hpo, Option.map_some] at e
  rw [h] at e
  have e' := Option.some.inj e
  rw [List.getD_eq_getElem?_getD, List.getElem?_eq_getElem hpo, Option.getD_some] at hq ⊢
  have hqs : order[p] < (srows w).length := by rw [srows_length]; exact hq
  rw [List.getD_eq_getElem?_getD, List.getElem?_eq_getElem hqs, Option.getD_some] at e'
  rw [List.getElem?_eq_getElem hqs]
  congr 1
  have lr := srow_length (List.getElem_mem hqs)
  obtain ⟨t, et⟩ := snoc_of (r := (srows w)[order[p]]) (by rw [lr]; omega)
  have ec : w[i]? = some w[i] := List.getElem?_eq_getElem hi
  rw [et, turnR_snoc, rot_cons ec] at e'
  rw [rot_succ ec, et]
  obtain ⟨h1, h2⟩ := List.cons.inj e'
  rw [h1, h2]

theorem walk_back {w order : List Nat} (hp : order.Perm (List.range w.length)) (hs : order.Pairwise (KeyLt (bwt w))) :
    ∀ (k m p : Nat), m + k + 1 ≤ w.length → p < w.length → (srows w)[p]? = some (rot w (m + 1)) → walkBack (bwt w) order k p = (w.drop m).take k
  | 0, _, _, _, _, _ => by simp [walkBack]
  | k + 1, m, p, hm, hpl, h => by
    have hmw : m < w.length := by omega
    have ec : w[m]? = some w[m] := List.getElem?_eq_getElem hmw
    have hps : p < (srows w).length := by rw [srows_length]; exact hpl
    obtain ⟨hq, hstep⟩ := order_step hp hs hpl (by omega) h
    unfold walkBack
    rw [walk_back hp hs k (m + 1) _ (by omega) hq hstep, bwt_get hpl]
    rw [List.getElem?_eq_getElem hps] at h
    rw [Option.some.inj h, lastOf_rot_succ ec, List.drop_eq_getElem_cons hmw, List.take_succ_cons]

/-- the law's undoing finds the word -/
theorem undone {v order : List Nat} {e : Nat} (he : e ∉ v) (hp : order.Perm (List.range (v.length + 1))) (hs : order.Pairwise (KeyLt (bwt (v ++ [e])))) :
    walkBack (bwt (v ++ [e])) order v.length (order.getD ((bwt (v ++ [e])).idxOf e) 0) = v := by
  generalize hw : v ++ [e] = w at hs ⊢
  have hl : w.length = v.length + 1 := by rw [← hw]; simp
  rw [← hl] at hp
  have hmem : e ∈ bwt w := (bwt_perm w).mem_iff.mpr (by rw [← hw]; simp)
  have hpl : (bwt w).idxOf e < w.length := by
    have := List.idxOf_lt_length_of_mem hmem
    rwa [bwt_length] at this
  have hps : (bwt w).idxOf e < (srows w).length := by rw [srows_length]; exact hpl
  have hget : (bwt w).getD ((bwt w).idxOf e) 0 = e := by
    rw [List.getD_eq_getElem?_getD, List.getElem?_eq_getElem (List.idxOf_lt_length_of_mem hmem), List.getElem_idxOf (List.idxOf_lt_length_of_mem hmem)]
    rfl
  rw [bwt_get hpl] at hget
  obtain ⟨i, hi, hr⟩ := mem_srows (List.getElem_mem hps)
  have hrow : (srows w)[(bwt w).idxOf e]? = some (rot w 0) := by
    rw [List.getElem?_eq_getElem hps, hr]
    congr 1
    cases i with
    | zero => rfl
    | succ i =>
      exfalso
      have ec : w[i]? = some w[i] := List.getElem?_eq_getElem (by omega)
      rw [hr, lastOf_rot_succ ec] at hget
      have hiv : i < v.length := by omega
      have : w[i] = v[i] := by simp only [← hw, List.getElem_append_left hiv]
      rw [this] at hget
      exact he (hget ▸ List.getElem_mem hiv)
  obtain ⟨hq, hstep⟩ := order_step hp hs hpl (by omega) hrow
  rw [walk_back hp hs v.length 0 _ (by omega) hq hstep, List.drop_zero, ← hw, List.take_left' rfl]
end Mine
end
section
open PySem PySem.W PyProof.Rows
set_option autoImplicit false
namespace Mine
/-! ## what holds in the loops of RLENCD._compress -/
def twl (xs : List Nat) (c j : Nat) : Nat := ((xs.drop j).takeWhile (· == c)).length
def flat (ss : List Str) : List Nat := (ss.map cps).flatten
def InvA (xs : List Nat) (place : Int) (ss : List Str) : Prop := 0 ≤ place ∧ place ≤ (xs.length : Int) ∧ (ss.length : Int) ≤ place ∧ flat ss ++ rle (xs.drop place.toNat) = rle xs
def InvB (xs : List Nat) (c : Nat) (place n : Int) : Prop := 1 ≤ n ∧ place + n ≤ (xs.length : Int) ∧ n.toNat + twl xs c (place + n).toNat = 1 + twl xs c (place + 1).toNat

theorem invA_start (xs : List Nat) : InvA xs 0 [] := ⟨by omega, by omega, by simp, by simp [flat]⟩
theorem invB_start {xs : List Nat} {c : Nat} {place : Int} (h0 : 0 ≤ place) (h : place < (xs.length : Int)) : InvB xs c place 1 := ⟨by omega, by omega, by simp⟩
theorem twl_hit {xs : List Nat} {c j : Nat} (h : xs[j]? = some c) : twl xs c j = 1 + twl xs c (j + 1) := by
  unfold twl
  rw [List.drop_eq_getElem_cons (List.getElem?_eq_some_iff.mp h).1, (List.getElem?_eq_some_iff.mp h).2, List.takeWhile_cons, if_pos (by simp), List.length_cons]
  omega
theorem twl_miss {xs : List Nat} {c d j : Nat} (h : xs[j]? = some d) (hd : d ≠ c) : twl xs c j = 0 := by
  unfold twl
  rw [List.drop_eq_getElem_cons (List.getElem?_eq_some_iff.mp h).1, (List.getElem?_eq_some_iff.mp h).2, List.takeWhile_cons, if_neg (by simpa using hd)]
  rfl
theorem twl_end {xs : List Nat} {c j : Nat} (h : xs.length ≤ j) : twl xs c j = 0 := by
  unfold twl
  rw [List.drop_of_length_le h]
  rfl
theorem invB_step {xs : List Nat} {c : Nat} {place n : Int} (h0 : 0 ≤ place) (h : InvB xs c place n) (hc : xs[(place + n).toNat]? = some c) : InvB xs c place (n + 1) := by
  obtain ⟨h1, h2, h3⟩ := h
  have hlt := (List.getElem?_eq_some_iff.mp hc).1
  have e := twl_hit hc
  refine ⟨by omega, by omega, ?_⟩
  rw [show (place + (n + 1)).toNat = (place + n).toNat + 1 by omega]
  omega
theorem invB_end1 {xs : List Nat} {c : Nat} {place n : Int} (h : InvB xs c place n) (hl : ¬ place + n < (xs.length : Int)) : n.toNat = 1 + twl xs c (place + 1).toNat := by
  obtain ⟨h1, h2, h3⟩ := h
  rw [twl_end (j := (place + n).toNat) (by omega)] at h3
  omega
theorem invB_end2 {xs : List Nat} {c d : Nat} {place n : Int} (h : InvB xs c place n) (hd : xs[(place + n).toNat]? = some d) (hne : d ≠ c) : n.toNat = 1 + twl xs c (place + 1).toNat := by
  obtain ⟨h1, h2, h3⟩ := h
  rw [twl_miss hd hne] at h3
  omega
theorem dropWhile_drop (c : Nat) : ∀ r : List Nat, r.dropWhile (· == c) = r.drop (r.takeWhile (· == c)).length
  | [] => rfl
  | d :: r => by
    rw [List.dropWhile_cons, List.takeWhile_cons]
    split
    · rw [dropWhile_drop c r, List.length_cons, List.drop_succ_cons]
    · rfl
theorem flat_snoc (ss : List Str) (l : List Nat) : flat (ss ++ [S l]) = flat ss ++ l := by simp [flat, cps_S]
theorem invA_step {xs : List Nat} {c : Nat} {place n : Int} {ss : List Str} (hA : InvA xs place ss) (hc : xs[place.toNat]? = some c) (hB : InvB xs c place n) (hn : n.toNat = 1 + twl xs c (place + 1).toNat) {l : List Nat}
    (hl : l = chunk n.toNat c) : InvA xs (place + n) (ss ++ [S l]) := by
  obtain ⟨a1, a2, a3, a4⟩ := hA
  obtain ⟨b1, b2, b3⟩ := hB
  refine ⟨by omega, by omega, by simp only [List.length_append, List.length_cons, List.length_nil]; omega, ?_⟩
  rw [flat_snoc, hl, ← a4, List.append_assoc]
  congr 1
  rw [List.drop_eq_getElem_cons (i := place.toNat) (List.getElem?_eq_some_iff.mp hc).1, (List.getElem?_eq_some_iff.mp hc).2, rle_cons, dropWhile_drop, List.drop_drop, hn]
  unfold twl at hn ⊢
  rw [show (place + 1).toNat = place.toNat + 1 by omega] at hn ⊢
  congr 2
  rw [show (place + n).toNat = place.toNat + n.toNat by omega, hn]
  congr 1
  omega
theorem invA_end {xs : List Nat} {place : Int} {ss : List Str} (h : InvA xs place ss) (hl : ¬ place < (xs.length : Int)) : flat ss = rle xs := by
  obtain ⟨a1, a2, a3, a4⟩ := h
  rw [List.drop_of_length_le (by omega), rle_nil, List.append_nil] at a4
  exact a4
theorem join_nil : ∀ ss : List Str, Str.join (Str.ofString "") ss = S (flat ss)
  | [] => by
    show Str.empty = S (flat [])
    rfl
  | [x] => by
    show x = _
    simp [flat, S_cps]
  | x :: y :: r => by
    have h := join_nil (y :: r)
    show x ++ Str.ofString "" ++ Str.join (Str.ofString "") (y :: r) = _
    rw [h, ← S_nil, ← S_cps x, S_append, S_append]
    simp [flat, cps_S]
theorem txt_join_nil (ss : List Str) : Txt.join (Str.ofString "") ss = S (flat ss) := (StrLaws.glued_eq_join _ _).trans (join_nil ss)
theorem flat_len : ∀ ss : List Str, (ss.map (·.length)).sum = (flat ss).length
  | [] => rfl
  | x :: r => by
    have := flat_len r
    simp only [List.map_cons, List.sum_cons, this, flat, List.flatten_cons, List.length_append, len_cps]
theorem invA_sum {xs : List Nat} {place : Int} {ss : List Str} (hx : xs.length ≤ 400) (h : InvA xs place ss) : (ss.map (·.length)).sum ≤ 400 := by
  obtain ⟨a1, a2, a3, a4⟩ := h
  have e := congrArg List.length a4
  have := rle_len xs hx
  rw [flat_len]
  simp only [List.length_append] at e
  omega
theorem chunk_big {n c : Nat} (h : 2 < n) : dig n ++ [c] = chunk n c := by simp [chunk, h]
theorem chunk_small {n c : Nat} (h : ¬ 2 < n) : List.replicate n c = chunk n c := by simp [chunk, h]
end Mine
end
section
open PySem PySem.W PySem.Calls PyProof.Rows
set_option autoImplicit false
set_option maxRecDepth 100000
namespace Mine
section
variable {prog : Program} {w : World} {A : Around} {E : Value → Shared → Prop} {s : Shared}
/-- two times a sign -/
theorem two_signs {c : Nat} {t u : Tok} {Q : Value → Shared → Prop} (h : ∀ t' k, Q (.str (S [c, c]) t') { s with toks := k }) :
    wpAny (model prog w) A (binaryOp .Mult (.int 2 u) (.str (S [c]) t)) Q E s := by
  refine lm_binaryOp_repeat_right (T := "str") (U := "int") (by decide) (fun s' => typeIs_int s' 2 u) (typeIs_str s _ t) F.fills_int_mul noFill_str_mul F.slot_int_mul lm_noRepeat_int repeat_str F.slot_int_index.lookup
    (call_gives F.slot_int_mul (typeIs_int s 2 u) F.entry_int_mul (F.args_int_mul_2 _ _) (AutoIntG3.int___mul___int_str_0 2 u _ t) ⟨rfl, typeIs_str _ _ t, ?_⟩)
  have g := gives_str_mul (S [c]) 2 t u (by decide) (fun _ _ => show ¬ ((1 : Nat) : Int) > (2 ^ 63 - 1) / 2 by decide) (fun _ _ => show Builtin.Str.tooLong (1 * 2) = false by decide)
  refine call_gives F.slot_str_mul (typeIs_str s _ t) F.entry_str_mul (F.args_str_mul_2 _ _) g ?_
  have h0 : ¬ (((2 : Int) == 1 || (S [c]).length == 0) = true) := show ¬ (((2 : Int) == 1 || (1 : Nat) == 0) = true) by decide
  rw [if_neg (by decide), if_neg h0]
  exact ⟨show (2 : Nat) ≤ sizeLine by rw [sizeLine_eq]; decide, h _ _⟩
end

/-- a while is left: its state's letters, and what holds of them -/
def KswOut {σ : Type} (h₀ : Heap) (L : Addr) (s : Shared) (Led : σ → List (Addr × Obj)) (ps : σ → List (Str × Value)) (Facts : σ → Prop) (stored : List Str) (m₀ : Str → Option Value) (D : σ → Prop) (s₂ : Shared) : Prop :=
  ∃ (c : σ) (u : Str → Option Value) (h : Heap) (tk : Nat), s₂ = { s with heap := h, toks := tk } ∧ Facts c ∧ D c ∧ Fr h₀ L h (kstB (fun z => if stored.contains z then u z else m₀ z) (ps c)) ∧ News h₀ L h (Led c)
def KswQ {σ : Type} (h₀ : Heap) (L : Addr) (s : Shared) (Led : σ → List (Addr × Obj)) (ps : σ → List (Str × Value)) (Facts : σ → Prop) (stored : List Str) (m₀ : Str → Option Value) (D : σ → Prop) (Q : Flow → Shared → Prop) (f : Flow) (s₂ : Shared) : Prop :=
  match f with
  | .next => KswOut h₀ L s Led ps Facts stored m₀ D s₂
  | f => Q f s₂
section
variable {prog : Program} {w : World} {A : Around} {E : Value → Shared → Prop} {Q : Flow → Shared → Prop} {s : Shared} {env : Env} {h₀ : Heap} {L : Addr}
/-- a while by a word, a measure and what holds behind it: what follows is walked once -/
theorem ksw_join {σ : Type} {test : PySem.Expr} {body : List Stmt} {pos : Pos} {m₀ : Str → Option Value} (Led : σ → List (Addr × Obj)) (ps : σ → List (Str × Value)) (Facts : σ → Prop) (stored : List Str) (P : σ → Prop) (μ : σ → Nat) (D : σ → Prop) (c₀ : σ)
    (F : Fr h₀ L s.heap m₀) (N : News h₀ L s.heap (Led c₀)) (hf : Facts c₀) (hk : ∀ p ∈ ps c₀, m₀ p.1 = some p.2) (hp : P c₀)
    (hE : PassesOwn (model prog w) A env E)
    (turn : ∀ (c : σ) (u : Str → Option Value) h tk, Facts c → P c → Fr h₀ L h (kstB (fun z => if stored.contains z then u z else m₀ z) (ps c)) → News h₀ L h (Led c) →
      wpAny (model prog w) A (isTrue test env (eval test env)) (fun b s₂ =>
        if b = true then wpAny (model prog w) A (execs body env) (KswPost h₀ L s Led ps Facts stored m₀ P μ (KswQ h₀ L s Led ps Facts stored m₀ D Q) c) E s₂ else KswOut h₀ L s Led ps Facts stored m₀ D s₂) E { s with heap := h, toks := tk })
    (after : ∀ (c : σ) (u : Str → Option Value) h tk, Facts c → D c → Fr h₀ L h (kstB (fun z => if stored.contains z then u z else m₀ z) (ps c)) → News h₀ L h (Led c) → Q .next { s with heap := h, toks := tk }) :
    wpAny (model prog w) A (exec (.While test body [] pos) env) Q E s := by
  refine wpAny_mono (ksw_while (Q := KswQ h₀ L s Led ps Facts stored m₀ D Q) Led ps Facts stored P μ c₀ F N hf hk hp turn hE) (fun f s₂ q => ?_) fun _ _ x => x
  cases f with
  | next =>
    obtain ⟨c, u, h, tk, rfl, hf', hd, F', N'⟩ := q
    exact after c u h tk hf' hd F' N'
  | ret v => exact q
  | brk => exact q
  | cont => exact q
end
end Mine
end
section
open PySem PySem.W PyProof.Rows
set_option autoImplicit false
namespace Mine
theorem codes_split {x : Str} {pre post : List Int} {n : Nat} (h : KStt.codes x = pre ++ (n : Int) :: post) : cps x = pre.map Int.toNat ++ n :: post.map Int.toNat := by
  have e : (KStt.codes x).map Int.toNat = cps x := by
    unfold KStt.codes
    rw [List.map_map]
    exact (List.map_congr_left (g := _root_.id) fun c _ => Int.toNat_natCast c).trans (List.map_id _)
  rw [← e, h, List.map_append, List.map_cons, Int.toNat_natCast]
theorem codes_all (x : Str) : (KStt.codes x).map Int.toNat = cps x := by
  unfold KStt.codes
  rw [List.map_map]
  exact (List.map_congr_left (g := _root_.id) fun c _ => Int.toNat_natCast c).trans (List.map_id _)
theorem map_snoc (pre : List Int) (n : Nat) : (pre ++ [(n : Int)]).map Int.toNat = pre.map Int.toNat ++ [n] := by simp

theorem digits_cps : cps (Str.ofString "0123456789") = [48, 49, 50, 51, 52, 53, 54, 55, 56, 57] := by decide +kernel
theorem isDig_of {n : Nat} {b : Bool} (h : (Builtin.Str.occurrences (Str.ofString "0123456789") ⟨#[n]⟩ 0 (Str.ofString "0123456789").length 1).isEmpty = b) : isDig n = !b := by
  have e := StrLaws.found_one (Str.ofString "0123456789") n
  rw [h] at e
  rw [e]
  show _ = decide (n ∈ cps (Str.ofString "0123456789"))
  rw [digits_cps]
  unfold isDig
  by_cases hn : 48 ≤ n ∧ n ≤ 57
  · have : n = 48 ∨ n = 49 ∨ n = 50 ∨ n = 51 ∨ n = 52 ∨ n = 53 ∨ n = 54 ∨ n = 55 ∨ n = 56 ∨ n = 57 := by omega
    rcases this with rfl | rfl | rfl | rfl | rfl | rfl | rfl | rfl | rfl | rfl <;> decide
  · have h1 : (decide (48 ≤ n) && decide (n ≤ 57)) = false := by
      rw [Bool.and_eq_false_iff, decide_eq_false_iff_not, decide_eq_false_iff_not]
      omega
    rw [h1]
    symm
    rw [decide_eq_false_iff_not]
    simp only [List.mem_cons, List.not_mem_nil, or_false]
    omega
theorem cps_empty : cps (Str.ofString "") = [] := by decide +kernel
theorem ne_empty {x : Str} {b : Bool} (h : (x != Str.ofString "") = b) : (cps x = []) ↔ b = false := by
  have e : (x != Str.ofString "") = !(decide (x = Str.ofString "")) := rfl
  rw [e] at h
  rw [← h, ← S_nil]
  constructor
  · intro hx
    rw [← S_cps x, hx]
    simp
  · intro hx
    have : x = S [] := by simpa using hx
    rw [this]
    rfl
theorem intText_worth {x : Str} (hd : ∀ c ∈ cps x, isDig c = true) (hne : cps x ≠ []) (hl : x.length ≤ 400) : PySem.intText? x = some ((worth (cps x) : Nat) : Int) := by
  unfold worth
  rw [if_neg hne]
  refine PySem.intText_digits (fun c hc => ?_) hne (by omega)
  have := hd c hc
  simp only [isDig, Bool.and_eq_true, decide_eq_true_eq] at this
  exact this

def InvR (pre : List Nat) (word count : Str) : Prop := (cps word, cps count) = pre.foldl rdStep ([], [])
theorem rd_facts {x word count : Str} {pn post : List Nat} {n : Nat} (hx : cps x = pn ++ n :: post) (hr : (rd (cps x)).1.length ≤ 400) (hxl : x.length ≤ 400) (hI : InvR pn word count) :
    word.length ≤ 400 ∧ count.length ≤ 400 ∧ (∀ c ∈ cps count, isDig c = true) ∧ (isDig n = false → worth (cps count) ≤ 400) := by
  unfold InvR at hI
  have e1 : rd (cps x) = (n :: post).foldl rdStep (cps word, cps count) := by rw [hI, rd, hx, List.foldl_append]
  have hl := len_cps x
  rw [hx] at hl
  simp only [List.length_append, List.length_cons] at hl
  refine ⟨?_, ?_, ?_, fun hn => ?_⟩
  · have := rd_grows (n :: post) (cps word, cps count)
    rw [← e1] at this
    rw [← len_cps]
    exact Nat.le_trans this hr
  · have := rd_count pn ([], [])
    rw [← hI] at this
    rw [← len_cps]
    simp only [List.length_nil] at this
    omega
  · have := rd_keeps pn ([], []) (fun c hc => nomatch hc)
    rw [← hI] at this
    exact this
  · have := rd_grows post (rdStep (cps word, cps count) n)
    rw [List.foldl_cons] at e1
    rw [← e1, rdStep_sign hn] at this
    simp only [List.length_append, List.length_replicate] at this
    omega
theorem invR_dig {word count : Str} {pn : List Nat} {n : Nat} (hn : isDig n = true) (hI : InvR pn word count) : InvR (pn ++ [n]) word (count ++ S [n]) := by
  unfold InvR at *
  rw [List.foldl_append, ← hI, List.foldl_cons, List.foldl_nil, rdStep_dig hn, cps_app, cps_S]
theorem invR_sign {word count : Str} {pn : List Nat} {n : Nat} (hn : isDig n = false) (hI : InvR pn word count) : InvR (pn ++ [n]) (word ++ S (List.replicate (worth (cps count)) n)) (Str.ofString "") := by
  unfold InvR at *
  rw [List.foldl_append, ← hI, List.foldl_cons, List.foldl_nil, rdStep_sign hn, cps_app, cps_S, cps_empty]

section
variable {prog : Program} {w : World} {A : Around} {E : Value → Shared → Prop} {s : Shared}
/-- a letter times an int -/
theorem mul_letter {c : Nat} {n : Int} {t u : Tok} {Q : Value → Shared → Prop} (h0 : 0 ≤ n) (h1 : n ≤ 1048576) (h : ∀ t' k, Q (.str (S (List.replicate n.toNat c)) t') { s with toks := k }) :
    wpAny (model prog w) A (binaryOp .Mult (.str (S [c]) t) (.int n u)) Q E s := by
  rw [← mul_S c h0] at h
  exact SB.mul (mulOk_of 1 1048576 (by simp [len_S]) (by omega) (by omega) (by decide) (by decide)) h
theorem add_texts {x y : Str} {t u : Tok} {Q : Value → Shared → Prop} (hx : x.length ≤ 5000) (hy : y.length ≤ 5000) (h : ∀ t' k, Q (.str (x ++ y) t') { s with toks := k }) :
    wpAny (model prog w) A (binaryOp .Add (.str x t) (.str y u)) Q E s := KXadd.add hx hy (by decide) fun t' k _ => h t' k
theorem int_text {x : Str} {t : Tok} {Q : Value → Shared → Prop} (hd : ∀ c ∈ cps x, isDig c = true) (hne : cps x ≠ []) (hl : x.length ≤ 400) (h : Q (.int ((worth (cps x) : Nat) : Int) s.toks) { s with toks := s.toks + 1 }) :
    wpAny (model prog w) A (call (.type "int") [.str x t]) Q E s := KIN.call_text (intText_worth hd hne hl) (by omega) h
/-- a sign in the digits -/
theorem in_digits {n : Nat} {b : Bool} {t u : Tok} {Q : Value → Shared → Prop} (hb : isDig n = b) (h : Q (.bool b) s) : wpAny (model prog w) A (compareOp .In (.str (S [n]) t) (.str (Str.ofString "0123456789") u)) Q E s := by
  refine in_str ?_
  cases he : (Builtin.Str.occurrences (Str.ofString "0123456789") (S [n]) 0 (Str.ofString "0123456789").length 1).isEmpty with
  | true => rw [show b = !true by rw [← hb, isDig_of he]] at h; exact h
  | false => rw [show b = !false by rw [← hb, isDig_of he]] at h; exact h
end
end Mine
end
section
open PySem PySem.W PySem.Calls PyProof.Rows
set_option autoImplicit false
set_option maxRecDepth 100000
namespace Mine
section
variable {prog : Program} {w : World} {A : Around} {E : Value → Shared → Prop} {s : Shared} {env : Env} {h₀ : Heap}

/-- for a sign of a text, the ledger may grow -/
theorem text_loop {x : Str} {body : List Stmt} {Q : Flow → Shared → Prop} {xt : Str} {tx : Tok} {m₀ : Str → Option Value} {news : List (Addr × Obj)} (J : List Nat → (Str → Option Value) → List (Addr × Obj) → Prop)
    (hh : A.handled = none) (F : Fr h₀ env.locals s.heap m₀) (N : News h₀ env.locals s.heap news) (hj : J [] m₀ news)
    (turn : ∀ (pre post : List Nat) (n : Nat) t m₁ nx h tk own, cps xt = pre ++ n :: post → OwnOff own (nx.map (·.1)) → J pre m₁ nx → Fr h₀ env.locals h (fun y => if y = x then some (.str (S [n]) t) else m₁ y) → News h₀ env.locals h (nx ++ own) →
      wpAny (model prog w) A (execs body env) (InvPostG h₀ env.locals (J (pre ++ [n])) own { s with heap := h, toks := tk } Q) E { s with heap := h, toks := tk })
    (done : ∀ m₁ nx h tk, J (cps xt) m₁ nx → Fr h₀ env.locals h m₁ → News h₀ env.locals h nx → Q .next { s with heap := h, toks := tk }) :
    wpAny (model prog w) A (pyIter (.str xt tx)) (fun it s₂ => LoopAtV prog w A h₀ env x body Q E it s₂) E s := by
  have go : ∀ (o : Obj) (St : Nat → Heap → Prop), Walks prog w A s.heap.objs.size [s.heap.objs.size] [s.heap.objs.size] xt.cps.size (SignAt xt) St → St 0 (s.heap.push o) → (∀ i h, St i h → ∃ o, h.get? s.heap.objs.size = some o) →
      LoopAtV prog w A h₀ env x body Q E (.ref s.heap.objs.size) { s with heap := s.heap.push o } := by
    intro o St W hst hob
    refine kdr_loop (fun i m nx => J ((cps xt).take i) m nx) W (fun _ h => h) (fun _ h => h) ?_ ?_ ?_ ?_ hst (F.push _) (fun p hp => ⟨Heap.get?_push_of_some _ (N p hp).1, (N p hp).2⟩) (by simpa using hj) ?_ ?_
    · intro i h hi b hb
      rw [List.mem_singleton.mp hb]
      exact hob i h hi
    · intro hm
      exact absurd F.ns.lt ((List.mem_singleton.mp hm) ▸ Nat.lt_irrefl _)
    · intro b' hb
      rw [List.mem_singleton.mp hb]
      exact next_is_new F
    · intro p hp hI
      exact absurd (Heap.lt_size (N p hp).1) ((List.mem_singleton.mp hI) ▸ Nat.lt_irrefl _)
    · rintro i v m₁ nx h tk own hi ⟨n, u, hn, rfl⟩ hoff hJ F₁ N₁
      have hn' : (cps xt)[i]? = some n := by rw [Array.getElem?_toList]; exact hn
      have hs : (cps xt).take (i + 1) = (cps xt).take i ++ [n] := by simp [List.take_add_one, hn']
      have e : cps xt = (cps xt).take i ++ n :: (cps xt).drop (i + 1) := by
        have ht := List.take_append_drop (i + 1) (cps xt)
        rw [hs, List.append_assoc] at ht
        exact ht.symm
      rw [hs]
      exact turn _ _ n u m₁ nx h tk own e hoff hJ F₁ N₁
    · rintro m₁ nx h tk hJ F₁ N₁
      rw [List.take_of_length_le (by simp)] at hJ
      exact done m₁ nx h tk hJ F₁ N₁
  by_cases ha : xt.cps.all (· < 128) = true
  · exact wpAny_pyIter_ascii ha (go _ _ (Walks.strAscii hh _ xt tx) ⟨_, Heap.get?_push_size _ rfl, rfl, rfl⟩ fun _ _ ⟨o, ho, _⟩ => ⟨o, ho⟩)
  · exact wpAny_pyIter_wide (Bool.eq_false_iff.mpr ha) (go _ _ (Walks.strWide hh _ xt tx) ⟨_, Heap.get?_push_size _ rfl, rfl, rfl⟩ fun _ _ ⟨o, ho, _⟩ => ⟨o, ho⟩)

theorem ownOff_cons {own news : List (Addr × Obj)} {D : Addr} (h : OwnOff own (news.map (·.1))) (hD : ∀ p ∈ own, p.1 < D) {o : Obj} : OwnOff own (((D, o) :: news).map (·.1)) := by
  intro p hp b hb
  rw [List.map_cons] at hb
  rcases List.mem_cons.mp hb with rfl | hb
  · exact Nat.ne_of_lt (hD p hp)
  · exact h p hp b hb

/-- a turn over rows goes on -/
def RowNext (h₀ : Heap) (L : Addr) (ns : List Str) (m₁ : Str → Option Value) (news own : List (Addr × Obj)) (s₁ : Shared) (f : Flow) (s₂ : Shared) : Prop :=
  f = .next ∧ ∃ h' tk m' news', s₂ = { s₁ with heap := h', toks := tk } ∧ Fr h₀ L h' m' ∧ News h₀ L h' news' ∧ (∀ p ∈ news, p ∈ news') ∧ (∀ p ∈ own, p ∈ news') ∧ (∀ z, ns.contains z = false → m' z = m₁ z)
theorem rowNext_end {L : Addr} {ns : List Str} {m₁ m' : Str → Option Value} {news own news' : List (Addr × Obj)} {s₁ : Shared} {h' : Heap} {tk : Nat} (F : Fr h₀ L h' m') (N : News h₀ L h' news') (hn : ∀ p ∈ news, p ∈ news') (ho : ∀ p ∈ own, p ∈ news') (hm : ∀ z, ns.contains z = false → m' z = m₁ z) :
    RowNext h₀ L ns m₁ news own s₁ .next { s₁ with heap := h', toks := tk } := ⟨rfl, h', tk, m', news', rfl, F, N, hn, ho, hm⟩

/-- for k, (a, b) in enumerate(rows): the turns change the loop's names alone, and go on -/
theorem enum_rows {R : Result → Shared → Prop} {xi xa xb : Str} {pi pa pb pt pu : Pos} {x1 y1 : Nat} {body : List Stmt} {l : Addr} {vs : List Value} {n : Nat} {m : Str → Option Value} {news : List (Addr × Obj)}
    (hh : A.handled = none) (hxi : env.kindOf xi = some .local) (hxa : env.kindOf xa = some .local) (hxb : env.kindOf xb = some .local)
    (hp : (env.scope.kind == .class || (env.scope.kind == .module && env.locals != env.globals)) = false)
    (F : Fr h₀ env.locals s.heap m) (N : News h₀ env.locals s.heap news) (hl : (l, W.listOf vs.toArray n) ∈ news)
    (hv : ∀ (i : Nat) v, vs[i]? = some v → ∃ a v0 v1 k, v = .ref a ∧ (a, ({ cls := .type "tuple", data := .seq #[v0, v1] k } : Obj)) ∈ news)
    (turn : ∀ (i : Nat) a v0 v1 k t h tk own, vs[i]? = some (.ref a) → (a, ({ cls := .type "tuple", data := .seq #[v0, v1] k } : Obj)) ∈ news → OwnOff own (news.map (·.1)) →
      Fr h₀ env.locals h (fun y => if y = xb then some v1 else if y = xa then some v0 else if y = xi then some (.int i t) else m y) → News h₀ env.locals h (news ++ own) →
      wpAny (model prog w) A (execs body env) (RowNext h₀ env.locals [xi, xa, xb] m news own { s with heap := h, toks := tk }) (notedBy (model prog w) A env fun e s' => R (.error e) s') { s with heap := h, toks := tk })
    (done : ∀ h' tk (m' : Str → Option Value), Fr h₀ env.locals h' (fun z => if [xi, xa, xb].contains z then m' z else m z) → News h₀ env.locals h' news → R (.ok .next) { s with heap := h', toks := tk }) :
    wpAny (model prog w) A (call (.type "enumerate") [.ref l]) (fun xv s₁ => wpAny (model prog w) A (pyIter xv) (fun it s₂ => codeAny (model prog w) A (.forLoop (.Tuple [.Name xi pi, .Tuple [.Name xa pa, .Name xb pb] y1 pu] x1 pt) it body [] env) R s₂) E s₁) E s := by
  refine call_enumerate_1 (N.get hl) fun g he hit hz hk => ?_
  refine wpAny_pyIter_enum he ?_
  have hLs : env.locals < s.heap.objs.size := by obtain ⟨o, _, _, ho, _⟩ := F.ns; exact Heap.lt_size ho
  have hls : l < s.heap.objs.size := Heap.lt_size (N.get hl)
  have W := WalksT.enumerate (prog := prog) (w := w) (A := A) hh (s.heap.objs.size + 1) s.heap.objs.size l (Nat.succ_ne_self _) (Nat.ne_of_lt (Nat.lt_succ_of_lt hls)) (Nat.ne_of_lt hls) vs.toArray
  have hn0 : h₀.get? s.heap.objs.size = none := next_is_new F
  have hn1 : h₀.get? (s.heap.objs.size + 1) = none := by
    cases hq : h₀.get? (s.heap.objs.size + 1) with
    | none => rfl
    | some o => exact absurd (Heap.lt_size (F.keep _ _ hq)) (Nat.not_lt_of_le (Nat.le_succ _))
  have hwr : ∀ b ∈ [s.heap.objs.size + 1, s.heap.objs.size], h₀.get? b = none := by
    intro b hb
    rcases List.mem_cons.mp hb with rfl | hb
    · exact hn1
    · rw [List.mem_singleton.mp hb]; exact hn0
  have hnw : ∀ p ∈ news, p.1 ∉ [s.heap.objs.size + 1, s.heap.objs.size] := by
    intro p hp' hb
    have h1 := Heap.lt_size (N p hp').1
    rcases List.mem_cons.mp hb with e | hb
    · exact absurd (e ▸ h1) (Nat.not_lt_of_le (Nat.le_succ _))
    · exact absurd (List.mem_singleton.mp hb ▸ h1) (Nat.lt_irrefl _)
  have hLw : env.locals ∉ [s.heap.objs.size + 1, s.heap.objs.size] := by
    intro hb
    rcases List.mem_cons.mp hb with e | hb
    · exact absurd (e ▸ hLs) (Nat.not_lt_of_le (Nat.le_succ _))
    · exact absurd (List.mem_singleton.mp hb ▸ hLs) (Nat.lt_irrefl _)
  have old : ∀ b o, h₀.get? b = some o → b ∉ [s.heap.objs.size + 1, s.heap.objs.size] := fun b o e hb => by rw [hwr b hb] at e; cases e
  have step : ∀ (h₁ h₂ : Heap) (m' : Str → Option Value), (∀ b o, b ∉ [s.heap.objs.size + 1, s.heap.objs.size] → h₁.get? b = some o → h₂.get? b = some o) → Fr h₀ env.locals h₁ m' → News h₀ env.locals h₁ news → Fr h₀ env.locals h₂ m' ∧ News h₀ env.locals h₂ news :=
    fun h₁ h₂ m' hk₁ F' N' => ⟨⟨F'.ns.at' fun o e => hk₁ _ o hLw e, fun b o e => hk₁ b o (old b o e) (F'.keep b o e), F'.above⟩, fun p hp' => ⟨hk₁ _ _ (hnw p hp') (N' p hp').1, (N' p hp').2⟩⟩
  have up0 : ∀ b o, b ∉ [s.heap.objs.size + 1, s.heap.objs.size] → s.heap.get? b = some o → g.get? b = some o := fun b o _ e => hk b o e
  obtain ⟨Fg, Ng⟩ := step _ _ _ up0 F N
  have hlg : g.IsList l vs.toArray := ⟨_, Ng.get hl, rfl, n, rfl⟩
  refine codeAny_forLoop_any
    (fun k s' => ∃ h' tk m' i, s' = { s with heap := h', toks := tk } ∧ ((∃ old, IsEnum h' (s.heap.objs.size + 1) s.heap.objs.size ((i : Nat) : Int) old) ∧ h'.IsListIter s.heap.objs.size l i ∧ h'.IsList l vs.toArray) ∧ Fr h₀ env.locals h' m' ∧ News h₀ env.locals h' news ∧ (∀ z, [xi, xa, xb].contains z = false → m' z = m z) ∧ i ≤ vs.toArray.size ∧ k = vs.toArray.size + 1 - i) ?_ (vs.toArray.size + 1)
    ⟨g, s.toks, m, 0, rfl, ⟨⟨_, he⟩, hit, hlg⟩, Fg, Ng, fun _ _ => rfl, Nat.zero_le _, rfl⟩
  rintro k s' ⟨H, tk, m', i, rfl, hst', F', N', hm', hi, rfl⟩
  by_cases hlt : i < vs.toArray.size
  · refine W.item i _ _ _ hlt hst' fun T vals h₁ tk₁ hPt _ hT hMid hk₁ => ?_
    obtain ⟨t, v, hvi, rfl⟩ := hPt
    have hvi' : vs[i]? = some v := by simpa using hvi
    obtain ⟨a, v0, v1, kk, rfl, ha⟩ := hv i v hvi'
    refine W.go _ x1 pt i T _ _ _ hMid fun h₂ hst₂ hk₂ => ?_
    have ht₂ : h₂.IsTuple T #[.int i t, .ref a] := hT.at fun o e => hk₂ T o (W.apart i T h₁ hMid) e
    refine wpAny_assign_Tuple hh ht₂ rfl rfl fun h₃ hx₃ => ?_
    replace hx₃ : Heap.ExtBut h₂.objs.size h₂ h₃ := hx₃
    have up₃ : ∀ b o, h₂.get? b = some o → h₃.get? b = some o := fun b o x => hx₃ b o (Nat.ne_of_lt (Heap.lt_size x)) x
    obtain ⟨F₃, N₃⟩ := step H h₃ m' (fun b o hb x => up₃ b o (hk₂ b o hb (hk₁ b o hb x))) F' N'
    show wpAny _ A (do holding [.ref a] (assign (.Name xi pi) env (.int i t)); do holding [] (assign (.Tuple [.Name xa pa, .Name xb pb] y1 pu) env (.ref a)); pure ()) _ _ _
    refine wpAny_bind (wpAny_holding (wpAny_assign_Name (wpAny_storeName_local hxi F₃.ns (fun h₄ hn₄ hs₄ => ?_) hp)))
    replace hs₄ : Heap.SameBut env.locals h₃ h₄ := hs₄
    have F₄ := F₃.set hn₄ hs₄
    have N₄ := N₃.set hs₄
    have ht₄ : h₄.IsTuple a #[v0, v1] := ⟨_, N₄.get ha, rfl, kk, rfl⟩
    refine wpAny_bind (wpAny_holding (wpAny_assign_Tuple hh ht₄ rfl rfl fun h₅ hx₅ => ?_))
    replace hx₅ : Heap.ExtBut h₄.objs.size h₄ h₅ := hx₅
    have up₅ : ∀ b o, h₄.get? b = some o → h₅.get? b = some o := fun b o x => hx₅ b o (Nat.ne_of_lt (Heap.lt_size x)) x
    obtain ⟨F₅, N₅⟩ := step h₄ h₅ _ (fun b o _ x => up₅ b o x) F₄ N₄
    show wpAny _ A (do holding [v1] (assign (.Name xa pa) env v0); do holding [] (assign (.Name xb pb) env v1); pure ()) _ _ _
    refine wpAny_bind (wpAny_holding (wpAny_assign_Name (wpAny_storeName_local hxa F₅.ns (fun h₆ hn₆ hs₆ => ?_) hp)))
    replace hs₆ : Heap.SameBut env.locals h₅ h₆ := hs₆
    have F₆ := F₅.set hn₆ hs₆
    have N₆ := N₅.set hs₆
    refine wpAny_bind (wpAny_holding (wpAny_assign_Name (wpAny_storeName_local hxb F₆.ns (fun h₇ hn₇ hs₇ => wpAny_pure (wpAny_pure ?_)) hp)))
    replace hs₇ : Heap.SameBut env.locals h₆ h₇ := hs₇
    have F₇ := F₆.set hn₇ hs₇
    have N₇ := N₆.set hs₇
    have em : (fun y => if y = xb then some v1 else if y = xa then some v0 else if y = xi then some (Value.int i t) else m' y) = fun y => if y = xb then some v1 else if y = xa then some v0 else if y = xi then some (Value.int i t) else m y := by
      funext y
      by_cases h1 : y = xb
      · rw [if_pos h1, if_pos h1]
      · rw [if_neg h1, if_neg h1]
        by_cases h2 : y = xa
        · rw [if_pos h2, if_pos h2]
        · rw [if_neg h2, if_neg h2]
          by_cases h3 : y = xi
          · rw [if_pos h3, if_pos h3]
          · rw [if_neg h3, if_neg h3]
            exact hm' y (by simp [h1, h2, h3])
    rw [em] at F₇
    have hLf : env.locals ∉ [s.heap.objs.size + 1, s.heap.objs.size, l] := by
      intro hb
      rcases List.mem_cons.mp hb with e | hb
      · exact absurd (e ▸ hLs) (Nat.not_lt_of_le (Nat.le_succ _))
      · rcases List.mem_cons.mp hb with e | hb
        · exact absurd (e ▸ hLs) (Nat.lt_irrefl _)
        · exact (N _ hl).2.1 (List.mem_singleton.mp hb).symm
    have hst₇ : (∃ old, IsEnum h₇ (s.heap.objs.size + 1) s.heap.objs.size (((i + 1 : Nat)) : Int) old) ∧ h₇.IsListIter s.heap.objs.size l (i + 1) ∧ h₇.IsList l vs.toArray :=
      W.frame _ _ _ hst₂ fun b hb o e => hs₇.extBut b o (fun q => hLf (q ▸ hb)) (hs₆.extBut b o (fun q => hLf (q ▸ hb)) (up₅ b o (hs₄.extBut b o (fun q => hLf (q ▸ hb)) (up₃ b o e))))
    have N₈ : News h₀ env.locals h₇ (news ++ ownOf h₀ [s.heap.objs.size + 1, s.heap.objs.size] h₇) := by
      intro p hp'
      rcases List.mem_append.mp hp' with hp' | hp'
      · exact N₇ p hp'
      · exact (news_ownOf hLw) p hp'
    have hsep : OwnOff (ownOf h₀ [s.heap.objs.size + 1, s.heap.objs.size] h₇) (news.map (·.1)) := by
      intro p hp' b hb e
      obtain ⟨q, hq, rfl⟩ := List.mem_map.mp hb
      exact hnw q hq (e ▸ ownOf_sub p hp')
    refine wpAny_mono (turn i a v0 v1 kk t h₇ _ _ hvi' ha hsep F₇ N₈) (fun f s₃ h₈ => ?_) fun _ _ e => e
    obtain ⟨rfl, h₉, tk₉, m₉, news₉, rfl, F₉, N₉, hnn, hoo, hmm⟩ := h₈
    have hst₉ : (∃ old, IsEnum h₉ (s.heap.objs.size + 1) s.heap.objs.size (((i + 1 : Nat)) : Int) old) ∧ h₉.IsListIter s.heap.objs.size l (i + 1) ∧ h₉.IsList l vs.toArray := by
      refine W.frame _ _ _ hst₇ fun b hb o e => ?_
      rcases List.mem_cons.mp hb with e1 | hb
      · subst e1
        exact (N₉ _ (hoo _ (mem_ownOf (List.mem_cons_self ..) hn1 e))).1
      · rcases List.mem_cons.mp hb with e1 | hb
        · subst e1
          exact (N₉ _ (hoo _ (mem_ownOf (List.mem_cons_of_mem _ (List.mem_cons_self ..)) hn0 e))).1
        · have e1 := List.mem_singleton.mp hb
          subst e1
          have q := N₇.get hl
          rw [q] at e
          cases e
          exact (N₉ _ (hnn _ hl)).1
    exact ⟨vs.toArray.size + 1 - (i + 1), by omega, h₉, tk₉, m₉, i + 1, rfl, hst₉, F₉, fun p hp' => N₉ p (hnn p hp'), hmm, hlt, rfl⟩
  · have hin : i = vs.toArray.size := by omega
    subst hin
    refine W.done _ _ _ hst' fun h₁ tk₁ hk₁ => wpAny_execs_nil ?_
    obtain ⟨F₁, N₁⟩ := step H h₁ m' hk₁ F' N'
    have em : m' = fun z => if [xi, xa, xb].contains z then m' z else m z := by
      funext z
      cases hz : [xi, xa, xb].contains z with
      | true => simp
      | false => simp only [Bool.false_eq_true, if_false]; exact hm' z hz
    rw [em] at F₁
    exact done h₁ tk₁ m' F₁ N₁
end
end Mine
namespace Mine
open PySem PySem.W PySem.Calls PyProof.Rows
theorem ownOff_swap {own tl : List (Addr × Obj)} {l D : Addr} {o o' p' : Obj} (h : OwnOff own (((l, o) :: tl).map (·.1))) (hD : ∀ p ∈ own, p.1 < D) : OwnOff own (((l, o') :: (D, p') :: tl).map (·.1)) := by
  intro p hp b hb
  rcases List.mem_cons.mp hb with rfl | hb
  · exact h p hp _ (List.mem_cons_self ..)
  · rcases List.mem_cons.mp hb with rfl | hb
    · exact Nat.ne_of_lt (hD p hp)
    · exact h p hp b (List.mem_cons_of_mem _ hb)
end Mine
end
section
open PySem PySem.W PySem.Calls PyProof.Rows
set_option autoImplicit false
namespace Mine
abbrev tup2 (v0 v1 : Value) (k : Nat) : Obj := { cls := .type "tuple", data := .seq #[v0, v1] k }
def RowsIn (tups : List (Addr × Obj)) (vs : List Value) (rows : List Row) : Prop :=
  vs.length = rows.length ∧ ∀ (j : Nat) (r : Row), rows[j]? = some r → ∃ a t y u k, vs[j]? = some (.ref a) ∧ cps y = r.2 ∧ (a, tup2 (.str (S [r.1]) t) (.str y u) k) ∈ tups
theorem rowsIn_nil : RowsIn [] [] [] := ⟨rfl, fun j r h => by cases h⟩
theorem rowsIn_snoc {tups : List (Addr × Obj)} {vs : List Value} {rows : List Row} {a : Addr} {c : Nat} {y : Str} {t u : Tok} {k : Nat} (h : RowsIn tups vs rows) :
    RowsIn ((a, tup2 (.str (S [c]) t) (.str y u) k) :: tups) (vs ++ [.ref a]) (rows ++ [(c, cps y)]) := by
  obtain ⟨hl, hr⟩ := h
  refine ⟨by simp [hl], fun j r hj => ?_⟩
  by_cases hj' : j < rows.length
  · rw [List.getElem?_append_left hj'] at hj
    obtain ⟨a', t', y', u', k', h1, h2, h3⟩ := hr j r hj
    exact ⟨a', t', y', u', k', by rw [List.getElem?_append_left (by omega)]; exact h1, h2, List.mem_cons_of_mem _ h3⟩
  · have hjl := (List.getElem?_eq_some_iff.mp hj).1
    simp only [List.length_append, List.length_cons, List.length_nil] at hjl
    have : j = rows.length := by omega
    subst this
    rw [List.getElem?_append_right (Nat.le_refl _), Nat.sub_self] at hj
    cases hj
    exact ⟨a, t, y, u, k, by rw [← hl, List.getElem?_append_right (Nat.le_refl _), Nat.sub_self]; rfl, rfl, List.mem_cons_self ..⟩
theorem rowsIn_pairs {tups : List (Addr × Obj)} {vs : List Value} {rows : List Row} (h : RowsIn tups vs rows) (i : Nat) (v : Value) (hv : vs[i]? = some v) :
    ∃ a v0 v1 k, v = .ref a ∧ (a, ({ cls := .type "tuple", data := .seq #[v0, v1] k } : Obj)) ∈ tups := by
  have hi : i < rows.length := by rw [← h.1]; exact (List.getElem?_eq_some_iff.mp hv).1
  obtain ⟨a, t, y, u, k, h1, _, h2⟩ := h.2 i rows[i] (List.getElem?_eq_getElem hi)
  rw [hv] at h1
  exact ⟨a, _, _, k, Option.some.inj h1, h2⟩
/-- what the rows say at a place whose value is known -/
theorem rowsIn_at {tups : List (Addr × Obj)} {vs : List Value} {rows : List Row} {i : Nat} {a : Addr} (h : RowsIn tups vs rows) (hv : vs[i]? = some (.ref a)) :
    ∃ r t y u k, rows[i]? = some r ∧ cps y = r.2 ∧ (a, tup2 (.str (S [r.1]) t) (.str y u) k) ∈ tups := by
  have hi : i < rows.length := by rw [← h.1]; exact (List.getElem?_eq_some_iff.mp hv).1
  obtain ⟨b, t, y, u, k, h1, h3, h2⟩ := h.2 i rows[i] (List.getElem?_eq_getElem hi)
  rw [hv] at h1
  cases h1
  exact ⟨_, t, y, u, k, List.getElem?_eq_getElem hi, h3, h2⟩
theorem news_uniq {h₀ h : Heap} {L a : Addr} {o o' : Obj} {news : List (Addr × Obj)} (N : News h₀ L h news) (h1 : (a, o) ∈ news) (h2 : (a, o') ∈ news) : o = o' := by
  have e := N.get h1
  rw [N.get h2] at e
  exact (Option.some.inj e).symm

def InvW (pre : List Nat) (rows : List Row) (count : Str) : Prop := (rows, cps count) = pre.foldl rwStep ([], [])
theorem invW_dig {rows : List Row} {count : Str} {pn : List Nat} {n : Nat} (hn : isDig n = true) (hI : InvW pn rows count) : InvW (pn ++ [n]) rows (count ++ S [n]) := by
  unfold InvW at *
  rw [List.foldl_append, ← hI, List.foldl_cons, List.foldl_nil, rwStep_dig hn, cps_app, cps_S]
theorem invW_sign {rows : List Row} {count : Str} {pn : List Nat} {n : Nat} (hn : isDig n = false) (hI : InvW pn rows count) : InvW (pn ++ [n]) (rows ++ [(n, cps count)]) (Str.ofString "") := by
  unfold InvW at *
  rw [List.foldl_append, ← hI, List.foldl_cons, List.foldl_nil, rwStep_sign hn, cps_empty]
theorem rw_count : ∀ (l : List Nat) (p : List Row × List Nat), (l.foldl rwStep p).2.length ≤ p.2.length + l.length
  | [], _ => by simp
  | c :: l, p => by
    rw [List.foldl_cons]
    refine Nat.le_trans (rw_count l (rwStep p c)) ?_
    unfold rwStep
    split <;> simp only [List.length_append, List.length_cons, List.length_nil] <;> omega
theorem rw_rows : ∀ (l : List Nat) (p : List Row × List Nat), (l.foldl rwStep p).1.length ≤ p.1.length + l.length
  | [], _ => by simp
  | c :: l, p => by
    rw [List.foldl_cons]
    refine Nat.le_trans (rw_rows l (rwStep p c)) ?_
    unfold rwStep
    split <;> simp only [List.length_append, List.length_cons, List.length_nil] <;> omega
theorem invW_len {rows : List Row} {count x : Str} {pn post : List Nat} {n : Nat} (hx : cps x = pn ++ n :: post) (hxl : x.length ≤ 400) (hI : InvW pn rows count) : count.length ≤ 400 ∧ rows.length ≤ 400 := by
  unfold InvW at hI
  have hl := len_cps x
  rw [hx] at hl
  simp only [List.length_append, List.length_cons] at hl
  have h1 := rw_count pn ([], [])
  have h2 := rw_rows pn ([], [])
  rw [← hI] at h1 h2
  rw [← len_cps]
  simp only [List.length_nil] at h1 h2
  omega

section
variable {prog : Program} {w : World} {A : Around} {E : Value → Shared → Prop} {s : Shared} {h₀ : Heap} {L : Addr}
/-- an item of a list of the ledger -/
theorem led_item {value slice : PySem.Expr} {l : Addr} {vs : List Value} {n : Nat} {j : Int} {u : Tok} {v : Value} {news : List (Addr × Obj)} {Q : Value → Shared → Prop}
    (N : News h₀ L s.heap news) (hl : (l, W.listOf vs.toArray n) ∈ news) (h0 : 0 ≤ j) (h1 : j < 2 ^ 63) (hx : vs[j.toNat]? = some v) (h : Q v s)
    (hs : subscripted slice false (.ref l) (.int j u) = operate [.ref l, .int j u] (getItem (.ref l) (.int j u)) := by with_unfolding_all rfl) :
    wpAny (model prog w) A (subscriptTail value slice (.ref l) (.int j u)) Q E s :=
  have hl' : s.heap.IsList l vs.toArray := ⟨_, N.get hl, rfl, n, rfl⟩
  tail_any hl'.typeIs slot_list_getitem.lookup (wpAny_getItem_list hl' h0 h1 (by simpa using hx) h) hs
/-- a text compared, the answer known -/
theorem ne_known {x y : Str} {t u : Tok} {b : Bool} {Q : Value → Shared → Prop} (hb : (x != y) = b) (h : Q (.bool b) s) : wpAny (model prog w) A (compareOp .NotEq (.str x t) (.str y u)) Q E s := ne_str (hb ▸ h)
theorem eq_known {x y : Str} {t u : Tok} {b : Bool} {Q : Value → Shared → Prop} (hb : (x == y) = b) (h : Q (.bool b) s) : wpAny (model prog w) A (compareOp .Eq (.str x t) (.str y u)) Q E s := eq_str (hb ▸ h)
end
/-- what the law asks of the rows, in one word -/
def RowsGood (rows : List Row) : Prop := ∀ (k : Nat) (r : Row), rows[k]? = some r →
  (r.2 ≠ [] → r.2.head? ≠ some 48 ∧ 3 ≤ worth r.2 ∧ ∀ c ∈ r.2, isDig c = true) ∧ r.2.length ≤ 400 ∧
  (1 ≤ k → ∀ q, rows[k - 1]? = some q → q.1 = r.1 → r.2 = [] ∧ q.2 = [] ∧ (2 ≤ k → ∀ q2, rows[k - 2]? = some q2 → q2.1 ≠ r.1))
theorem S_beq (a b : List Nat) : (S a == S b) = decide (a = b) := by
  by_cases h : a = b
  · subst h; simp
  · rw [decide_eq_false h]
    exact beq_eq_false_iff_ne.mpr fun e => h (S_inj e)
theorem ne_empty_of {x : Str} : (x != Str.ofString "") = !decide (cps x = []) := by
  by_cases h : cps x = []
  · rw [decide_eq_true h, ← S_cps x, h, S_nil]
    simp
  · rw [decide_eq_false h]
    cases hb : (x != Str.ofString "") with
    | true => rfl
    | false => exact absurd ((ne_empty hb).mpr rfl) h
end Mine
namespace Mine
open PySem PySem.W PySem.Calls PyProof.Rows
theorem led_mem1 {q q' : Addr × Obj} {tups news own : List (Addr × Obj)} : ∀ p ∈ q :: ((q' :: tups) ++ news), p ∈ q' :: q :: ((tups ++ news) ++ own) := by
  intro p hp
  rcases List.mem_cons.mp hp with rfl | hp
  · exact .tail _ (.head _)
  · rcases List.mem_append.mp hp with hp | hp
    · rcases List.mem_cons.mp hp with rfl | hp
      · exact .head _
      · exact .tail _ (.tail _ (List.mem_append.mpr (.inl (List.mem_append.mpr (.inl hp)))))
    · exact .tail _ (.tail _ (List.mem_append.mpr (.inl (List.mem_append.mpr (.inr hp)))))
theorem led_mem2 {q q' : Addr × Obj} {l own : List (Addr × Obj)} : ∀ p ∈ own, p ∈ q' :: q :: (l ++ own) := fun _ hp => .tail _ (.tail _ (List.mem_append.mpr (.inr hp)))
end Mine
namespace Mine
open PySem PySem.W PySem.Calls PyProof.Rows
section
variable {prog : Program} {w : World} {A : Around} {E : Value → Shared → Prop} {s : Shared} {h₀ : Heap} {L : Addr}
/-- the two places of a pair of the ledger -/
theorem pair_0 {value slice : PySem.Expr} {a : Addr} {v0 v1 : Value} {k : Nat} {u : Tok} {news : List (Addr × Obj)} {Q : Value → Shared → Prop} (N : News h₀ L s.heap news) (hm : (a, tup2 v0 v1 k) ∈ news) (h : Q v0 s)
    (hs : subscripted slice false (.ref a) (.int 0 u) = operate [.ref a, .int 0 u] (getItem (.ref a) (.int 0 u)) := by with_unfolding_all rfl) :
    wpAny (model prog w) A (subscriptTail value slice (.ref a) (.int 0 u)) Q E s :=
  have hT : IsTup s.heap a #[v0, v1] := ⟨_, N.get hm, rfl, k, rfl⟩
  item_tupleT hT (by decide) (by decide) (j := 0) rfl rfl h hs
theorem pair_1 {value slice : PySem.Expr} {a : Addr} {v0 v1 : Value} {k : Nat} {u : Tok} {news : List (Addr × Obj)} {Q : Value → Shared → Prop} (N : News h₀ L s.heap news) (hm : (a, tup2 v0 v1 k) ∈ news) (h : Q v1 s)
    (hs : subscripted slice false (.ref a) (.int 1 u) = operate [.ref a, .int 1 u] (getItem (.ref a) (.int 1 u)) := by with_unfolding_all rfl) :
    wpAny (model prog w) A (subscriptTail value slice (.ref a) (.int 1 u)) Q E s :=
  have hT : IsTup s.heap a #[v0, v1] := ⟨_, N.get hm, rfl, k, rfl⟩
  item_tupleT hT (by decide) (by decide) (j := 1) rfl rfl h hs
end
theorem eq_of_true {x y : Str} (h : x = y) : (x == y) = true := by subst h; simp
end Mine
namespace Mine
open PySem PySem.W PySem.Calls PyProof.Rows
theorem item_ne_zero {z : Str} (h : cps z ≠ []) (h0 : (cps z).head? ≠ some 48) : (Txt.item z 0 == Str.ofString "0") = false := by
  obtain ⟨c, r, hc⟩ := List.exists_cons_of_ne_nil h
  rw [item_S (c := c) (Int.le_refl 0) (by rw [hc]; rfl), show Str.ofString "0" = S [48] by decide +kernel, S_beq, decide_eq_false]
  rw [hc] at h0
  simpa using h0
end Mine
end
section
open PySem PySem.W PySem.Calls PyProof.Rows
set_option maxRecDepth 100000
set_option maxHeartbeats 4000000
namespace Mine

def rk (r : Nat → Nat) (p : Array Nat) (i : Nat) : Nat := r (p.getD i 0)

theorem rk_congr {r : Nat → Nat} {p q : Array Nat} {i j : Nat} (h : p[i]? = q[j]?) : rk r p i = rk r q j := by
  unfold rk
  rw [Array.getD_eq_getD_getElem?, Array.getD_eq_getD_getElem?, h]

theorem rk_bubble {r : Nat → Nat} {xs : Array Nat} {src d : Nat} (hs : src < xs.size) (hd : d ≤ src) (k : Nat) :
    rk r (bubble xs src d) k = if k = src - d then rk r xs src else if src - d < k ∧ k ≤ src then rk r xs (k - 1) else rk r xs k := by
  have e := getElem?_bubble hs d hd k
  by_cases h1 : k = src - d
  · rw [if_pos h1] at e ⊢; exact rk_congr e
  · rw [if_neg h1] at e ⊢
    by_cases h2 : src - d < k ∧ k ≤ src
    · rw [if_pos h2] at e ⊢; exact rk_congr e
    · rw [if_neg h2] at e ⊢; exact rk_congr e

theorem rk_rev {r : Nat → Nat} {xs : Array Nat} {i j : Nat} (hj : j ≤ xs.size) (k : Nat) :
    rk r (kas_rev xs i j) k = if i ≤ k ∧ k < j then rk r xs (i + j - 1 - k) else rk r xs k := by
  have e := getElem?_mirror_all (i := i) hj k
  unfold kas_rev
  by_cases h1 : i ≤ k ∧ k < j
  · rw [if_pos h1] at e ⊢; exact rk_congr e
  · rw [if_neg h1] at e ⊢; exact rk_congr e

theorem rk_rev_equal {r : Nat → Nat} {xs : Array Nat} {i j : Nat} (hj : j ≤ xs.size) (heq : ∀ k, i ≤ k → k < j → rk r xs k = rk r xs (j - 1)) (k : Nat) :
    rk r (kas_rev xs i j) k = rk r xs k := by
  rw [rk_rev hj]
  split
  · rw [heq _ (by omega) (by omega), heq k (by omega) (by omega)]
  · rfl

def Up (r : Nat → Nat) (p : Array Nat) (m : Nat) : Prop := ∀ i j, i ≤ j → j < m → rk r p i ≤ rk r p j
def Down (r : Nat → Nat) (p : Array Nat) (m : Nat) : Prop := ∀ i j, i ≤ j → j < m → rk r p j ≤ rk r p i
def Good (n : Nat) (p : Array Nat) : Prop := p.Perm (List.range n).toArray

theorem Good.size {n : Nat} {p : Array Nat} (h : Good n p) : p.size = n := by
  have := h.size_eq
  simpa using this
theorem Good.lt {n : Nat} {p : Array Nat} (h : Good n p) (hn : 0 < n) (i : Nat) : p.getD i 0 < n := by
  rw [Array.getD_eq_getD_getElem?]
  by_cases hi : i < p.size
  · rw [getElem?_pos p i hi]
    have hm : p[i] ∈ (List.range n).toArray.toList := (Array.perm_iff_toList_perm.mp h).mem_iff.mp (by simp)
    simpa using hm
  · rw [getElem?_neg p i hi]
    exact hn
theorem Good.rev {n : Nat} {p : Array Nat} (h : Good n p) (i j : Nat) : Good n (kas_rev p i j) := (mirror_perm _ _ _ _).trans h
theorem Good.bub {n : Nat} {p : Array Nat} (h : Good n p) (i j : Nat) : Good n (bubble p i j) := (bubble_perm _ _ _).trans h

section
variable {cmp : Nat → Nat → (Bool → Shared → Prop) → Shared → Prop} {s : Shared} {r : Nat → Nat} {n : Nat}

theorem s_asc (hn : 0 < n) (hc : ∀ i j C, i < n → j < n → C (decide (r i < r j)) s → cmp i j C s) {p : Array Nat} (hp : Good n p) : ∀ (f x : Nat) {Q : Nat → Shared → Prop}, 1 ≤ x → x + f ≤ n → Up r p x →
    (∀ m, x ≤ m → m ≤ x + f → Up r p m → (m = x + f ∨ rk r p m < rk r p (m - 1)) → Q m s) → (kas_asc p f x).kasWp cmp Q s
  | 0, x, Q, hx, hf, hu, h => h x (Nat.le_refl _) (Nat.le_refl _) hu (.inl rfl)
  | f + 1, x, Q, hx, hf, hu, h => by
    show cmp (p.getD x 0) (p.getD (x - 1) 0) (fun c s' => (if c = true then KasT.ret x else kas_asc p f (x + 1)).kasWp cmp Q s') s
    refine hc _ _ _ (hp.lt hn _) (hp.lt hn _) ?_
    by_cases hl : rk r p x < rk r p (x - 1)
    · rw [show decide (r (p.getD x 0) < r (p.getD (x - 1) 0)) = true from decide_eq_true hl, if_pos rfl]
      exact h x (Nat.le_refl _) (by omega) hu (.inr hl)
    · rw [show decide (r (p.getD x 0) < r (p.getD (x - 1) 0)) = false from decide_eq_false hl, if_neg (by decide)]
      refine s_asc hn hc hp f (x + 1) (by omega) (by omega) ?_ fun m a1 a2 a3 a4 => h m (by omega) (by omega) a3 (by rcases a4 with a4 | a4; exact .inl (by omega); exact .inr a4)
      intro i j hij hj
      by_cases hjx : j < x
      · exact hu i j hij hjx
      · have hj' : j = x := by omega
        subst hj'
        by_cases hi' : i = j
        · subst hi'; exact Nat.le_refl _
        · have := hu i (j - 1) (by omega) (by omega)
          omega

theorem s_desc (hn : 0 < n) (hc : ∀ i j C, i < n → j < n → C (decide (r i < r j)) s → cmp i j C s) : ∀ (f : Nat) (p : Array Nat) (x q : Nat) {Q : Array Nat × Nat × Nat → Shared → Prop}, Good n p → 1 ≤ x → x + f ≤ n → Down r p x → q + 1 ≤ x →
    (∀ i, x - (q + 1) ≤ i → i < x → rk r p i = rk r p (x - 1)) →
    (∀ p' m q', Good n p' → x ≤ m → m ≤ x + f → Down r p' m → q' + 1 ≤ m → (∀ i, m - (q' + 1) ≤ i → i < m → rk r p' i = rk r p' (m - 1)) → Q (p', m, q') s) → (kas_desc f p x q).kasWp cmp Q s
  | 0, p, x, q, Q, hp, hx, hf, hd, hq, he, h => h p x q hp (Nat.le_refl _) (Nat.le_refl _) hd hq he
  | f + 1, p, x, q, Q, hp, hx, hf, hd, hq, he, h => by
    show cmp (p.getD x 0) (p.getD (x - 1) 0) (fun c s' => (if c = true then (if q > 0 then kas_desc f (kas_rev p (x - (q + 1)) x) (x + 1) 0 else kas_desc f p (x + 1) 0)
      else .ask (p.getD (x - 1) 0) (p.getD x 0) fun d => if d = true then .ret (p, x, q) else kas_desc f p (x + 1) (q + 1)).kasWp cmp Q s') s
    have hsz : x ≤ p.size := by rw [hp.size]; omega
    refine hc _ _ _ (hp.lt hn _) (hp.lt hn _) ?_
    have step : ∀ xs : Array Nat, (∀ k, rk r xs k = rk r p k) → rk r p x ≤ rk r p (x - 1) → Down r xs (x + 1) := by
      intro xs hk hlt i j hij hj
      rw [hk, hk]
      by_cases hjx : j < x
      · exact hd i j hij hjx
      · have hj' : j = x := by omega
        subst hj'
        by_cases hi' : i = j
        · subst hi'; exact Nat.le_refl _
        · have := hd i (j - 1) (by omega) (by omega)
          omega
    by_cases hl : rk r p x < rk r p (x - 1)
    · rw [show decide (r (p.getD x 0) < r (p.getD (x - 1) 0)) = true from decide_eq_true hl, if_pos rfl]
      by_cases hq0 : q > 0
      · rw [if_pos hq0]
        have hk := rk_rev_equal (r := r) hsz he
        refine s_desc hn hc f _ (x + 1) 0 (hp.rev _ _) (by omega) (by omega) (step _ hk (by omega)) (by omega) (fun i h1 h2 => by congr 1; omega) fun p' m q' a1 a2 a3 => h p' m q' a1 (by omega) (by omega)
      · rw [if_neg hq0]
        refine s_desc hn hc f _ (x + 1) 0 hp (by omega) (by omega) (step _ (fun _ => rfl) (by omega)) (by omega) (fun i h1 h2 => by congr 1; omega) fun p' m q' a1 a2 a3 => h p' m q' a1 (by omega) (by omega)
    · rw [show decide (r (p.getD x 0) < r (p.getD (x - 1) 0)) = false from decide_eq_false hl, if_neg (by decide)]
      show cmp (p.getD (x - 1) 0) (p.getD x 0) (fun d s' => (if d = true then KasT.ret (p, x, q) else kas_desc f p (x + 1) (q + 1)).kasWp cmp Q s') s
      refine hc _ _ _ (hp.lt hn _) (hp.lt hn _) ?_
      by_cases hg : rk r p (x - 1) < rk r p x
      · rw [show decide (r (p.getD (x - 1) 0) < r (p.getD x 0)) = true from decide_eq_true hg, if_pos rfl]
        exact h p x q hp (Nat.le_refl _) (by omega) hd hq he
      · rw [show decide (r (p.getD (x - 1) 0) < r (p.getD x 0)) = false from decide_eq_false hg, if_neg (by decide)]
        have heq : rk r p x = rk r p (x - 1) := by omega
        refine s_desc hn hc f p (x + 1) (q + 1) hp (by omega) (by omega) (step _ (fun _ => rfl) (by omega)) (by omega) ?_ fun p' m q' a1 a2 a3 => h p' m q' a1 (by omega) (by omega)
        intro i h1 h2
        rw [show x + 1 - 1 = x by omega]
        by_cases hix : i = x
        · subst hix; rfl
        · rw [heq]; exact he i (by omega) (by omega)

theorem s_tail3 (hn : 0 < n) (hc : ∀ i j C, i < n → j < n → C (decide (r i < r j)) s → cmp i j C s) {p : Array Nat} {m : Nat} {Q : Nat × Array Nat → Shared → Prop} (hp : Good n p) (h1 : 1 ≤ m) (hm : m ≤ n) (hd : Down r p m)
    (h : ∀ k p', Good n p' → 1 ≤ k → k ≤ n → Up r p' k → Q (k, p') s) : (kas_tail3 m n p).kasWp cmp Q s := by
  unfold kas_tail3
  rw [KasT.kasWp_bind]
  refine s_asc hn hc (hp.rev 0 m) (n - m) m h1 (by omega) ?_ fun k a1 a2 a3 _ => h k _ (hp.rev 0 m) (by omega) (by omega) a3
  intro i j hij hj
  have hsz : m ≤ p.size := by rw [hp.size]; omega
  rw [rk_rev hsz, rk_rev hsz, if_pos (by omega), if_pos (by omega)]
  exact hd _ _ (by omega) (by omega)

theorem s_descPart (hn : 0 < n) (hc : ∀ i j C, i < n → j < n → C (decide (r i < r j)) s → cmp i j C s) {p : Array Nat} {m : Nat} {Q : Nat × Array Nat → Shared → Prop} (hp : Good n p) (hm : m + 1 ≤ n) (hd : Down r p (m + 1))
    (h : ∀ k p', Good n p' → 1 ≤ k → k ≤ n → Up r p' k → Q (k, p') s) : (kas_descPart m n p).kasWp cmp Q s := by
  unfold kas_descPart
  rw [KasT.kasWp_bind]
  refine s_desc hn hc _ p (m + 1) 0 hp (by omega) (by omega) hd (by omega) (fun i h1 h2 => by congr 1; omega) fun p' k q' a1 a2 a3 a4 a5 a6 => ?_
  have hsz : k ≤ p'.size := by rw [a1.size]; omega
  dsimp only
  by_cases hq : q' > 0
  · rw [if_pos hq]
    refine s_tail3 hn hc (a1.rev _ _) (by omega) (by omega) ?_ h
    intro i j hij hj
    rw [rk_rev_equal hsz a6, rk_rev_equal hsz a6]
    exact a4 i j hij hj
  · rw [if_neg hq]
    exact s_tail3 hn hc a1 (by omega) (by omega) a4 h

theorem s_count (hn : 0 < n) (hc : ∀ i j C, i < n → j < n → C (decide (r i < r j)) s → cmp i j C s) {p : Array Nat} {Q : Nat × Array Nat → Shared → Prop} (hp : Good n p)
    (h : ∀ k p', Good n p' → 1 ≤ k → k ≤ n → Up r p' k → Q (k, p') s) : (kas_count n p).kasWp cmp Q s := by
  unfold kas_count
  rw [KasT.kasWp_bind]
  refine s_asc hn hc hp (n - 1) 1 (Nat.le_refl _) (by omega) (fun i j hij hj => by have : i = j := (by omega); subst this; exact Nat.le_refl _) fun m a1 a2 a3 a4 => ?_
  by_cases hmn : m = n
  · rw [if_pos (by simpa using hmn)]
    exact h m p hp a1 (by omega) a3
  · rw [if_neg (by simpa using hmn)]
    have hlt : rk r p m < rk r p (m - 1) := by rcases a4 with a4 | a4; omega; exact a4
    have hsz : m ≤ p.size := by rw [hp.size]; omega
    by_cases hgt : m > 1
    · rw [if_pos hgt]
      show cmp (p.getD 0 0) (p.getD (m - 1) 0) (fun c s' => (if c = true then KasT.ret (m, p) else kas_descPart m n (kas_rev p 0 m)).kasWp cmp Q s') s
      refine hc _ _ _ (hp.lt hn _) (hp.lt hn _) ?_
      by_cases hg : rk r p 0 < rk r p (m - 1)
      · rw [show decide (r (p.getD 0 0) < r (p.getD (m - 1) 0)) = true from decide_eq_true hg, if_pos rfl]
        exact h m p hp a1 (by omega) a3
      · rw [show decide (r (p.getD 0 0) < r (p.getD (m - 1) 0)) = false from decide_eq_false hg, if_neg (by decide)]
        have hall : ∀ k, 0 ≤ k → k < m → rk r p k = rk r p (m - 1) := by
          intro k _ hk
          have b1 := a3 0 k (by omega) hk
          have b2 := a3 k (m - 1) (by omega) (by omega)
          omega
        refine s_descPart hn hc (hp.rev _ _) (by omega) ?_ h
        intro i j hij hj
        rw [rk_rev_equal hsz hall, rk_rev_equal hsz hall]
        by_cases hjn : j < m
        · rw [hall i (by omega) (by omega), hall j (by omega) hjn]; exact Nat.le_refl _
        · have hj' : j = m := by omega
          subst hj'
          by_cases hi' : i = j
          · subst hi'; exact Nat.le_refl _
          · rw [hall i (by omega) (by omega)]; omega
    · rw [if_neg hgt]
      have hm1 : m = 1 := by omega
      subst hm1
      refine s_descPart hn hc hp (by omega) ?_ h
      intro i j hij hj
      by_cases hi' : i = j
      · subst hi'; exact Nat.le_refl _
      · have hi0 : i = 0 := by omega
        have hj1 : j = 1 := by omega
        subst hi0; subst hj1
        exact Nat.le_of_lt hlt

theorem s_place (hn : 0 < n) (hc : ∀ i j C, i < n → j < n → C (decide (r i < r j)) s → cmp i j C s) {p : Array Nat} (hp : Good n p) {k : Nat} (hk : k < n) (hu : Up r p k) : ∀ (f l t : Nat) {Q : Nat → Shared → Prop}, l ≤ t → t ≤ k → t - l ≤ f →
    (∀ i, i < l → rk r p i ≤ rk r p k) → (∀ i, t ≤ i → i < k → rk r p k < rk r p i) →
    (∀ l', l' ≤ k → (∀ i, i < l' → rk r p i ≤ rk r p k) → (∀ i, l' ≤ i → i < k → rk r p k < rk r p i) → Q l' s) → (kas_place p k f l t).kasWp cmp Q s
  | 0, l, t, Q, h1, h2, h3, lo, hi, h => h l (by omega) lo fun i a1 a2 => hi i (by omega) a2
  | f + 1, l, t, Q, h1, h2, h3, lo, hi, h => by
    unfold kas_place
    by_cases hge : l ≥ t
    · rw [if_pos hge]
      exact h l (by omega) lo fun i a1 a2 => hi i (by omega) a2
    · rw [if_neg hge]
      show cmp (p.getD k 0) (p.getD ((l + t) / 2) 0) (fun c s' => (if c = true then kas_place p k f l ((l + t) / 2) else kas_place p k f ((l + t) / 2 + 1) t).kasWp cmp Q s') s
      refine hc _ _ _ (hp.lt hn _) (hp.lt hn _) ?_
      by_cases hg : rk r p k < rk r p ((l + t) / 2)
      · rw [show decide (r (p.getD k 0) < r (p.getD ((l + t) / 2) 0)) = true from decide_eq_true hg, if_pos rfl]
        refine s_place hn hc hp hk hu f l ((l + t) / 2) (by omega) (by omega) (by omega) lo (fun i a1 a2 => ?_) h
        have := hu _ i a1 a2
        omega
      · rw [show decide (r (p.getD k 0) < r (p.getD ((l + t) / 2) 0)) = false from decide_eq_false hg, if_neg (by decide)]
        refine s_place hn hc hp hk hu f ((l + t) / 2 + 1) t (by omega) (by omega) (by omega) (fun i a1 => ?_) hi h
        have := hu i ((l + t) / 2) (by omega) (by omega)
        omega

theorem s_bin (hn : 0 < n) (hc : ∀ i j C, i < n → j < n → C (decide (r i < r j)) s → cmp i j C s) : ∀ (f : Nat) (p : Array Nat) (k : Nat) {Q : Array Nat → Shared → Prop}, Good n p → k + f ≤ n → Up r p k →
    (∀ p', Good n p' → Up r p' (k + f) → Q p' s) → (kas_bin f p k).kasWp cmp Q s
  | 0, p, k, Q, hp, hk, hu, h => h p hp hu
  | f + 1, p, k, Q, hp, hk, hu, h => by
    unfold kas_bin
    rw [KasT.kasWp_bind]
    refine s_place hn hc hp (by omega) hu k 0 k (by omega) (by omega) (by omega) (fun i hi => by omega) (fun i h1 h2 => by omega) fun l hl lo hi => ?_
    refine s_bin hn hc f _ (k + 1) (hp.bub _ _) (by omega) ?_ fun p' a1 a2 => h p' a1 (by rw [show k + (f + 1) = k + 1 + f by omega]; exact a2)
    have hks : k < p.size := by rw [hp.size]; omega
    intro i j hij hj
    rw [rk_bubble hks (by omega), rk_bubble hks (by omega), show k - (k - l) = l by omega]
    repeat' split
    all_goals first
      | (exfalso; omega)
      | exact Nat.le_refl _
      | exact lo _ (by omega)
      | exact Nat.le_of_lt (hi _ (by omega) (by omega))
      | exact hu _ _ (by omega) (by omega)

/-- The model's sort, asked by a pure order of ranks, ends with the places laid out by rank. -/
theorem s_sort (hn : 0 < n) (hc : ∀ i j C, i < n → j < n → C (decide (r i < r j)) s → cmp i j C s) {Q : Array Nat → Shared → Prop}
    (h : ∀ p, Good n p → Up r p n → Q p s) : (kas_sort n).kasWp cmp Q s := by
  unfold kas_sort
  rw [KasT.kasWp_bind]
  refine s_count hn hc (Array.Perm.refl _) fun k p hp h1 h2 hu => ?_
  dsimp only
  by_cases hlt : k < n
  · rw [if_pos hlt]
    have hm : max k 1 = k := by omega
    rw [hm]
    refine s_bin hn hc (n - k) p k hp (by omega) hu fun p' a1 a2 => h p' a1 (by rw [show n = k + (n - k) by omega]; exact a2)
  · rw [if_neg hlt]
    have : k = n := by omega
    subst this
    exact h p hp hu
end
end Mine
end
section
open PySem PySem.W PySem.Calls PyProof.Rows
set_option maxRecDepth 100000
set_option maxHeartbeats 4000000
namespace Mine

section
variable {prog : Program} {w : World} {A : Around} {E : Value → Shared → Prop} {s : Shared} {h₀ : Heap} {L : Addr} {m : Str → Option Value} {news : List (Addr × Obj)} {Q : Value → Shared → Prop}

/-- the items of a range, gathered -/
theorem collect_rng {R : List Value → Shared → Prop} {r : Addr} {a b : Int} {t u v : Tok} {n : Nat} (hh : A.handled = none) (hr : IsRange s.heap r a b 1 t u v) (hsm : Builtin.Range.small a b 1 = true)
    (hn : Builtin.Range.rangeSize a b 1 = n) (hlen : n ≤ 2 ^ 24)
    (h : ∀ (vs : List Value) (s' : Shared), (∀ b o, s.heap.get? b = some o → s'.heap.get? b = some o) → (vs.length = n ∧ ∀ (i : Nat) (x : Value), vs[i]? = some x → ∃ t, x = .int (a + (i : Int)) t) → (∃ h' tk, s' = { s with heap := h', toks := tk }) → R vs s') :
    wpAny (model prog w) A (collect (.ref r)) R E s := by
  unfold collect
  refine wpAny_bind (wpAny_runValue (codeAny_builtin PySem.F.entry_proto_collect ?_))
  rw [Around.under_plainId PySem.F.plain_proto_collect _]
  show wpAny _ A.in1 (newList [] >>= fun l => again (.builtin "list.__iadd__" ⟨[l, .ref r], []⟩)) _ _ s
  refine wpAny_bind (wpAny_newObj_type ?_)
  refine wpAny_pure ⟨plainId_quiet PySem.F.plain_list_iadd _, codeAny_builtin PySem.F.entry_list_iadd ?_⟩
  rw [Around.under_plainId PySem.F.plain_list_iadd _]
  refine wpAny_mono (wpAny_extend_range (R := fun q s₂ => q = .ok (.ret (.ref s.heap.objs.size)) ∧ ∃ (acc : Array Value) (c : Nat), s₂.heap.get? s.heap.objs.size = some { cls := .type "list", dict := none, data := .seq acc c, slots := #[] } ∧ R acc.toList s₂)
    hh (Heap.get?_push_of_some _ hr) hsm hn hlen s.heap.objs.size (.ref s.heap.objs.size) 0 (Heap.get?_push_size _ rfl) fun h' tk acc c hk hS hacc => ⟨rfl, acc, c, hS, ?_⟩) (fun fi s₂ x => ?_) fun _ _ x => nomatch x.1
  · refine h _ _ (fun b o e => hk b o (Nat.ne_of_lt (Heap.lt_size e)) (Heap.get?_push_of_some _ e)) ⟨(Array.length_toList ..).trans hacc.1, fun i x e => ?_⟩ ⟨_, _, rfl⟩
    rw [Array.getElem?_toList] at e
    obtain ⟨t, rfl⟩ := hacc.2 i x e
    exact ⟨t, by rw [Int.mul_one]⟩
  · cases fi with
    | done f =>
      obtain ⟨e, acc, c, hS, hR⟩ := x
      cases e
      exact wpAny_bind (wpAny_load hS (wpAny_pure hR))
    | again c₁ => exact ⟨x.1, codeAny_mono x.2 fun q s₃ ⟨e, acc, c, hS, hR⟩ => e ▸ wpAny_bind (wpAny_load hS (wpAny_pure hR))⟩

/-- a value whose items, gathered, are known -/
def Gathers (prog : Program) (w : World) (A : Around) (E : Value → Shared → Prop) (h₀ : Heap) (L : Addr) (m : Str → Option Value) (news : List (Addr × Obj)) (x : Value) (P : List Value → Prop) (C : Shared → Prop) (s : Shared) : Prop :=
  ∀ {R : List Value → Shared → Prop}, (∀ (vs : List Value) (s' : Shared), Fr h₀ L s'.heap m → News h₀ L s'.heap news → P vs → C s' → R vs s') → wpAny (model prog w) A (collect x) R E s

theorem gather_range {r : Addr} {a b : Int} {t u v : Tok} {n : Nat} (F : Fr h₀ L s.heap m) (N : News h₀ L s.heap news) (hh : A.handled = none) (hr : IsRange s.heap r a b 1 t u v) (hsm : Builtin.Range.small a b 1 = true)
    (hn : Builtin.Range.rangeSize a b 1 = n) (hlen : n ≤ 2 ^ 24) :
    Gathers prog w A E h₀ L m news (.ref r) (fun vs => vs.length = n ∧ ∀ (i : Nat) (x : Value), vs[i]? = some x → ∃ t, x = .int (a + (i : Int)) t) (fun s' => ∃ h' tk, s' = { s with heap := h', toks := tk }) s :=
  fun h => collect_rng hh hr hsm hn hlen fun vs s' hk hp hc => h vs s' (F.keeps hk) (fun p hp => ⟨hk _ _ (N p hp).1, (N p hp).2⟩) hp hc

theorem signs_strs {x : Str} {vs : List Value} (hl : vs.length = x.length) (h : ∀ (i : Nat) (v : Value), vs[i]? = some v → SignAt x i v) : StrsAre vs (x.cps.toList.map fun c => (⟨#[c]⟩ : Str)) := by
  have key : ∀ (l : List Nat) (vs : List Value), vs.length = l.length → (∀ (i : Nat) (v : Value), vs[i]? = some v → ∃ c u, l[i]? = some c ∧ v = .str ⟨#[c]⟩ u) → StrsAre vs (l.map fun c => (⟨#[c]⟩ : Str)) := by
    intro l
    induction l with
    | nil => intro vs hl _; rw [List.eq_nil_of_length_eq_zero hl]; exact .nil
    | cons a l ih =>
      intro vs hl h
      cases vs with
      | nil => simp at hl
      | cons v vs =>
        obtain ⟨c, u, hc, rfl⟩ := h 0 v rfl
        have : a = c := by simpa using hc
        subst this
        exact .cons _ _ (ih vs (by simpa using hl) fun i v hv => by simpa using h (i + 1) v (by simpa using hv))
  exact key _ vs (by rw [hl]; simp [Str.length]) fun i v hv => by
    obtain ⟨c, u, hc, e⟩ := h i v hv
    exact ⟨c, u, by rw [Array.getElem?_toList]; exact hc, e⟩

theorem gather_text {x : Str} {t : Tok} (F : Fr h₀ L s.heap m) (N : News h₀ L s.heap news) (hh : A.handled = none) (hx : x.length ≤ 1000) :
    Gathers prog w A E h₀ L m news (.str x t) (fun vs => vs.length = x.length ∧ StrsAre vs (x.cps.toList.map fun c => (⟨#[c]⟩ : Str))) (fun s' => s'.gens = s.gens ∧ s'.os = s.os ∧ s'.drawn = s.drawn) s :=
  fun h => wpAny_collect_str hh x t (fun s' acc hk h1 h2 h3 hacc => by
    have hl : acc.toList.length = x.length := by rw [Array.length_toList]; exact hacc.1
    exact h _ s' (F.keeps hk) (fun p hp => ⟨hk _ _ (N p hp).1, (N p hp).2⟩) ⟨hl, signs_strs hl fun i v hv => hacc.2 i v (by rw [← Array.getElem?_toList]; exact hv)⟩ ⟨h1, h3, h2⟩) (by rw [sizeLine_eq]; show x.length ≤ _; omega)

/-- sorted(x ..), whatever x is, so long as its items are known: what is left is the sort of a new list -/
theorem sorted_open {x : Value} {kw : List (Str × Value)} {P : List Value → Prop} {C : Shared → Prop} (hg : Gathers prog w A.in1 E h₀ L m news x P C s) (hP : ∀ vs, P vs → vs.length < 64)
    (ha1 : argsOk "sorted" ⟨[x], kw⟩) (ha2 : ∀ x, argsOk "list.sort" ⟨[.ref x], kw⟩)
    (h : ∀ (vs : List Value) (s₁ : Shared), P vs → C s₁ → Fr h₀ L s₁.heap m → News h₀ L s₁.heap news →
      wpAny (model prog w) A.in1.in1 (Builtin.«list.sort» ⟨[.ref s₁.heap.objs.size], kw⟩) (fun fin s₂ => fin = .done (.ret .none) ∧ Q (.ref s₁.heap.objs.size) s₂) (fun _ _ => False) { s₁ with heap := s₁.heap.push (seqObj "list" vs.toArray 0) }) :
    wpAny (model prog w) A (call (.builtin "sorted") [x] kw) Q E s := by
  refine call_function_entry_kw kind_sorted plain_sorted entry_sorted ha1 ?_
  unfold Builtin.«sorted»
  refine wpAny_bind (m := checkCount "sorted" 1 1 _) (wpAny_pure (wpAny_bind (hg fun vs s₁ F1 N1 hp hc => wpAny_bind (wpAny_newList ?_ (by have := hP vs hp; rw [sizeLine_eq]; omega)))))
  exact wpAny_bind (wpAny_holding (wpAny_call_entry_kw slot_list_sort ⟨_, Heap.get?_push_size _ rfl, rfl⟩ entry_list_sort
    (wpAny_mono (h vs s₁ hp hc F1 N1) (fun fin s₂ x => by obtain ⟨rfl, q⟩ := x; exact ⟨_, rfl, wpAny_pure ⟨_, rfl, q⟩⟩) fun _ _ x => x.elim) (ha2 _)))
/-- sorted(x, key = f) -/
theorem sorted_keyed {x f : Value} {b : Bool} {kw : List (Str × Value)} {P : List Value → Prop} {C : Shared → Prop}
    (hg : Gathers prog w A.in1 E h₀ L m news x P C s) (hP : ∀ vs, P vs → 2 ≤ vs.length ∧ vs.length < 64)
    (ha1 : argsOk "sorted" ⟨[x], kw⟩) (ha2 : ∀ x, argsOk "list.sort" ⟨[.ref x], kw⟩) (ht : ∀ x, Builtin.«list.sort» ⟨[.ref x], kw⟩ = ksk_tree x f b)
    (h : ∀ (vs : List Value) (s₁ : Shared), P vs → C s₁ → ∀ D kS e1 h', Fr h₀ L h' m → News h₀ L h' ((kS, seqObj "list" #[] 0) :: (D, seqObj "list" #[] e1) :: news) → D < kS → (∀ q ∈ news, q.1 < D) →
      KatKeys prog w A.in1.in1 h₀ L m kS f (fun ks e s' => wpAny (model prog w) A.in1.in1 (keyKind' (List.toArray ks)) (fun κ s'' => (kas_sort vs.length).kasWp (kas_ask prog w A.in1.in1 κ (katRev b ks)) (fun p s3 => KatFin h₀ L m kS D ks e e1 (katRev b (p.toList.map fun i => (katRev b vs).getD i Value.none)) (fun s4 => Q (.ref D) s4) s3) s'') (fun _ _ => False) s') vs [] 0 { s₁ with heap := h' }) :
    wpAny (model prog w) A (call (.builtin "sorted") [x] kw) Q E s := by
  refine sorted_open hg (fun vs hp => (hP vs hp).2) ha1 ha2 fun vs s₁ hp hc F1 N1 => ?_
  have new : ∀ q ∈ news, q.1 < s₁.heap.objs.size := fun q hq => Heap.lt_size (N1 q hq).1
  rw [ht]
  refine kat_keyed (s := { s₁ with heap := s₁.heap.push (seqObj "list" vs.toArray 0) }) (F1.push _) (fun q hq => ⟨Heap.get?_push_of_some _ (N1 q hq).1, (N1 q hq).2⟩) (Heap.get?_push_size _ rfl) (Nat.ne_of_gt F1.ns.lt)
    (next_is_new F1) (fun q hq => Nat.ne_of_lt (new q hq)) (hP vs hp).1 (hP vs hp).2 fun kS e1 h' F' N' l0 l1 => kat_keys_mono (h vs s₁ hp hc _ kS e1 h' F' N' l0 new) fun ks e s' hl hd => wpAny_mono hd (fun κ s'' hk => ?_) fun _ _ x => x
  have hl2 : ks.length = vs.length := by simpa using hl
  rw [kat_ask_eq (vs := katRev b vs) (by rw [kat_len, kat_len, hl2])] at hk ⊢
  exact kas_wp_mono hk fun p s3 hf => hf.mono fun s4 q => ⟨rfl, q⟩

/-- a text no less than each one ahead of it: all pairs -/
theorem rising_all : ∀ (p : Str) (l : List Str), risingS p l = true → (∀ x ∈ l, p.cps.toList ≤ x.cps.toList) ∧ l.Pairwise fun a b => ¬ b.cps.toList < a.cps.toList
  | _, [], _ => ⟨fun _ hx => (nomatch hx), .nil⟩
  | p, x :: r, h => by
    have h0 : (!PySem.Spec.ltCps x.cps.toList p.cps.toList && risingS x r) = true := h
    rw [Bool.and_eq_true, ltCps_eq, Bool.not_eq_true', decide_eq_false_iff_not] at h0
    obtain ⟨i1, i2⟩ := rising_all x r h0.2
    refine ⟨fun y hy => ?_, List.pairwise_cons.mpr ⟨i1, i2⟩⟩
    rcases List.mem_cons.mp hy with rfl | hy
    · exact h0.1
    · exact List.le_trans (show p.cps.toList ≤ x.cps.toList from h0.1) (i1 y hy)
theorem sorted_all : ∀ l : List Str, sortedS l = true → l.Pairwise fun a b => ¬ b.cps.toList < a.cps.toList
  | [], _ => .nil
  | x :: r, h => let ⟨i1, i2⟩ := rising_all x r h; List.pairwise_cons.mpr ⟨i1, i2⟩

/-- sorted(x) of texts, whatever x is, so long as its items are known -/
theorem sorted_texts {x : Value} {P : List Value → Prop} {C : Shared → Prop}
    (hg : Gathers prog w A.in1 E h₀ L m news x P C s) (hP : ∀ vs, P vs → vs.length < 64 ∧ ∃ ss, StrsAre vs ss)
    (h : ∀ (vs : List Value) (ss : List Str) (s₁ : Shared), P vs → StrsAre vs ss → C s₁ → ∀ D e1 h' (vs' : List Value) (ss' : List Str), Fr h₀ L h' m → News h₀ L h' ((D, seqObj "list" vs'.toArray e1) :: news) → (∀ q ∈ news, q.1 < D) →
      StrsAre vs' ss' → ss'.Perm ss → (ss'.Pairwise fun a b => ¬ b.cps.toList < a.cps.toList) → Q (.ref D) { s₁ with heap := h' }) :
    wpAny (model prog w) A (call (.builtin "sorted") [x]) Q E s := by
  refine sorted_open hg (fun vs hp => (hP vs hp).1) ?a1 ?a2 fun vs s₁ hp hc F1 N1 => ?_
  case a1 => exact args_sorted1 _
  case a2 => exact fun _ => args_list_sort _
  obtain ⟨h64, ss, hS⟩ := hP vs hp
  have hL : L < s₁.heap.objs.size := F1.ns.lt
  have hoL : (s₁.heap.push (seqObj "list" vs.toArray 0)).get? s₁.heap.objs.size = some (seqObj "list" vs.toArray 0) := Heap.get?_push_size _ rfl
  refine list_sort_treeK (s := { s₁ with heap := s₁.heap.push (seqObj "list" vs.toArray 0) }) strKind_oneLt hoL hS.keysOf (fun v₁ v₂ rest e => keyKind_strs (by rw [← e]; exact hS)) h64 fun st' a1 a2 => ⟨rfl, ?_⟩
  obtain ⟨ss', b1, b2, b4⟩ := sorted_out_str hS a1 a2
  have b3 := sorted_all ss' b4
  have hne : ∀ b o, s₁.heap.get? b = some o → b ≠ s₁.heap.objs.size := fun b o e => Nat.ne_of_lt (Heap.lt_size e)
  have old : ∀ b o, s₁.heap.get? b = some o → (sortedHeap (s₁.heap.push (seqObj "list" vs.toArray 0)) s₁.heap.objs.size vs ((arrOf st').map (·.2))).get? b = some o := fun b o e => by
    rw [sortedHeap_old (hne b o e) (by rw [size_push']; exact Nat.lt_succ_of_lt (Heap.lt_size e))]
    exact Heap.get?_push_of_some _ e
  obtain ⟨e1, he1⟩ := sortedHeap_at (out := (arrOf st').map (·.2)) hoL
  refine h vs ss s₁ hp hS hc s₁.heap.objs.size e1 _ ((arrOf st').map (·.2)).toList ss' (F1.keeps old) (fun q hq => ?_) (fun q hq => Heap.lt_size (N1 q hq).1) b1 b2 b3
  rcases List.mem_cons.mp hq with rfl | hq
  · exact ⟨by rw [Array.toArray_toList]; exact he1, Nat.ne_of_gt hL, Heap.get?_none_of_le (Nat.le_trans F1.above (Nat.le_of_lt hL))⟩
  · exact ⟨old _ _ (N1 q hq).1, (N1 q hq).2⟩
end
end Mine
end
section
open PySem PySem.W PySem.Calls PyProof.Rows
set_option maxRecDepth 100000
set_option maxHeartbeats 4000000
namespace Mine

section
variable {prog : Program} {w : World} {A : Around} {E : Value → Shared → Prop} {h₀ : Heap} {L : Addr} {m : Str → Option Value}

/-- the keys, each a pair of a sign and its place -/
def KeysIn (v : List Nat) (ks : List Value) (tups : List (Addr × Obj)) : Prop :=
  ∀ i : Nat, i < ks.length → ∃ c a t u k, v[i]? = some c ∧ ks[i]? = some (.ref a) ∧ (a, tup2 (.str (S [c]) t) (.int (i : Int) u) k) ∈ tups

theorem keys_walk {f : Value} {kS : Addr} {Fin : List Value → Nat → Shared → Prop} {rest : List (Addr × Obj)} (v : List Nat) (s₀ : Shared) (hne : ∀ p ∈ rest, p.1 ≠ kS)
    (hcall : ∀ (i : Nat) (t : Tok) (c : Nat) (news : List (Addr × Obj)) (h : Heap) (tk : Nat) (Q : Value → Shared → Prop), v[i]? = some c → Fr h₀ L h m → News h₀ L h news → (∀ p ∈ rest, p ∈ news) →
      (∀ a t1 t2 k h' tk', Fr h₀ L h' m → News h₀ L h' ((a, tup2 (.str (S [c]) t1) (.int (i : Int) t2) k) :: news) → (∀ q ∈ news, q.1 < a) → Q (.ref a) { s₀ with heap := h', toks := tk' }) →
      wpAny (model prog w) A (call f [.int (i : Int) t]) Q (fun _ _ => False) { s₀ with heap := h, toks := tk })
    (fin : ∀ ks e tups h tk, Fr h₀ L h m → News h₀ L h ((kS, seqObj "list" ks.toArray e) :: (tups ++ rest)) → ks.length = v.length → KeysIn v ks tups → (∀ p ∈ tups, p.1 ≠ kS) → (∀ p ∈ tups, ∀ q ∈ rest, q.1 < p.1) → Fin ks e { s₀ with heap := h, toks := tk }) :
    ∀ (r ks : List Value) (e : Nat) (tups : List (Addr × Obj)) (h : Heap) (tk : Nat), (∀ (j : Nat) (x : Value), r[j]? = some x → ∃ t, x = .int ((ks.length + j : Nat) : Int) t) → ks.length + r.length = v.length →
      Fr h₀ L h m → News h₀ L h ((kS, seqObj "list" ks.toArray e) :: (tups ++ rest)) → KeysIn v ks tups → (∀ p ∈ tups, p.1 ≠ kS) → (∀ p ∈ tups, ∀ q ∈ rest, q.1 < p.1) →
      KatKeys prog w A h₀ L m kS f Fin r ks e { s₀ with heap := h, toks := tk }
  | [], ks, e, tups, h, tk, hr, hl, F, N, hK, h1, h2 => fin ks e tups h tk F N (by simpa using hl) hK h1 h2
  | x :: r, ks, e, tups, h, tk, hr, hl, F, N, hK, h1, h2 => by
    obtain ⟨t, rfl⟩ := hr 0 x rfl
    have hi : ks.length < v.length := by rw [← hl]; simp
    refine KatKeys.cons (hcall (ks.length + 0) t v[ks.length] _ h tk _ (by simp [hi]) F N (fun p hp => List.mem_cons_of_mem _ (List.mem_append_right _ hp)) fun a t1 t2 k h' tk' F' N' hlt => ?_)
    have hk0 : kS < a := hlt _ (List.mem_cons_self ..)
    have U : UpdF kS (seqObj "list" (List.toArray ks) e) ((a, tup2 (.str (S [v[ks.length]]) t1) (.int ((ks.length + 0 : Nat) : Int) t2) k) :: (kS, seqObj "list" ks.toArray e) :: (tups ++ rest))
        (fun o => (a, tup2 (.str (S [v[ks.length]]) t1) (.int ((ks.length + 0 : Nat) : Int) t2) k) :: (kS, o) :: (tups ++ rest)) :=
      .tail (Nat.ne_of_gt hk0) (.head fun p hp => by
        rcases List.mem_append.mp hp with hp | hp
        · exact h1 p hp
        · exact hne p hp)
    refine KatBack.intro F' N' U fun h2' c F2 N2 => ?_
    refine keys_walk v s₀ hne hcall fin r (ks ++ [.ref a]) c ((a, tup2 (.str (S [v[ks.length]]) t1) (.int ((ks.length : Nat) : Int) t2) k) :: tups) h2' tk' ?_ ?_ F2 ?_ ?_ ?_ ?_
    · intro j y hy
      obtain ⟨t', rfl⟩ := hr (j + 1) y (by simpa using hy)
      exact ⟨t', by rw [List.length_append, List.length_singleton, show ks.length + (j + 1) = ks.length + 1 + j by omega]⟩
    · rw [List.length_append, List.length_singleton, ← hl, List.length_cons]; omega
    · intro p hp
      rcases List.mem_cons.mp hp with rfl | hp
      · exact N2 _ (.tail _ (.head _))
      · rcases List.mem_cons.mp hp with rfl | hp
        · exact N2 _ (.head _)
        · exact N2 _ (.tail _ (.tail _ hp))
    · intro i hi'
      rw [List.length_append, List.length_singleton] at hi'
      by_cases hik : i < ks.length
      · obtain ⟨c', a', t', u', k', e1, e2, e3⟩ := hK i hik
        exact ⟨c', a', t', u', k', e1, by rw [List.getElem?_append_left hik]; exact e2, List.mem_cons_of_mem _ e3⟩
      · have : i = ks.length := by omega
        subst this
        exact ⟨v[ks.length], a, t1, t2, k, by simp [hi], by simp, List.mem_cons_self ..⟩
    · intro p hp
      rcases List.mem_cons.mp hp with rfl | hp
      · exact Nat.ne_of_gt hk0
      · exact h1 p hp
    · intro p hp q hq
      rcases List.mem_cons.mp hp with rfl | hp
      · exact hlt _ (List.mem_cons_of_mem _ (List.mem_append_right _ hq))
      · exact h2 p hp q hq

/-- the rank of a place: its sign first, then itself -/
def rnk (v : List Nat) (i : Nat) : Nat := v.getD i 0 * v.length + i
theorem rnk_lt {v : List Nat} {i j : Nat} (hi : i < v.length) (hj : j < v.length) : rnk v i < rnk v j ↔ KeyLt v i j := by
  unfold rnk KeyLt
  generalize v.getD i 0 = x
  generalize v.getD j 0 = y
  generalize v.length = n at *
  rcases Nat.lt_trichotomy x y with h | h | h
  · have h3 : x * n + n ≤ y * n := by
      have := Nat.mul_le_mul_right n h
      rw [Nat.succ_mul] at this
      exact this
    constructor
    · intro _; exact .inl h
    · intro _; omega
  · subst h
    constructor
    · intro h4; exact .inr ⟨rfl, by omega⟩
    · rintro (h4 | ⟨_, h4⟩)
      · omega
      · omega
  · have h3 : y * n + n ≤ x * n := by
      have := Nat.mul_le_mul_right n h
      rw [Nat.succ_mul] at this
      exact this
    constructor
    · intro h4; omega
    · rintro (h4 | ⟨h4, _⟩)
      · omega
      · omega

theorem S_lt (a b : Nat) : (S [a]).cps.toList < (S [b]).cps.toList ↔ a < b := by
  show cps (S [a]) < cps (S [b]) ↔ _
  rw [cps_S, cps_S]
  constructor
  · intro h
    rcases List.cons_lt_cons_iff.mp h with h | ⟨_, h⟩
    · exact h
    · exact absurd h (List.not_lt_nil _)
  · intro h
    exact List.cons_lt_cons_iff.mpr (.inl h)

theorem keys_kind {v : List Nat} {ks : List Value} {tups news : List (Addr × Obj)} {s : Shared} {Q : SortKind → Shared → Prop} (hl : ks.length = v.length) (hpos : 0 < v.length) (hK : KeysIn v ks tups) (N : News h₀ L s.heap news) (hm : ∀ p ∈ tups, p ∈ news)
    (h : Q (tuples' true) s) : wpAny (model prog w) A (keyKind' (List.toArray ks)) Q E s := by
  have key : ∀ (l : List Value) (i : Nat), (∀ j, j < l.length → l[j]? = ks[i + j]?) → ∃ fs : List Value, KatTups s.heap l fs ∧ fs.length = l.length ∧ ∀ x ∈ fs, ∃ y t, x = .str y t := by
    intro l
    induction l with
    | nil => intro i _; exact ⟨[], KatTups.nil, rfl, fun _ h => (nomatch h)⟩
    | cons x l ih =>
      intro i hi
      obtain ⟨fs, a1, a2, a3⟩ := ih (i + 1) fun j hj => by
        have := hi (j + 1) (by simpa using hj)
        rw [show i + 1 + j = i + (j + 1) by omega]
        simpa using this
      have h0 : ks[i]? = some x := by simpa using (hi 0 (by simp)).symm
      have hik : i < ks.length := (List.getElem?_eq_some_iff.mp h0).1
      obtain ⟨c, a, t, u, k, e1, e2, e3⟩ := hK i hik
      have hx : x = .ref a := by
        rw [h0] at e2
        exact Option.some.inj e2
      subst hx
      refine ⟨.str (S [c]) t :: fs, KatTups.cons (N _ (hm _ e3)).1 rfl rfl rfl a1, by simp [a2], ?_⟩
      intro y hy
      rcases List.mem_cons.mp hy with rfl | hy
      · exact ⟨_, _, rfl⟩
      · exact a3 y hy
  obtain ⟨fs, a1, a2, a3⟩ := key ks 0 fun j hj => by rw [Nat.zero_add]
  refine kat_kind (T := .type "str") a1 (by omega) (fun x hx => ?_) rfl h
  obtain ⟨y, t, rfl⟩ := a3 x hx
  exact Looks.of_pure rfl

theorem keys_ask {v : List Nat} {ks : List Value} {tups news : List (Addr × Obj)} {s : Shared} (hl : ks.length = v.length) (hK : KeysIn v ks tups) (N : News h₀ L s.heap news) (hm : ∀ p ∈ tups, p ∈ news)
    (i j : Nat) (C : Bool → Shared → Prop) (hi : i < v.length) (hj : j < v.length) (h : C (decide (rnk v i < rnk v j)) s) : kas_ask prog w A (tuples' true) (katRev false ks) i j C s := by
  obtain ⟨c, a, t, u, k, e1, e2, e3⟩ := hK i (by omega)
  obtain ⟨d, b, t', u', k', g1, g2, g3⟩ := hK j (by omega)
  have x1 : ks.getD i Value.none = .ref a := by simp [List.getD_eq_getElem?_getD, e2]
  have x2 : ks.getD j Value.none = .ref b := by simp [List.getD_eq_getElem?_getD, g2]
  have y1 : v.getD i 0 = c := by simp [List.getD_eq_getElem?_getD, e1]
  have y2 : v.getD j 0 = d := by simp [List.getD_eq_getElem?_getD, g1]
  unfold kas_ask
  show wpAny (model prog w) A (keyLt' (tuples' true) (ks.getD i Value.none) (ks.getD j Value.none)) C (fun _ _ => False) s
  rw [x1, x2]
  have hd := rnk_lt hi hj
  unfold KeyLt at hd
  rw [y1, y2] at hd
  refine kat_lt (N _ (hm _ e3)).1 rfl (N _ (hm _ g3)).1 rfl ?_
  show KatLex prog w A true _ C [(.str (S [c]) t, .str (S [d]) t'), (.int (i : Int) u, .int (j : Int) u')] 0 s
  refine kat_cons (wpAny_eqBool_str ?_)
  by_cases hcd : c = d
  · subst hcd
    rw [decide_eq_true rfl]
    refine kat_yes (kat_cons (wpAny_eqBool_int ?_))
    by_cases hij : i = j
    · subst hij
      rw [show (((i : Int) == (i : Int)) : Bool) = true from beq_self_eq_true _]
      refine kat_yes (kat_nil ?_)
      rw [show decide (rnk v i < rnk v i) = false from decide_eq_false (Nat.lt_irrefl _)] at h
      exact h
    · rw [show (((i : Int) == (j : Int)) : Bool) = false from beq_eq_false_iff_ne.mpr (by omega)]
      refine kat_no (kat_one _ _ (lt_int ?_))
      have e : decide ((i : Int) < (j : Int)) = decide (rnk v i < rnk v j) := by
        by_cases hlt : i < j
        · rw [decide_eq_true (by omega), decide_eq_true (hd.mpr (.inr ⟨rfl, hlt⟩))]
        · rw [decide_eq_false (by omega), decide_eq_false]
          intro h5
          rcases hd.mp h5 with h6 | ⟨_, h6⟩ <;> omega
      rw [e]
      exact h
  · rw [show decide (S [c] = S [d]) = false from decide_eq_false (fun q => hcd (by simpa using S_inj q))]
    refine kat_no (show wpAny _ _ (oneLt' true _ _) _ _ _ from oneLt_str ?_)
    have e : decide ((S [c]).cps.toList < (S [d]).cps.toList) = decide (rnk v i < rnk v j) := by
      by_cases hlt : c < d
      · rw [decide_eq_true ((S_lt c d).mpr hlt), decide_eq_true (hd.mpr (.inl hlt))]
      · rw [decide_eq_false (fun q => hlt ((S_lt c d).mp q)), decide_eq_false]
        intro h5
        rcases hd.mp h5 with h6 | ⟨h6, _⟩
        · exact hlt h6
        · exact hcd h6
    rw [e]
    exact h

theorem up_order {v : List Nat} {p : Array Nat} (hp : Good v.length p) (hu : Up (rnk v) p v.length) : p.toList.Perm (List.range v.length) ∧ p.toList.Pairwise (KeyLt v) := by
  have h1 : p.toList.Perm (List.range v.length) := by
    have := Array.perm_iff_toList_perm.mp hp
    simpa using this
  refine ⟨h1, ?_⟩
  have hnd : p.toList.Nodup := h1.nodup_iff.mpr List.nodup_range
  rw [List.pairwise_iff_getElem]
  intro i j hi hj hij
  have hi' : i < p.size := by simpa using hi
  have hj' : j < p.size := by simpa using hj
  have hsz := hp.size
  have ai : p.toList[i] < v.length := by simpa using h1.mem_iff.mp (List.getElem_mem hi)
  have aj : p.toList[j] < v.length := by simpa using h1.mem_iff.mp (List.getElem_mem hj)
  have h2 := hu i j (Nat.le_of_lt hij) (by omega)
  unfold rk at h2
  have e1 : p.getD i 0 = p.toList[i] := by simp [Array.getD_eq_getD_getElem?, hi']
  have e2 : p.getD j 0 = p.toList[j] := by simp [Array.getD_eq_getD_getElem?, hj']
  rw [e1, e2] at h2
  have hne : p.toList[i] ≠ p.toList[j] := List.pairwise_iff_getElem.mp hnd i j hi hj hij
  refine (rnk_lt ai aj).mp (Nat.lt_of_le_of_ne h2 fun q => hne ?_)
  have h3 : ¬ KeyLt v p.toList[i] p.toList[j] := fun h => by
    have := (rnk_lt ai aj).mpr h
    omega
  have h4 : ¬ KeyLt v p.toList[j] p.toList[i] := fun h => by
    have := (rnk_lt aj ai).mpr h
    omega
  unfold KeyLt at h3 h4
  omega

theorem idx_le {c : Nat} : ∀ {l : List Nat} {i : Nat}, l[i]? = some c → l.idxOf c ≤ i
  | [], i, h => by simp at h
  | a :: l, 0, h => by
    have : a = c := by simpa using h
    subst this
    simp
  | a :: l, i + 1, h => by
    have := idx_le (l := l) (i := i) (by simpa using h)
    rw [List.idxOf_cons]
    cases a == c
    · simp only [cond_false]; omega
    · simp
/-- the first place of a sign -/
theorem find_idx {x : Str} {c : Nat} (hc : c ∈ cps x) : Txt.find x (S [c]) = ((cps x).idxOf c : Nat) := by
  have at_iff : ∀ i, StrLaws.At x (S [c]) x.length i ↔ (cps x)[i]? = some c := fun i => StrLaws.subAt_one x c i
  rcases find_whole x (S [c]) with ⟨_, hn⟩ | ⟨i, h1, h2, h3⟩
  · have hlt := List.idxOf_lt_length_of_mem hc
    exact absurd ((at_iff _).mpr (by rw [List.getElem?_eq_getElem hlt, List.getElem_idxOf])) (hn ((cps x).idxOf c))
  · rw [h1]
    have hi := (at_iff i).mp h2
    have hlt := List.idxOf_lt_length_of_mem hc
    have hil : i < (cps x).length := (List.getElem?_eq_some_iff.mp hi).1
    have a1 : ¬ (cps x).idxOf c < i := fun h => h3 _ h ((at_iff _).mpr (by rw [List.getElem?_eq_getElem hlt, List.getElem_idxOf]))
    have a2 := idx_le hi
    congr 1
    omega
theorem index_text {x : Str} {c : Nat} {t u : Tok} {s : Shared} {Q : Value → Shared → Prop} (hA : A.handled = none) (hc : c ∈ cps x) (h : Q (.int ((cps x).idxOf c : Nat) s.toks) { s with toks := s.toks + 1 }) :
    wpAny (model prog w) A (call (.builtin "str.index") [.str x t, .str (S [c]) u]) Q E s := by
  have e := find_idx hc
  refine index_or hA (fun h0 => ?_) fun _ _ => by rw [e]; exact h
  rw [e] at h0
  omega
end
end Mine
end
section
open PySem PySem.W PySem.Calls PyProof.Rows
set_option maxRecDepth 100000
set_option maxHeartbeats 8000000
namespace Mine
theorem fill1 : PySem.Challenge.rw_eu0040_01 = PySem.Challenge.rw_eu0040_01 ∧ hd.heap_39 = hd.heap_39 := by k_fill; exact ⟨rfl, rfl⟩

local macro_rules | `(tactic| k_steps) => `(tactic| repeat' (first | (k_unfold; (try dsimp only)) | (k_end; kc_close) | ((fail_if_success (first | (with_reducible show wpAny _ _ (exec (Stmt.For _ _ _ _ _) _) _ _ _) | (with_reducible show wpAny _ _ (exec (Stmt.While _ _ _ _) _) _ _ _))); first | walk1 | (dsimp only; walk1) | (leave1; walk_say "STEP leave1"; (try dsimp only))) | fail "no step"))

abbrev StR := Str × Tok × Str × Tok
local macro_rules | `(tactic| walk_at "binaryOp Add str str") => `(tactic| (k_here; (with_reducible show wpAny _ _ (binaryOp Operator.Add (Value.str _ _) (Value.str _ _)) _ _ _); (refine' add_texts ?kxaa ?kxab ?_; (case kxaa => first | omega | (simp only [len_S, List.length_replicate, Str.length_append] at *; omega)); (case kxab => first | omega | (show (S _).length ≤ 5000; simp only [len_S, List.length_replicate, List.length_cons, List.length_nil] at *; omega))); intro _ _))
local macro_rules | `(tactic| walk_at "binaryOp Mult str int") => `(tactic| (k_here; (with_reducible show wpAny _ _ (binaryOp Operator.Mult (Value.str _ _) (Value.int _ _)) _ _ _); (refine' mul_letter ?kxaa ?kxab ?_; (case kxaa => omega); (case kxab => omega)); intro _ _))
local macro_rules | `(tactic| walk_at "call type:int") => `(tactic| (k_here; (with_reducible show wpAny _ _ (call (Value.type "int") [Value.str _ _]) _ _ _); (refine' int_text ?kxaa ?kxab ?kxac ?_; (case kxaa => assumption); (case kxab => (first | assumption | (intro hE; rename (_ != _) = true => hB; exact absurd ((ne_empty hB).mp hE) (by decide)))); (case kxac => omega))))

local macro_rules | `(tactic| walk_at "compareOp In str str") => `(tactic| (k_here; (with_reducible show wpAny _ _ (compareOp CmpOp.In (Value.str _ _) (Value.str (Str.ofString "0123456789") _)) _ _ _); k_dflt (refine' in_digits ?kxaa ?_; (case kxaa => assumption))))

theorem law_read (x : Str) (tx : Tok) (hx : x.length ≤ 400) (hr : (rd (cps x)).1.length ≤ 400) : Ctr 250 [.str x tx] 1 8 (fun t => .str (S (rd (cps x)).1) t) := by
  intro prog w p loose mean mg mb news dp un gd cn cs a ccd cl outer A₀ base h₀ L m s Q E B F X N T hk hd hu hret
  refine wpAny_call ?_
  k_dflt cell_enter
  k_steps
  rename Fr _ _ _ _ => F1
  rename News _ _ _ _ => N1
  k_here
  with_unfolding_all refine' For_invVF F1 ?k1 ?k2 ?_ ?_ PassesOwn.leaving
  case k1 => exact rfl
  case k2 => exact rfl
  · k_steps
    with_unfolding_all refine' KStt.kst_text (σ := StR) (fun _ => news) (fun c => [("word", .str c.1 c.2.1), ("count", .str c.2.2.1 c.2.2.2)]) (fun _ => True) [] (fun pre c => InvR (pre.map Int.toNat) c.1 c.2.2.1) (_, _, _, _) rfl F1 (kst_newsOf N1 (by kst_in)) trivial ?hk ?hp ?turn ?done
    case hk => kst_all
    case hp => rfl
    case turn =>
      rintro ⟨word, tw, count, tc⟩ pre post n t u h tk own hx1 hoff hT hI F2 N2
      clear F1 N1
      dsimp only [kstB] at F2
      dsimp only at hI N2
      have hx2 := codes_split hx1
      obtain ⟨f1, f2, f3, f4⟩ := rd_facts hx2 hr hx hI
      cases hdig : isDig n with
      | true =>
        k_steps
        rename Fr _ _ _ _ => F5
        rename News _ _ _ _ => N5
        refine' kst_end (word, _, count ++ S [n], _) F5 N5 (by kst_inAny) (by kst_inAny) rfl trivial ?a1 ?a2 ?a3
        case a1 => kst_all
        case a2 => kst_same
        case a3 => rw [map_snoc]; exact invR_dig hdig hI
      | false =>
        have f5 := f4 hdig
        k_steps
        · rename Fr _ _ _ _ => F5
          rename News _ _ _ _ => N5
          refine' kst_end (word ++ S (List.replicate (Int.toNat ((worth (cps count) : Nat) : Int)) n), _, Str.ofString "", _) F5 N5 (by kst_inAny) (by kst_inAny) rfl trivial ?a1 ?a2 ?a3
          case a1 => kst_all
          case a2 => kst_same
          case a3 => rw [map_snoc, Int.toNat_natCast]; exact invR_sign hdig hI
        · rename Fr _ _ _ _ => F5
          rename News _ _ _ _ => N5
          rename (_ != _) = false => hB
          have hw : (1 : Int).toNat = worth (cps count) := by rw [(ne_empty hB).mpr rfl]; rfl
          refine' kst_end (word ++ S (List.replicate (Int.toNat 1) n), _, Str.ofString "", _) F5 N5 (by kst_inAny) (by kst_inAny) rfl trivial ?a1 ?a2 ?a3
          case a1 => kst_all
          case a2 => kst_same
          case a3 => rw [map_snoc, hw]; exact invR_sign hdig hI
    case done =>
      rintro ⟨word, tw, count, tc⟩ u h tk hT hI F2 N2
      clear F1 N1
      dsimp only [kstB] at F2
      dsimp only at hI N2
      k_steps
      rename Fr _ _ _ _ => F9
      rename News _ _ _ _ => N9
      have e : word = S (rd (cps x)).1 := by
        rw [codes_all] at hI
        rw [← S_cps word]
        exact congrArg S (congrArg Prod.fst hI)
      rw [e]
      exact hret _ _ _ F9 N9
  · intro _; rfl
end Mine
end
section
open PySem PySem.W PySem.Calls PyProof.Rows
set_option maxRecDepth 100000
set_option maxHeartbeats 8000000
namespace Mine
theorem fill2 : PySem.Challenge.rw_eu0040_01 = PySem.Challenge.rw_eu0040_01 ∧ hd.heap_39 = hd.heap_39 := by k_fill; exact ⟨rfl, rfl⟩

local macro_rules | `(tactic| k_steps) => `(tactic| repeat' (first | (k_unfold; (try dsimp only)) | (k_end; kc_close) | ((fail_if_success (first | (with_reducible show wpAny _ _ (exec (Stmt.For _ _ _ _ _) _) _ _ _) | (with_reducible show wpAny _ _ (exec (Stmt.While _ _ _ _) _) _ _ _))); first | walk1 | (dsimp only; walk1) | (leave1; walk_say "STEP leave1"; (try dsimp only))) | fail "no step"))
local macro_rules | `(tactic| walk_at "binaryOp Mult int str") => `(tactic| (k_here; (with_reducible show wpAny _ _ (binaryOp Operator.Mult (Value.int 2 _) (Value.str (S [_]) _)) _ _ _); (refine two_signs ?_); intro _ _))
local macro_rules | `(tactic| walk_at "call builtin:str.join") => `(tactic| (k_here; (with_reducible show wpAny _ _ (call (Value.builtin "str.join") [Value.str _ _, Value.ref _]) _ _ _); k_dflt (refine' join_list (News.isList (by k_asm) (by k_mem)) (by assumption) ?hok ?_; (case hok => assumption)); intro _ _))

abbrev StA := Int × Tok × List Value × List Str × Nat
abbrev StB := Int × Tok

theorem rle_code (x : Str) (tx : Tok) (self : Addr) (hx : x.length ≤ 400)
    (prog : Program) (w : World) (p : Program) (loose : List Str) (mean : ExcName → Option Value) (mg mb : Str → Option Value) (news : List (Addr × Obj))
    (dp un : Nat) (gd : Option (List Code)) (cn : Str) (cs : Scope) (a : Addr) (ccd : Value) (cl : List (Str × Addr)) (outer : List Env) (A₀ : Around) (base h₀ : Heap) (L : Addr) (m : Str → Option Value) (s : Shared) (Q E : Value → Shared → Prop)
    (B : Below A₀ base outer h₀) (F : Fr h₀ L s.heap m) (X : (hd.heap_39 w.params).In h₀) (N : News h₀ L s.heap news) (T : Top p loose mean mg mb h₀) (hk : cs.kind = .function)
    (hd : dp + 1 < recursionLimit) (hu : un + 8 < cLine)
    (hret : ∀ (t : Tok) (h' : Heap) (tk' : Nat), Fr h₀ L h' m → News h₀ L h' news → Q (.str (S (rle (cps x))) t) { s with heap := h', toks := tk' }) :
    codeAny (model prog w) (ktrTop dp un gd cn cs L a ccd cl outer) (.call (.ref 202) ⟨[.ref self, .str x tx], []⟩) (fun r s' => match r with | .ok (.ret v) => Q v s' | .ok _ => False | .error e => E e s') s := by
  have hxl := len_cps x
  k_dflt cell_enter
  k_steps
  rename Fr _ _ _ _ => F1
  rename News _ _ _ _ => N1
  rename (∀ q : Addr × Obj, q ∈ news → q.fst < _) => lt1
  k_here
  with_unfolding_all refine' ksw_join (σ := StA) (fun c => (_, W.listOf c.2.2.1.toArray c.2.2.2.2) :: news) (fun c => [("place", .int c.1 c.2.1)]) (fun c => StrsAre c.2.2.1 c.2.2.2.1) ["k", "n"]
                                (fun c => InvA (cps x) c.1 c.2.2.2.1) (fun c => x.length - c.1.toNat) (fun c => InvA (cps x) c.1 c.2.2.2.1 ∧ ¬ c.1 < (x.length : Int)) (0, _, [], [], _) F1 N1 .nil ?hk ?hp PassesOwn.leaving ?turn ?after
  case hk => kst_all
  case hp => exact invA_start _
  case turn =>
    rintro ⟨place, tp, vs, ss, e⟩ u h tk hS hA F2 N2
    clear F1 N1
    dsimp only [kstB] at F2
    dsimp only at hS hA N2
    have i1 := hA.1
    have i2 := hA.2.1
    have i3 := hA.2.2.1
    rw [hxl] at i2
    k_steps
    · rename Fr _ _ _ _ => F3
      rename News _ _ _ _ => N3
      rename (_ < (x.length : Int)) => lt2
      obtain ⟨c, hc⟩ := at_some i1 lt2
      rw [item_S i1 hc] at F3
      k_here
      with_unfolding_all refine' ksw_join (σ := StB) (fun _ => _) (fun c => [("n", .int c.1 c.2)]) (fun _ => True) [] (fun d => InvB (cps x) c place d.1) (fun d => x.length - (place + d.1).toNat) (fun d => InvB (cps x) c place d.1 ∧ d.1.toNat = 1 + twl (cps x) c (place + 1).toNat) (1, _) F3 N3 trivial ?hk2 ?hp2 PassesOwn.leaving ?turn2 ?after2
      case hk2 => kst_all
      case hp2 => exact invB_start i1 (by omega)
      case turn2 =>
        rintro ⟨n, tn⟩ u2 h2 tk2 hT hB F4 N4
        clear F3 N3
        dsimp only [kstB] at F4
        dsimp only at hB N4
        have j1 := hB.1
        have j2 := hB.2.1
        rw [hxl] at j2
        k_steps
        · rename Fr _ _ _ _ => F5
          rename News _ _ _ _ => N5
          rename (_ == _) = true => he
          rename place + n < (x.length : Int) => lt3
          obtain ⟨d, hd2⟩ := at_some (x := x) (i := place + n) (by omega) lt3
          rw [item_S (by omega) hd2] at he
          have hdc : d = c := by simpa [S] using he
          subst hdc
          with_unfolding_all refine' ksw_end (n + 1, _) F5 N5 ?a1 trivial ?a2 ?a3 ?a4 ?a5
          case a1 => kst_in
          case a2 => kst_all
          case a3 => ksw_same
          case a4 => exact invB_step i1 hB hd2
          case a5 => dsimp only; omega
        · rename (_ == _) = false => he
          rename place + n < (x.length : Int) => lt3
          obtain ⟨d, hd2⟩ := at_some (x := x) (i := place + n) (by omega) lt3
          rw [item_S (by omega) hd2] at he
          have hdc : d ≠ c := by simpa [S] using he
          exact ⟨(n, tn), u2, _, _, rfl, trivial, ⟨hB, invB_end2 hB hd2 hdc⟩, F4, N4⟩
        · rename ¬ (place + n < (x.length : Int)) => lt3
          exact ⟨(n, tn), u2, _, _, rfl, trivial, ⟨hB, invB_end1 hB (by omega)⟩, F4, N4⟩
      case after2 =>
        rintro ⟨n, tn⟩ u2 h2 tk2 hT ⟨hB, hn⟩ F4 N4
        clear F3 N3
        dsimp only [kstB] at F4
        dsimp only at hB hn N4
        have j1 := hB.1
        have j2 := hB.2.1
        rw [hxl] at j2
        have en : ((n.toNat : Nat) : Int) = n := by omega
        have es : Str.ofString (toString n) = S (dig n.toNat) := by rw [← en]; exact dig_str _
        k_steps
        · rename 2 < n => lt3
          rename Fr _ _ _ _ => F5
          rename News _ _ _ _ => N5
          rw [es, S_append] at N5
          simp only [List.push_toArray] at N5
          with_unfolding_all refine' ksw_end (place + n, _, vs ++ [Value.str (S (dig n.toNat ++ [c])) _], ss ++ [S (dig n.toNat ++ [c])], _) F5 N5 ?a1 (StrsAre.append' hS (.cons _ _ .nil)) ?a2 ?a3 ?a4 ?a5
          case a1 => kst_in
          case a2 => kst_all
          case a3 => ksw_same
          case a4 => exact invA_step hA hc hB hn (chunk_big (by omega))
          case a5 => dsimp only; omega
        · rename ¬ 2 < n => lt3
          rename n = 1 => lt4
          rename Fr _ _ _ _ => F5
          rename News _ _ _ _ => N5
          simp only [List.push_toArray] at N5
          with_unfolding_all refine' ksw_end (place + n, _, vs ++ [Value.str (S [c]) _], ss ++ [S [c]], _) F5 N5 ?a1 (StrsAre.append' hS (.cons _ _ .nil)) ?a2 ?a3 ?a4 ?a5
          case a1 => kst_in
          case a2 => kst_all
          case a3 => ksw_same
          case a4 => exact invA_step hA hc hB hn (by rw [show n.toNat = 1 by omega]; rfl)
          case a5 => dsimp only; omega
        · rename ¬ 2 < n => lt3
          rename n ≠ 1 => lt4
          rename Fr _ _ _ _ => F5
          rename News _ _ _ _ => N5
          simp only [List.push_toArray] at N5
          with_unfolding_all refine' ksw_end (place + n, _, vs ++ [Value.str (S [c, c]) _], ss ++ [S [c, c]], _) F5 N5 ?a1 (StrsAre.append' hS (.cons _ _ .nil)) ?a2 ?a3 ?a4 ?a5
          case a1 => kst_in
          case a2 => kst_all
          case a3 => ksw_same
          case a4 => exact invA_step hA hc hB hn (by rw [show n.toNat = 2 by omega]; rfl)
          case a5 => dsimp only; omega
    · rename ¬ (place < (x.length : Int)) => lt3
      exact ⟨(place, tp, vs, ss, e), u, _, _, rfl, hS, ⟨hA, lt3⟩, F2, N2⟩
  case after =>
    rintro ⟨place, tp, vs, ss, e⟩ u h tk hS ⟨hA, hlt⟩ F2 N2
    clear F1 N1
    dsimp only [kstB] at F2
    dsimp only at hS hA N2 hlt
    have i4 := invA_sum (by omega) hA
    have hjoin : (ss.map (·.length)).sum + ss.length * (Str.ofString "").length ≤ 16777216 := by
      show _ + _ * 0 ≤ _
      omega
    k_steps
    rename Fr _ _ _ _ => F9
    rename News _ _ _ _ => N9
    rw [txt_join_nil, invA_end hA (by omega)]
    exact hret _ _ _ F9 (kst_newsOf N9 (by kst_in))
theorem rle_compress (x : Str) (tx : Tok) (self : Addr) (hx : x.length ≤ 400) : Ctr 202 [.ref self, .str x tx] 1 8 (fun t => .str (S (rle (cps x))) t) :=
  fun prog w p loose mean mg mb news dp un gd cn cs a ccd cl outer A₀ base h₀ L m s Q E B F X N T hk hd hu hret =>
    wpAny_call (rle_code x tx self hx prog w p loose mean mg mb news dp un gd cn cs a ccd cl outer A₀ base h₀ L m s Q E B F X N T hk hd hu hret)
end Mine
end
section
open PySem PySem.W PySem.Calls PyProof.Rows
set_option maxRecDepth 100000
set_option maxHeartbeats 8000000
namespace Mine
theorem fill3 : PySem.Challenge.rw_eu0040_01 = PySem.Challenge.rw_eu0040_01 ∧ hd.heap_39 = hd.heap_39 := by k_fill; exact ⟨rfl, rfl⟩

local macro_rules | `(tactic| k_steps) => `(tactic| repeat' ((fail_if_success (first | (with_reducible show wpAny _ _ (exec (Stmt.For _ _ _ _ _) _) _ _ _) | (with_reducible show wpAny _ _ (exec (Stmt.While _ _ _ _) _) _ _ _) | (with_reducible show wpAny _ _ (call (Value.type "enumerate") _) _ _ _) | (with_reducible show RowNext _ _ _ _ _ _ _ _ _) | (with_reducible show InvEndG _ _ _ _ _ _) | (with_reducible show InvEndN _ _ _ _ _ _ _))); first | (k_unfold; (try dsimp only)) | (k_end; kc_close) | ((with_reducible show wpAny _ _ (execs _ _) _ _ _); dsimp only; walk1) | walk1 | (dsimp only; walk1) | (leave1; walk_say "STEP leave1"; (try dsimp only)) | fail "no step"))
local macro_rules | `(tactic| walk_at "binaryOp Add str str") => `(tactic| (k_here; (with_reducible show wpAny _ _ (binaryOp Operator.Add (Value.str _ _) (Value.str _ _)) _ _ _); (refine' add_texts ?kxaa ?kxab ?_; (case kxaa => first | omega | (simp only [len_S, List.length_replicate, Str.length_append] at *; omega)); (case kxab => first | omega | (show (S _).length ≤ 5000; simp only [len_S, List.length_replicate, List.length_cons, List.length_nil] at *; omega))); intro _ _))
local macro_rules | `(tactic| walk_at "compareOp In str str") => `(tactic| (k_here; (with_reducible show wpAny _ _ (compareOp CmpOp.In (Value.str _ _) (Value.str (Str.ofString "0123456789") _)) _ _ _); k_dflt (refine' in_digits ?kxaa ?_; (case kxaa => assumption))))

local macro_rules | `(tactic| walk_at "compareOp NotEq str str") => `(tactic| (k_here; (with_reducible show wpAny _ _ (compareOp CmpOp.NotEq (Value.str _ _) (Value.str _ _)) _ _ _); k_dflt (refine' ne_known ?kxaa ?_; (case kxaa => assumption))))
local macro_rules | `(tactic| walk_at "compareOp Eq str str") => `(tactic| (k_here; (with_reducible show wpAny _ _ (compareOp CmpOp.Eq (Value.str _ _) (Value.str _ _)) _ _ _); k_dflt (refine' eq_known ?kxaa ?_; (case kxaa => assumption))))
local macro_rules | `(tactic| walk_at "subscriptTail Name BinOp ref int") => `(tactic| (k_here; (with_reducible show wpAny _ _ (subscriptTail _ _ (Value.ref _) (Value.int _ _)) _ _ _); k_dflt (refine' led_item ?kxaa ?kxab ?kxac ?kxad ?kxae ?_ ?kxaf; (case kxae => assumption); (case kxaa => k_asm); (case kxab => k_mem); (case kxac => omega); (case kxad => omega); (case kxaf => with_unfolding_all rfl))))

local macro_rules | `(tactic| walk_at "subscriptTail") => `(tactic| (k_here; (with_reducible show wpAny _ _ (subscriptTail _ _ (Value.ref _) (Value.int 0 _)) _ _ _); k_dflt (refine' pair_0 ?kxaa ?kxab ?_ ?kxaf; (case kxaa => k_asm); (case kxab => first | assumption | (refine List.mem_append.mpr (.inl ?_); first | assumption | (refine List.Mem.tail _ ?_; refine List.mem_append.mpr (.inl ?_); assumption))); (case kxaf => with_unfolding_all rfl))))
local macro_rules | `(tactic| walk_at "subscriptTail") => `(tactic| (k_here; (with_reducible show wpAny _ _ (subscriptTail _ _ (Value.ref _) (Value.int 1 _)) _ _ _); k_dflt (refine' pair_1 ?kxaa ?kxab ?_ ?kxaf; (case kxaa => k_asm); (case kxab => first | assumption | (refine List.mem_append.mpr (.inl ?_); first | assumption | (refine List.Mem.tail _ ?_; refine List.mem_append.mpr (.inl ?_); assumption))); (case kxaf => with_unfolding_all rfl))))
local macro_rules | `(tactic| walk_at "call ref") => `(tactic| (k_here; (with_reducible show wpAny _ _ (call (Value.ref 250) [Value.str _ _]) _ _ _); k_dflt (refine' Ctr.use (law_read _ _ ?c1 ?c2) ?k1 ?k2 ?k3 ?k4 ?k5 ?kK ?kd ?ku ?kR; (case c1 => assumption); (case c2 => assumption); (case k1 => k_asm); (case k2 => k_asm); (case k3 => k_asm); (case k4 => k_asm); (case k5 => k_asm); (case kK => first | exact rfl | assumption); (case kd => ktr_room); (case ku => ktr_units); intro t9 h9 tk9 F9 N9; (try dsimp only); (try k_fold))))

local macro_rules | `(tactic| walk_at "call type:int") => `(tactic| (k_here; (with_reducible show wpAny _ _ (call (Value.type "int") [Value.str _ _]) _ _ _); (refine' int_text ?kxaa ?kxab ?kxac ?_; (case kxaa => assumption); (case kxab => assumption); (case kxac => omega))))

theorem ints_nats (l : List Nat) : (l.map fun n : Nat => (n : Int)).map Int.toNat = l := by rw [List.map_map]; exact (List.map_congr_left fun c _ => Int.toNat_natCast c).trans (List.map_id _)
theorem ints_inv {rows : List Row} {count : Str} {l : List Nat} (h : InvW l rows count) : InvW ((l.map fun n : Nat => (n : Int)).map Int.toNat) rows count := by rw [ints_nats]; exact h
abbrev StW := List Value × List (Addr × Obj) × List Row × Nat × Str × Tok

theorem law_short (x y : Str) (tx ty : Tok) (hx : x.length ≤ 400) (hrd : (rd (cps x)).1 = cps y) (hy : y.length ≤ 400) (hcount : (rw' (cps x)).2 = []) (hgood : RowsGood (rw' (cps x)).1) : Ctr 257 [.str x tx, .str y ty] 2 16 (fun _ => .bool true) := by
  intro prog w p loose mean mg mb news dp un gd cn cs a ccd cl outer A₀ base h₀ L m s Q E B F X N T hk hd hu hret
  refine wpAny_call ?_
  k_dflt cell_enter
  k_steps
  rename Fr _ _ _ _ => F1
  rename News _ _ _ _ => N1
  rename_i l0 hh0 lt1 D0 hh1 lt2 hh2 hh3 hh4
  k_here
  with_unfolding_all refine' For_invVF F1 ?k1 ?k2 ?_ ?_ PassesOwn.leaving
  case k1 => exact rfl
  case k2 => exact rfl
  · k_steps
    with_unfolding_all refine' text_loop (fun pre => KstS (σ := StW) (fun c => (l0, W.listOf c.1.toArray c.2.2.2.1) :: (c.2.1 ++ news)) (fun c => [("count", .str c.2.2.2.2.1 c.2.2.2.2.2)]) (fun c => RowsIn c.2.1 c.1 c.2.2.1 ∧ ∀ p ∈ c.2.1, p.1 ≠ l0) "sign" [] _ (fun l c => InvW (l.map Int.toNat) c.2.2.1 c.2.2.2.2.1) (pre.map fun n : Nat => (n : Int))) rfl F1 (kst_newsOf N1 ?hn) ⟨([], [], [], 0, _, _), rfl, ⟨rowsIn_nil, fun _ hp => nomatch hp⟩, ?hk, fun _ _ _ _ => rfl, ?hp⟩ ?turn ?done
    case hk => kst_all
    case hp => rfl
    case hn => kst_in
    case turn =>
      rintro pre post n t m₁ nx h tk own hx2 hoff ⟨⟨vs, tups, rows, e, count, tc⟩, rfl, ⟨hR, hT0⟩, hm1, hm2, hI⟩ F2 N2
      replace F2 := kst_fr hm1 hm2 F2
      replace hI : InvW pre rows count := by rw [← ints_nats pre]; exact hI
      clear F1 N1
      dsimp only [kstB] at F2
      dsimp only at hI N2 hR hoff hT0
      obtain ⟨f1, f2⟩ := invW_len hx2 hx hI
      have own0 : ∀ p ∈ own, p.1 ≠ l0 := fun p hp => hoff p hp l0 (List.mem_cons_self ..)
      have all0 : ∀ p ∈ (tups ++ news) ++ own, p.1 ≠ l0 := by
        intro p hp
        rcases List.mem_append.mp hp with hp | hp
        · rcases List.mem_append.mp hp with hp | hp
          · exact hT0 p hp
          · exact Nat.ne_of_lt (lt1 p hp)
        · exact own0 p hp
      cases hdig : isDig n with
      | true =>
        k_steps
        rename Fr _ _ _ _ => F5
        rename News _ _ _ _ => N5
        refine' InvEndG.intro F5 N5 ⟨(vs, tups, rows, e, count ++ S [n], _), rfl, ⟨hR, hT0⟩, ?a1, ?a2, ?a3⟩ hoff (by intro p hp; exact List.mem_append.mpr (.inl hp)) (by intro p hp; exact List.mem_append.mpr (.inr hp))
        case a1 => kst_all
        case a2 => kst_same
        case a3 => exact ints_inv (invW_dig hdig hI)
      | false =>
        k_steps
        rename Fr _ _ _ _ => F5
        rename News _ _ _ _ => N5
        rename (∀ q : Addr × Obj, q ∈ _ → q.fst < _) => lt3
        have lt4 := lt3 (l0, W.listOf vs.toArray e) (List.mem_append.mpr (.inl (List.mem_cons_self ..)))
        have hown : ∀ p ∈ own, _ := fun p hp => lt3 p (List.mem_append.mpr (.inr hp))
        refine append_K F5 N5 (Upd.tail (Nat.ne_of_gt lt4) (Upd.head all0)) (fun h6 F6 N6 => ?_) (by rw [List.size_toArray, hR.1, sizeLine_eq]; omega)
        clear F5 N5
        k_steps
        rename Fr _ _ _ _ => F5
        rename News _ _ _ _ => N5
        simp only [List.push_toArray] at N5
        refine' InvEndG.intro F5 N5 ⟨(vs ++ [_], (_, tup2 (.str (S [n]) _) (.str count _) _) :: tups, rows ++ [(n, cps count)], e + 1, Str.ofString "", _), rfl, ⟨rowsIn_snoc hR, ?b4⟩, ?a1, ?a2, ?a3⟩ ?b3 led_mem1 led_mem2
        case b3 => exact ownOff_swap hoff hown
        case b4 => exact List.forall_mem_cons.mpr ⟨Nat.ne_of_gt lt4, hT0⟩
        case a1 => kst_all
        case a2 => kst_same
        case a3 => exact ints_inv (invW_sign hdig hI)
    case done =>
      rintro m₁ nx h tk ⟨⟨vs, tups, rows, e, count, tc⟩, rfl, ⟨hR, hT0⟩, hm1, hm2, hI⟩ F2 N2
      replace F2 := kst_frOut hm1 hm2 F2
      replace hI : InvW (cps x) rows count := by rw [← ints_nats (cps x)]; exact hI
      clear F1 N1
      dsimp only [kstB] at F2
      dsimp only at hI N2 hR hT0
      have hrw : rw' (cps x) = (rows, cps count) := hI.symm
      rw [hrw] at hcount hgood
      dsimp only at hcount hgood
      k_steps
      k_here
      refine wpAny_For ?_ (by intro _; rfl)
      k_steps
      k_here
      with_unfolding_all refine' enum_rows rfl ?g1 ?g2 ?g3 ?g4 F2 N2 (List.mem_cons_self ..) (fun i v hv => ?gp) ?turn2 ?done2
      case g1 => exact rfl
      case g2 => exact rfl
      case g3 => exact rfl
      case g4 => exact rfl
      case gp =>
        obtain ⟨a1, v0, v1, k1, e1, e2⟩ := rowsIn_pairs hR i v hv
        exact ⟨a1, v0, v1, k1, e1, List.mem_cons_of_mem _ (List.mem_append.mpr (.inl e2))⟩
      case turn2 =>
        intro i a1 v0 v1 k1 t1 h1 tk1 own hv1 hm1 hoff F3 N3
        obtain ⟨r, t2, z, u2, k2, hri, hz, hm2⟩ := rowsIn_at hR hv1
        have e1 := news_uniq N2 hm1 (List.mem_cons_of_mem _ (List.mem_append.mpr (.inl hm2)))
        cases e1
        have hil : i < rows.length := (List.getElem?_eq_some_iff.mp hri).1
        have hrl : rows.length ≤ 400 := by
          have h5 := rw_rows (cps x) ([], [])
          have h6 : (cps x).foldl rwStep ([], []) = (rows, cps count) := hrw
          rw [h6, len_cps] at h5
          simp only [List.length_nil] at h5
          omega
        obtain ⟨g1, g2, g3⟩ := hgood i r hri
        have hzl : z.length ≤ 400 := by rw [← len_cps, hz]; exact g2
        clear hm1 F2 hgood
        by_cases hne : r.2 = []
        · have b1 : (z != Str.ofString "") = false := by rw [ne_empty_of, hz, hne]; rfl
          by_cases hi0 : i = 0
          · k_steps
            rename Fr _ _ _ _ => F5
            rename News _ _ _ _ => N5
            exact rowNext_end F5 N5 (fun p hp => List.mem_append.mpr (.inl hp)) (fun p hp => List.mem_append.mpr (.inr hp)) (by intro z hz; simp only [List.contains_cons, List.contains_nil, Bool.or_false, Bool.or_eq_false_iff, beq_eq_false_iff_ne, ne_eq] at hz; simp [hz])
          · obtain ⟨a2, t3, y3, u3, k3, hv2, hc2, hm3⟩ := hR.2 (i - 1) rows[i - 1] (List.getElem?_eq_getElem (by omega))
            have hv2' : vs[((i : Int) - 1).toNat]? = some (.ref a2) := by rw [show ((i : Int) - 1).toNat = i - 1 by omega]; exact hv2
            by_cases heq : rows[i - 1].1 = r.1
            · obtain ⟨p1, p2, p3⟩ := g3 (by omega) _ (List.getElem?_eq_getElem (by omega)) heq
              have b2 : (S [rows[i - 1].1] == S [r.1]) = true := by rw [S_beq, decide_eq_true (by simpa using heq)]
              have hy3 : y3.length ≤ 400 := by rw [← len_cps, hc2, p2]; simp
              have b3 : (z ++ y3 != Str.ofString "") = false := by rw [ne_empty_of, cps_app, hz, hc2, hne, p2]; rfl
              by_cases hi1 : i = 1
              · k_steps
                rename Fr _ _ _ _ => F5
                rename News _ _ _ _ => N5
                exact rowNext_end F5 N5 (fun p hp => List.mem_append.mpr (.inl hp)) (fun p hp => List.mem_append.mpr (.inr hp)) (by intro z hz; simp only [List.contains_cons, List.contains_nil, Bool.or_false, Bool.or_eq_false_iff, beq_eq_false_iff_ne, ne_eq] at hz; simp [hz])
              · obtain ⟨a3, t4, y4, u4, k4, hv3, hc3, hm4⟩ := hR.2 (i - 2) rows[i - 2] (List.getElem?_eq_getElem (by omega))
                have hv3' : vs[((i : Int) - 2).toNat]? = some (.ref a3) := by rw [show ((i : Int) - 2).toNat = i - 2 by omega]; exact hv3
                have p4 := p3 (by omega) _ (List.getElem?_eq_getElem (by omega))
                have b4 : (S [rows[i - 2].1] == S [r.1]) = false := by rw [S_beq, decide_eq_false (by simpa using p4)]
                k_steps
                rename Fr _ _ _ _ => F5
                rename News _ _ _ _ => N5
                exact rowNext_end F5 N5 (fun p hp => List.mem_append.mpr (.inl hp)) (fun p hp => List.mem_append.mpr (.inr hp)) (by intro z hz; simp only [List.contains_cons, List.contains_nil, Bool.or_false, Bool.or_eq_false_iff, beq_eq_false_iff_ne, ne_eq] at hz; simp [hz])
            · have b2 : (S [rows[i - 1].1] == S [r.1]) = false := by rw [S_beq, decide_eq_false (by simpa using heq)]
              k_steps
              rename Fr _ _ _ _ => F5
              rename News _ _ _ _ => N5
              exact rowNext_end F5 N5 (fun p hp => List.mem_append.mpr (.inl hp)) (fun p hp => List.mem_append.mpr (.inr hp)) (by intro z hz; simp only [List.contains_cons, List.contains_nil, Bool.or_false, Bool.or_eq_false_iff, beq_eq_false_iff_ne, ne_eq] at hz; simp [hz])
        · have b1 : (z != Str.ofString "") = true := by rw [ne_empty_of, hz, decide_eq_false hne]; rfl
          obtain ⟨q1, q2, q3⟩ := g1 hne
          rw [← hz] at q1 q2 q3
          have hzn : cps z ≠ [] := by rw [hz]; exact hne
          have hz1 : 1 ≤ z.length := by
            rw [← len_cps]
            exact List.length_pos_iff.mpr hzn
          have b0 : (Txt.item z 0 == Str.ofString "0") = false := item_ne_zero hzn q1
          by_cases hi0 : i = 0
          · k_steps
            rename Fr _ _ _ _ => F5
            rename News _ _ _ _ => N5
            exact rowNext_end F5 N5 (fun p hp => List.mem_append.mpr (.inl hp)) (fun p hp => List.mem_append.mpr (.inr hp)) (by intro z hz; simp only [List.contains_cons, List.contains_nil, Bool.or_false, Bool.or_eq_false_iff, beq_eq_false_iff_ne, ne_eq] at hz; simp [hz])
          · obtain ⟨a2, t3, y3, u3, k3, hv2, hc2, hm3⟩ := hR.2 (i - 1) rows[i - 1] (List.getElem?_eq_getElem (by omega))
            have hv2' : vs[((i : Int) - 1).toNat]? = some (.ref a2) := by rw [show ((i : Int) - 1).toNat = i - 1 by omega]; exact hv2
            by_cases heq : rows[i - 1].1 = r.1
            · exact absurd (g3 (by omega) _ (List.getElem?_eq_getElem (by omega)) heq).1 hne
            · have b2 : (S [rows[i - 1].1] == S [r.1]) = false := by rw [S_beq, decide_eq_false (by simpa using heq)]
              k_steps
              rename Fr _ _ _ _ => F5
              rename News _ _ _ _ => N5
              exact rowNext_end F5 N5 (fun p hp => List.mem_append.mpr (.inl hp)) (fun p hp => List.mem_append.mpr (.inr hp)) (by intro z hz; simp only [List.contains_cons, List.contains_nil, Bool.or_false, Bool.or_eq_false_iff, beq_eq_false_iff_ne, ne_eq] at hz; simp [hz])
      case done2 =>
        intro h3 tk3 m3 F3 N3
        dsimp only
        have b1 : (count == Str.ofString "") = true := eq_of_true (by rw [← S_cps count, hcount, S_nil])
        have b2 : (S (rd (cps x)).1 == y) = true := eq_of_true (by rw [hrd, S_cps])
        have b3 : (rd (cps x)).1.length ≤ 400 := by rw [hrd, len_cps]; exact hy
        k_steps
        rename Fr _ _ _ _ => F5
        rename News _ _ _ _ => N5
        exact hret 0 _ _ F5 (kst_newsOf N5 (fun p hp => .tail _ (List.mem_append.mpr (.inr hp))))
  · intro _; rfl
end Mine
end
section
open PySem PySem.W PySem.Calls PyProof.Rows
set_option maxRecDepth 100000
set_option maxHeartbeats 4000000
namespace Mine
theorem fill4 : PySem.Challenge.rw_eu0040_01 = PySem.Challenge.rw_eu0040_01 ∧ hd.heap_39 = hd.heap_39 := by k_fill; exact ⟨rfl, rfl⟩

local macro_rules | `(tactic| k_steps) => `(tactic| repeat' ((fail_if_success (first | (with_reducible show wpAny _ _ (exec (Stmt.For _ _ _ _ _) _) _ _ _) | (with_reducible show wpAny _ _ (exec (Stmt.While _ _ _ _) _) _ _ _) | (with_reducible show wpAny _ _ (call (Value.type "enumerate") _) _ _ _) | (with_reducible show wpAny _ _ (call (Value.builtin "sorted") _ _) _ _ _) | (with_reducible show RowNext _ _ _ _ _ _ _ _ _) | (with_reducible show InvEndG _ _ _ _ _ _) | (with_reducible show InvEndN _ _ _ _ _ _ _) | (with_reducible show wpAny _ _ (pyIter _) _ _ _) | (with_reducible show wpAny _ _ (eval (Expr.Lambda _ _ _ _) _) _ _ _))); first | (k_unfold; (try dsimp only)) | (k_end; kc_close) | ((with_reducible show wpAny _ _ (execs _ _) _ _ _); dsimp only; walk1) | walk1 | (dsimp only; walk1) | (leave1; walk_say "STEP leave1"; (try dsimp only)) | fail "no step"))

abbrev rngObj (n : Int) (t u v : Tok) : Obj := { cls := .type "range", dict := none, data := .fields #[.int 0 t, .int n u, .int 1 v], slots := #[] }
theorem range_led {prog : Program} {w : World} {A : Around} {E : Value → Shared → Prop} {s : Shared} {h₀ : Heap} {L : Addr} {m : Str → Option Value} {news : List (Addr × Obj)} {n : Int} {t : Tok} {Q : Value → Shared → Prop} (F : Fr h₀ L s.heap m) (N : News h₀ L s.heap news)
    (h : ∀ r h' tk t₁ u₁ v₁, Fr h₀ L h' m → News h₀ L h' ((r, rngObj n t₁ u₁ v₁) :: news) → (∀ q ∈ news, q.1 < r) → Q (.ref r) { s with heap := h', toks := tk }) :
    wpAny (model prog w) A (call (.type "range") [.int n t]) Q E s :=
  call_range_1 (h _ _ _ _ _ _ (F.push _) (News.push F N _ rfl) fun q hq => Heap.lt_size (N q hq).1)
local macro_rules | `(tactic| walk_at "call type:range") => `(tactic| (k_here; (with_reducible show wpAny _ _ (call (Value.type "range") [Value.int (Nat.cast _) _]) _ _ _); (k_dflt (refine' range_led ?F ?N ?_; (case F => k_asm); (case N => k_asm); k_whole)); intro r8 h' tk' t8 u8 v8 F' N' l1; (try k_lt l1)))
local macro_rules | `(tactic| walk_at "call builtin:str.index") => `(tactic| (k_here; (with_reducible show wpAny _ _ (call (Value.builtin "str.index") [Value.str _ _, Value.str _ _]) _ _ _); k_dflt (refine' index_text rfl ?kxaa ?_; (case kxaa => assumption))))
local macro_rules | `(tactic| walk_at "subscriptTail") => `(tactic| (k_here; (with_reducible show wpAny _ _ (subscriptTail _ _ (Value.ref _) (Value.int _ _)) _ _ _); k_dflt (refine' led_item ?kxaa ?kxab ?kxac ?kxad ?kxae ?_ ?kxaf; (case kxae => assumption); (case kxaa => k_asm); (case kxab => k_mem); (case kxac => omega); (case kxad => omega); (case kxaf => with_unfolding_all rfl))))
local macro_rules | `(tactic| walk_at "binaryOp Add str str") => `(tactic| (k_here; (with_reducible show wpAny _ _ (binaryOp Operator.Add (Value.str _ _) (Value.str _ _)) _ _ _); (refine' add_texts ?kxaa ?kxab ?_; (case kxaa => omega); (case kxab => omega)); intro _ _))
theorem news_drop3 {h₀ h : Heap} {L : Addr} {p1 p2 p3 p4 : Addr × Obj} {l : List (Addr × Obj)} (N : News h₀ L h (p1 :: p2 :: p3 :: p4 :: l)) : News h₀ L h (p1 :: l) := fun p hp => N p (by
  rcases List.mem_cons.mp hp with rfl | hp
  · exact List.mem_cons_self ..
  · exact .tail _ (.tail _ (.tail _ (.tail _ hp))))
abbrev StU := Nat × Tok × Str × Tok

def itr (order : List Nat) : Nat → Nat → Nat
  | 0, p => p
  | k + 1, p => itr order k (order.getD p 0)
theorem itr_succ (order : List Nat) : ∀ (k p : Nat), itr order (k + 1) p = order.getD (itr order k p) 0
  | 0, _ => rfl
  | k + 1, p => itr_succ order k (order.getD p 0)
theorem walkBack_snoc (last order : List Nat) : ∀ (k p : Nat), walkBack last order (k + 1) p = walkBack last order k p ++ [last.getD (itr order k p) 0]
  | 0, _ => rfl
  | k + 1, p => by
    show last.getD p 0 :: walkBack last order (k + 1) (order.getD p 0) = _
    rw [walkBack_snoc last order k]
    rfl
theorem walkBack_len (last order : List Nat) : ∀ (k p : Nat), (walkBack last order k p).length = k
  | 0, _ => rfl
  | k + 1, p => by simp [walkBack, walkBack_len last order k]
theorem itr_lt {order : List Nat} {n : Nat} (hp : order.Perm (List.range n)) : ∀ (k p : Nat), p < n → itr order k p < n
  | 0, p, h => h
  | k + 1, p, h => by
    refine itr_lt hp k _ ?_
    have hl : order.length = n := by rw [hp.length_eq, List.length_range]
    have : order.getD p 0 ∈ order := by
      rw [List.getD_eq_getElem?_getD, List.getElem?_eq_getElem (by omega)]
      exact List.getElem_mem _
    simpa using hp.mem_iff.mp this

theorem law_undone (x : Str) (v : List Nat) (ec : Nat) (tx ty : Tok) (hxe : cps x = bwt (v ++ [ec])) (hev : ec ∉ v) (hv1 : 1 ≤ v.length) (hv2 : v.length ≤ 50) (prog : Program) (w : World) (p : Program) (loose : List Str) (mean : ExcName → Option Value) (mg mb : Str → Option Value) (news : List (Addr × Obj))
    (dp un : Nat) (gd : Option (List Code)) (cn : Str) (cs : Scope) (a : Addr) (ccd : Value) (cl : List (Str × Addr)) (outer : List Env) (A₀ : Around) (base h₀ : Heap) (L : Addr) (m : Str → Option Value) (s : Shared) (Q E : Value → Shared → Prop)
    (B : Below A₀ base outer h₀) (F : Fr h₀ L s.heap m) (X : (hd.heap_39 w.params).In h₀) (hC : CodeHd base 263 259) (hne : ∀ p ∈ news, p.1 ≠ 259) (N : News h₀ L s.heap ((259, tabObj #[]) :: news)) (T : Top p loose mean mg mb h₀) (hk : cs.kind = .function)
    (hdp : dp + 3 < recursionLimit) (hu : un + 24 < cLine)
    (hret : ∀ (t : Tok) (h' : Heap) (tk' : Nat) (ps : Array Value), Fr h₀ L h' m → News h₀ L h' ((259, tabObj ps) :: news) → Q (.str (S v) t) { s with heap := h', toks := tk' }) :
    wpAny (model prog w) (ktrTop dp un gd cn cs L a ccd cl outer) (call (.ref 264) [.str x tx, .str (S [ec]) ty]) Q E s := by
  have hxl := len_cps x
  have hvl3 : x.length = v.length + 1 := by rw [← hxl, hxe, bwt_length]; simp
  have hx : x.length ≤ 60 := by omega
  have h2 : 2 ≤ x.length := by omega
  have hec : ec ∈ cps x := by rw [hxe]; exact (bwt_perm _).mem_iff.mpr (by simp)
  refine wpAny_call ?_
  k_dflt (refine' code_defC ?k1 ?k2 ?k3 ?k4 ?k5 ?kA ?kF ?kK ?k6 ?k7 ?k8 ?k9 ?kB ?kD ?_ ?c2 ?c3 ?c4; (case kA => exact rfl); (case kF => exact rfl); (case kK => assumption); (case k1 => k_asm); (case k2 => k_asm); (case k3 => k_asm); (case k4 => k_asm); (case k5 => k_asm); (case k6 => k_is); (case k7 => k_is); (case k8 => ktr_room); (case k9 => exact BindsTo.of_eq rfl); (case kB => exact rfl); (case kD => decide +kernel); (case c2 => exact rfl); (case c3 => exact rfl); (case c4 => exact rfl); k_whole; intro g' L' h' tk' cells' FG' F' N' Y' B' X' T' l1; (try k_lt l1); k_cells Y'; (try simp only [List.cons_append, List.nil_append] at N'); (try dsimp only); (try k_lift B'); (try k_fold))
  rename_i o8 d8
  k_steps
  k_here
  (k_dflt (refine' kla_eval ?d0 ?_; (case d0 => exact rfl)))
  (k_dflt (refine' kla_nest ?F ?N ?T ?C ?cd ?U ?t ?n ?cl ?_; (case F => k_asm); (case N => k_asm); (case T => k_asm); (case cd => exact rfl); (case C => kn_code); (case U => exact UpdF.tail (by k_ne) (UpdF.tail (by k_ne) (UpdF.head hne))); (case t => kn_triples); (case n => kn_among); (case cl => exact rfl); k_whole); intro f' c' oc' vs' t' ct' h' tk' F' N' d1' d2' l1 l2; (try dsimp only at N'); (try k_lt l1); (try k_lt2 l2))
  k_steps
  rename Fr _ _ _ _ => F1
  rename News _ _ _ _ => N1
  k_here
  show wpAny _ _ (call (Value.builtin "sorted") [Value.ref _] [(PySem.Str.ofString "key", Value.ref f')]) _ _ _
  refine' sorted_keyed (gather_range F1 N1 rfl (News.get N1 ?hr) ?hsm ?hn ?hlen) ?hP (ksk_s1 _ _) (fun _ => ksk_l1 _ _) (fun _ => ksk_t1 _ _) ?_
  case hr => k_mem
  case hn => exact rangeSize_nat 0 (x.length : Int)
  case hsm => exact small_one (by omega) (by omega) (by omega) (by omega)
  case hlen => omega
  case hP =>
    rintro vs ⟨h1, _⟩
    omega
  rintro vs s₁ ⟨hvl, hvv⟩ ⟨h9, tk9, rfl⟩ D kS e1 h10 F2 N2 lt1 lt2
  clear F1 N1
  dsimp only
  have hpos : 0 < (cps x).length := by omega
  have hne1 : ∀ p ∈ (D, seqObj "list" #[] e1) :: _, p.1 ≠ kS := fun p hp => by
    rcases List.mem_cons.mp hp with rfl | hp
    · exact Nat.ne_of_lt lt1
    · exact Nat.ne_of_lt (Nat.lt_trans (lt2 p hp) lt1)
  refine' keys_walk (cps x) s hne1 ?call ?fin vs [] 0 [] h10 tk9 ?r1 ?r2 F2 N2 ?k0 ?k1 ?k2
  case r1 =>
    intro j y hy
    obtain ⟨t, rfl⟩ := hvv j y hy
    exact ⟨t, by simp⟩
  case r2 => simp only [List.length_nil]; omega
  case k0 => intro i hi; simp at hi
  case k1 => exact fun _ h => (nomatch h)
  case k2 => exact fun _ h => (nomatch h)
  case call =>
    clear F2 N2
    intro i t c news3 h tk Q' hvi F3 N3 hsub hret'
    have N4 := kst_newsOf (l' := (f', kla_obj _ _ _ _ _ _ _ _ _) :: (c', oc') :: (L' + 1, _) :: news3) N3 (by
      intro p hp
      rcases List.mem_cons.mp hp with rfl | hp
      · exact hsub _ (by k_mem)
      rcases List.mem_cons.mp hp with rfl | hp
      · exact hsub _ (by k_mem)
      rcases List.mem_cons.mp hp with rfl | hp
      · exact hsub _ (by k_mem)
      exact hp)
    k_dflt (refine wpAny_call ?_; refine' kla_code ?k1 ?k2 ?k3 ?k4 ?k5 ?kA ?kF ?kK ?k6 ?k7 ?k8 ?k9 ?kB ?_ ?c2 ?c3 ?c4 ?c5; (case kA => exact rfl); (case kF => exact rfl); (case kK => exact rfl); (case k1 => k_asm); (case k2 => k_asm); (case k3 => k_asm); (case k4 => exact N4); (case k5 => k_asm); (case k6 => k_mem); (case k7 => exact codeRec_news N4 (by k_mem) (by assumption) (by assumption)); (case k8 => ktr_room); (case k9 => exact rfl); (case c5 => decide); (case kB => exact locs rfl); (case c2 => exact rfl); (case c3 => exact rfl); (case c4 => exact rfl); k_whole; intro g2 L2 h2 FG2 F2 N2 B2 X2 T2; (try dsimp only); (try k_lift B2); (try k_fold))
    have hil : i < x.length := by
      rw [← hxl]
      exact (List.getElem?_eq_some_iff.mp hvi).1
    have hi0 : (0 : Int) ≤ (i : Int) := by omega
    have hi1 : (i : Int) < (x.length : Int) := by omega
    k_steps
    rename Fr _ _ _ _ => F5
    rename News _ _ _ _ => N5
    rename _ ∧ _ => l9
    rw [item_S hi0 (show (cps x)[(i : Int).toNat]? = some c by simpa using hvi)] at N5
    exact hret' _ _ _ 0 _ _ F5 (news_drop3 N5) (kst_ltOf l9.2.2.2)
  case fin =>
    clear F2 N2
    intro ks e tups h tk F4 N4 hkl hK h1 h2
    refine keys_kind hkl hpos hK N4 (fun p hp => .tail _ (List.mem_append_left _ hp)) ?_
    have hvl2 : vs.length = (cps x).length := by omega
    rw [hvl2]
    refine s_sort (r := rnk (cps x)) hpos (fun i j C hi hj hc => keys_ask hkl hK N4 (fun p hp => .tail _ (List.mem_append_left _ hp)) i j C hi hj hc) fun p hG hU => ?_
    refine KatFin.intro F4 N4 (UpdF.head fun p hp => ?_) fun h5 c5 F5 N5 => ?_
    · rcases List.mem_append.mp hp with hp | hp
      · exact h1 p hp
      · exact hne1 p hp
    clear F4 N4
    refine KasFin.intro F5 (kst_newsOf N5 (l' := (D, seqObj "list" #[] e1) :: _) fun p hp => .tail _ (List.mem_append_right _ hp)) (UpdF.head fun p hp => Nat.ne_of_lt (lt2 p hp)) fun h6 c6 F6 N6 => ?_
    clear F5 N5
    obtain ⟨ps8, N7⟩ : ∃ ps, News g' L' h6 ((D, W.listOf _ c6) :: (L' + 1, o8) :: (259, tabObj ps) :: news) := ⟨_, kst_newsOf N6 fun p hp => by
      rcases List.mem_cons.mp hp with rfl | hp
      · exact List.mem_cons_self ..
      · exact .tail _ (.tail _ (.tail _ (.tail _ hp)))⟩
    clear N6
    obtain ⟨o1, o2⟩ := up_order hG hU
    have hout : ∀ (j q : Nat), p.toList[j]? = some q → ∃ t, (katRev false (p.toList.map fun i => (katRev false vs).getD i Value.none))[j]? = some (Value.int (q : Int) t) := by
      intro j q hq
      have hq2 : q < (cps x).length := by simpa using o1.mem_iff.mp (List.mem_of_getElem? hq)
      have hq3 : q < vs.length := by omega
      obtain ⟨t, ht⟩ := hvv q vs[q] (List.getElem?_eq_getElem hq3)
      refine ⟨t, ?_⟩
      show (p.toList.map fun i => vs.getD i Value.none)[j]? = _
      rw [List.getElem?_map, hq]
      simp [List.getD_eq_getElem?_getD, List.getElem?_eq_getElem hq3, ht]
    generalize katRev false (p.toList.map fun i => (katRev false vs).getD i Value.none) = out at N7 hout
    generalize p.toList = order at o1 o2 hout
    clear h1 h2 hK hkl hne1 hU hG lt2 lt1 hvv hvl hvl2
    dsimp only
    have hvn : (cps x).length = v.length + 1 := by omega
    have hol : order.length = (cps x).length := by rw [o1.length_eq, List.length_range]
    have hil := List.idxOf_lt_length_of_mem hec
    obtain ⟨t0, ht0⟩ := hout _ _ (List.getElem?_eq_getElem (show (cps x).idxOf ec < order.length by omega))
    have hval := undone (order := order) hev (by rw [← hvn]; exact o1) (by rw [← hxe]; exact o2)
    rw [← hxe] at hval
    have hg0 : order[(cps x).idxOf ec]'(by omega) = order.getD ((cps x).idxOf ec) 0 := by rw [List.getD_eq_getElem?_getD, List.getElem?_eq_getElem (by omega)]; rfl
    rw [hg0] at ht0
    have hp0 : order.getD ((cps x).idxOf ec) 0 < (cps x).length := by rw [← hg0]; simpa using o1.mem_iff.mp (List.getElem_mem _)
    clear hg0
    generalize order.getD ((cps x).idxOf ec) 0 = p0 at ht0 hval hp0
    have ht0' : out[(((cps x).idxOf ec : Nat) : Int).toNat]? = some (.int (p0 : Int) t0) := ht0
    k_steps
    rename Fr _ _ _ _ => F8
    rename News _ _ _ _ => N8
    k_here
    with_unfolding_all refine' For_invVF F8 ?k1 ?k2 ?_ ?_ PassesOwn.leaving
    case k1 => exact rfl
    case k2 => exact rfl
    rotate_left
    · intro _; rfl
    k_steps
    rename Fr _ _ _ _ => F8
    rename News _ _ _ _ => N8
    have hlen1 : (x.length : Int) - 1 = (v.length : Int) := by omega
    with_unfolding_all refine' kst_range (σ := StU) (n := v.length) (fun _ => (D, W.listOf out.toArray c6) :: (L' + 1, o8) :: (259, tabObj ps8) :: news) (fun c => [("place", .int (c.1 : Int) c.2.1), ("word", .str c.2.2.1 c.2.2.2)]) (fun _ => True) []
                                (fun pre c => c.1 = itr order pre.length p0 ∧ cps c.2.2.1 = walkBack (cps x) order pre.length p0) (p0, _, _, _) rfl ?hr ?hsm ?hn F8 ?hN trivial ?hk ?hp ?turn ?done
    case hr => assumption
    case hsm => exact small_one (by omega) (by omega) (by omega) (by omega)
    case hn => rw [rangeSize_nat]; omega
    case hN => exact kst_newsOf N8 (by kst_in)
    case hk => kst_all
    case hp => exact ⟨rfl, rfl⟩
    case turn =>
      rintro ⟨q, tq, word, tw⟩ pre k t u h tk own hk1 hk2 hoff hT ⟨g1, g2⟩ F2 N2
      clear F8 N8
      dsimp only [kstB] at F2
      dsimp only at g1 g2 N2
      have hq : q < (cps x).length := by rw [g1]; exact itr_lt o1 _ _ hp0
      have hqx : q < x.length := by omega
      have hi0 : (0 : Int) ≤ (q : Int) := by omega
      have hi1 : (q : Int) < (x.length : Int) := by omega
      have hwl : word.length ≤ 100 := by rw [← len_cps, g2, walkBack_len]; omega
      obtain ⟨t1, ht1⟩ := hout _ _ (List.getElem?_eq_getElem (show q < order.length by omega))
      have hg1 : order[q]'(by omega) = order.getD q 0 := by rw [List.getD_eq_getElem?_getD, List.getElem?_eq_getElem (by omega)]; rfl
      rw [hg1] at ht1
      have ht1' : out[((q : Nat) : Int).toNat]? = some (.int ((order.getD q 0 : Nat) : Int) t1) := ht1
      k_steps
      rename Fr _ _ _ _ => F5
      rename News _ _ _ _ => N5
      refine' kst_end (order.getD q 0, _, word ++ Txt.item x (q : Int), _) F5 N5 (by kst_inAny) (by kst_inAny) rfl trivial ?a1 ?a2 ?a3
      case a1 => kst_all
      case a2 => kst_same
      case a3 =>
        have hc : (cps x)[((q : Int)).toNat]? = some ((cps x).getD q 0) := by
          show (cps x)[q]? = _
          rw [List.getD_eq_getElem?_getD, List.getElem?_eq_getElem hq]; rfl
        rw [List.length_append, List.length_singleton, itr_succ, walkBack_snoc, cps_app, item_S hi0 hc, cps_S, ← g1, g2]
        exact ⟨rfl, rfl⟩
    case done =>
      rintro ⟨q, tq, word, tw⟩ u h tk hT ⟨g1, g2⟩ F2 N2
      clear F8 N8
      dsimp only [kstB] at F2
      dsimp only at g1 g2 N2
      rw [rangeKs_length, hval] at g2
      have hw : word = S v := by rw [← S_cps word, g2]
      subst hw
      k_steps
      rename Fr _ _ _ _ => F5
      rename News _ _ _ _ => N5
      exact hret _ _ _ ps8 F5 (kst_newsOf N5 (by kst_in))
end Mine
end
section
open PySem PySem.W PySem.Calls PyProof.Rows
set_option maxRecDepth 100000
set_option maxHeartbeats 4000000
namespace Mine
theorem fill6 : PySem.Challenge.rw_eu0040_01 = PySem.Challenge.rw_eu0040_01 ∧ hd.heap_39 = hd.heap_39 := by k_fill; exact ⟨rfl, rfl⟩
local macro_rules | `(tactic| k_steps) => `(tactic| repeat' ((fail_if_success (first | (with_reducible show wpAny _ _ (exec (Stmt.For _ _ _ _ _) _) _ _ _))); first | (k_unfold; (try dsimp only)) | (k_end; kc_close) | ((with_reducible show wpAny _ _ (execs _ _) _ _ _); dsimp only; walk1) | walk1 | (dsimp only; walk1) | (leave1; walk_say "STEP leave1"; (try dsimp only)) | fail "no step"))
theorem law_at (l : Addr) (vs : List Value) (ns : List Int) (k o : Int) (tk to : Tok) (hi : IntsAre vs ns) (hlen : (ns.length : Int) ≤ 63) (hk0 : 0 ≤ k) (hk1 : k < 1000000)
    (prog : Program) (w : World) (p : Program) (loose : List Str) (mean : ExcName → Option Value) (mg mb : Str → Option Value) (news : List (Addr × Obj))
    (dp un : Nat) (gd : Option (List Code)) (cn : Str) (cs : Scope) (a : Addr) (ccd : Value) (cl : List (Str × Addr)) (outer : List Env) (A₀ : Around) (base h₀ : Heap) (L : Addr) (m : Str → Option Value) (s : Shared) (Q E : Value → Shared → Prop)
    (B : Below A₀ base outer h₀) (F : Fr h₀ L s.heap m) (X : (hd.heap_39 w.params).In h₀) (hl : h₀.IsList l vs.toArray) (N : News h₀ L s.heap news) (T : Top p loose mean mg mb h₀) (hkind : cs.kind = .function)
    (hdp : dp + 1 < recursionLimit) (hu : un + 8 < cLine)
    (hret : ∀ (z : Int) (t : Tok) (h' : Heap) (tk' : Nat), Fr h₀ L h' m → News h₀ L h' news → Q (.int z t) { s with heap := h', toks := tk' }) :
    wpAny (model prog w) (ktrTop dp un gd cn cs L a ccd cl outer) (call (.ref 243) [.ref l, .int k tk, .int o to]) Q E s := by
  refine wpAny_call ?_
  k_dflt cell_enter
  rename Fr h₀ L _ m => FG
  have hl2 : Heap.IsList _ l vs.toArray := let ⟨o, e, r⟩ := hl; ⟨o, FG.keep _ _ e, r⟩
  have hvn := hi.length
  by_cases hlt : k < (ns.length : Int)
  · k_steps
    exact hret _ _ _ _ (by assumption) (by assumption)
  · k_steps
    exact hret _ _ _ _ (by assumption) (by assumption)
end Mine
end
section
open PySem PySem.W PySem.Calls PyProof.Rows
set_option maxRecDepth 100000
set_option maxHeartbeats 4000000
namespace Mine

section
variable {M : Model} {A : Around} {E : Value → Shared → Prop} {s : Shared} {env : Env} {c P : Addr} {ps : Array Value} {pos : Pos} {qual : Str} {scope : Scope} {Q : Value → Shared → Prop}
/-- a generator's code, made or found: the table stays in order -/
theorem gen_code (hcode : env.code = .ref c) (C : CodeHd s.heap c P) (hP : s.heap.get? P = some (tabObj ps)) (ht : TriplesOk ps.toList)
    (h : ∀ cv h' tk ps', Heap.ExtBut P s.heap h' → s.heap.objs.size ≤ h'.objs.size → h'.get? P = some (tabObj ps') → TriplesOk ps'.toList → Q cv { s with heap := h', toks := tk }) :
    wpAny M A (genexprCode env pos qual scope) Q E s := by
  cases hf : codeAmong pos ps.toList with
  | none =>
    refine wpAny_genexprCodeX hcode (C.code hP ht) (C.tab hP) hf fun c' h' tk hx hge hlt _ _ htb _ => h _ h' tk _ hx (Nat.le_trans hge (Nat.le_of_lt hlt)) htb.2 ?_
    rw [show (ps ++ #[rawInt pos.line, rawInt pos.col, Value.ref c']).toList = ps.toList ++ [rawInt pos.line, rawInt pos.col, .ref c'] by simp]
    exact TriplesOk_snoc _ _ _ _ ht
  | some cv => exact wpAny_codeAt_hit hcode (C.code hP ht) hf (h cv s.heap s.toks ps (fun _ _ _ e => e) (Nat.le_refl _) hP ht)
end

section
variable {prog : Program} {w : World} {A : Around} {E : Value → Shared → Prop} {s : Shared} {h₀ : Heap} {L : Addr} {m mg mb : Str → Option Value} {p : Program} {loose : List Str} {mean : ExcName → Option Value}

/-- what a generator expression asks of its source -/
def GenSrc (prog : Program) (w : World) (A : Around) (h₀ : Heap) (L : Addr) (m : Str → Option Value) (P : Addr) (env : Env) (scope : Scope) (cl : List (Str × Addr)) (x : Str) (elt : Expr) (Q : Value → Shared → Prop) (xv : Value) (s₁ : Shared) : Prop :=
  ∃ (news : List (Addr × Obj)) (ps : Array Value) (oI : Obj) (fp : List Addr) (n : Nat) (Pi : Nat → Value → Prop) (St : Nat → Heap → Prop) (Fk : Nat → Value → Prop),
    Fr h₀ L s₁.heap m ∧ News h₀ L s₁.heap ((P, tabObj ps) :: news) ∧ (∀ q ∈ news, q.1 ≠ P) ∧ TriplesOk ps.toList ∧
    (∀ (E' : Value → Shared → Prop) (Q' : Value → Shared → Prop), Q' (.ref s₁.heap.objs.size) { s₁ with heap := s₁.heap.push oI } → wpAny (model prog w) A (pyIter xv) Q' E' s₁) ∧
    (∀ A' : Around, A'.handled = none → Walks prog w A' s₁.heap.objs.size (s₁.heap.objs.size :: fp) [s₁.heap.objs.size] n Pi St) ∧ St 0 (s₁.heap.push oI) ∧ (∀ b ∈ fp, b < s₁.heap.objs.size ∧ b ≠ P) ∧
    (∀ (C : Addr) (code : Value) (A' : Around) (E' : Value → Shared → Prop) (i : Nat) (v : Value) (t : Shared) (m₂ : Str → Option Value), A'.handled = none → A'.depth ≤ A.depth + 1 → A'.units ≤ A.units + 8 → Pi i v → t.heap.Ns C m₂ → m₂ x = some v →
      (∀ b o, b ≠ P → s₁.heap.get? b = some o → t.heap.get? b = some o) → wpAny (model prog w) A' (eval elt (genEnv scope cl C code builtinsNs env)) (fun y s₃ => Fk i y ∧ Keeps t s₃) E' t) ∧
    (∀ (a : Addr) (s₅ : Shared) (ps' : Array Value) (K : Addr), Fr h₀ L s₅.heap m → News h₀ L s₅.heap ((P, tabObj ps') :: news) → TriplesOk ps'.toList → (AllBare s₁.gens → AllBare s₅.gens) → s₅.os = s₁.os → s₅.drawn = s₁.drawn →
      L ≤ K → (∀ q ∈ (P, tabObj ps') :: news, q.1 ≤ K) → Gen prog w A K a n Fk s₅ → Q (.ref a) s₅)

theorem gen_led {env : Env} {elt iter : Expr} {x : Str} {px : Pos} {scope : Scope} {cl : List (Str × Addr)} {pos : Pos} {c P : Addr} {Q : Value → Shared → Prop} (_F : Fr h₀ L s.heap m) (T : Top p loose mean mg mb h₀) (C : CodeHd h₀ c P) (hcode : env.code = .ref c) (hge : env.globals = mainGlobals)
    (hh : A.handled = none) (hco : scope.isCoroutine = false) (hclos : closureFor scope env = pure cl) (hcell : ∀ y ∈ scope.names, y.2 ≠ .cell) (h0 : scope.names.lookup (".0" : Str) = some NameKind.local)
    (hx : scope.names.lookup x = some .local) (hkind : scope.kind = .function) (hroom : A.depth < recursionLimit)
    (h : wpAny (model prog w) A (eval iter env) (GenSrc prog w A h₀ L m P env scope cl x elt Q) E s)
    (hs : ∀ x, genFold iter env x = pure x) :
    wpAny (model prog w) A (eval (.GeneratorExp elt [⟨.Name x px, iter, [], 0⟩] scope pos) env) Q E s := by
  refine wpAny_GeneratorExp_walksQD hh hco hclos hcell h0 hx hkind hroom (wpAny_mono h (fun xv s₁ h₁ => ?_) fun _ _ e => e) hs
  obtain ⟨news, ps, oI, fp, n, Pi, St, Fk, F, N, hne, ht, hit, W, hst, hfp, helt, hQ⟩ := h₁
  refine hit _ _ ⟨((T.nolimit).keeps F.keep).push _, ?_⟩
  have hsz : (s₁.heap.push oI).objs.size = s₁.heap.objs.size + 1 := size_push' _ _
  have hL : L < s₁.heap.objs.size := F.ns.lt
  have hPm := N _ (List.mem_cons_self ..)
  have hPlt : P < s₁.heap.objs.size := Heap.lt_size hPm.1
  have F₂ : Fr h₀ L (s₁.heap.push oI) m := F.push _
  refine gen_code (s := { s₁ with heap := s₁.heap.push oI }) hcode (C.keeps F₂.keep) (Heap.get?_push_of_some _ hPm.1) ht fun code h' tk ps' hx' hsz' htb ht' => ?_
  have up : ∀ b o, b ≠ P → s₁.heap.get? b = some o → h'.get? b = some o := fun b o hb e => hx' b o hb (Heap.get?_push_of_some _ e)
  have old : ∀ b o, h₀.get? b = some o → h'.get? b = some o := fun b o e => up b o (fun q => by rw [q, hPm.2.2] at e; cases e) (F.keep b o e)
  obtain ⟨bm, ob, b1, b2, b3, b4, b5, b6⟩ := T.bmain
  rw [hge]
  refine wpAny_builtinsFor (T.g.keeps old) b1 b2 (old _ _ b3) b4 b5 b6 ?_
  have hns : cStatics < s₁.heap.objs.size := by
    obtain ⟨_, hn, _⟩ := (T.nolimit).keeps F.keep
    exact hn.lt
  have hszh : s₁.heap.objs.size < h'.objs.size := Nat.lt_of_lt_of_le (by rw [hsz]; exact Nat.lt_succ_self _) hsz'
  have hPI : P ≠ s₁.heap.objs.size := Nat.ne_of_lt hPlt
  have hbI : ∀ b ∈ s₁.heap.objs.size :: fp, b ≠ P ∧ b < h'.objs.size := fun b hb => by
    rcases List.mem_cons.mp hb with rfl | hb
    · exact ⟨hPI.symm, hszh⟩
    · exact ⟨(hfp b hb).2, Nat.lt_trans (hfp b hb).1 hszh⟩
  refine ⟨s₁.heap.objs.size, s₁.heap.objs.size :: fp, [s₁.heap.objs.size], n, Pi, St, fun _ => true, Fk, rfl, W, (W A hh).frame _ _ _ hst (fun b hb o e => hx' b o (hbI b hb).1 e), (fun b hb => (hbI b hb).2), (T.nolimit).keeps old,
    (fun hm => Nat.ne_of_lt hns (List.mem_singleton.mp hm)), (fun href hhref => ?_), fun a h₅ tk₅ gs hgb hag hsz₅ hk₅ Wg hat => ?_⟩
  · refine ⟨fun A' E' i v s₂ m₂ _ _ _ _ _ _ _ => ?_, fun A' E' i v s₂ m₂ hA hD hU hPi _ hn hm hkp => helt _ code A' E' i v s₂ m₂ hA hD hU hPi hn hm fun b o hb e => ?_⟩
    · rw [List.forIn_nil]
      exact wpAny_pure ⟨rfl, _, _, rfl, fun _ _ e => e⟩
    · have hlt := Heap.lt_size e
      exact hkp b (List.mem_range.mpr (Nat.lt_trans hlt hszh)) (fun hm => Nat.ne_of_lt hlt (List.mem_singleton.mp hm)) o (hhref b o (up b o hb e))
  · have hpass : passing (fun _ => true) n 0 = List.range n := by simp [passing]
    rw [hpass, List.length_range] at Wg
    have up5 : ∀ b o, b ≠ P → s₁.heap.get? b = some o → h₅.get? b = some o := fun b o hb e => hk₅ b o (up b o hb e)
    refine hQ a _ ps' (s₁.heap.objs.size - 1) ⟨?_, fun b o e => hk₅ b o (old b o e), F.above⟩ (fun q hq => ?_) ht' (fun G => G.push hgb) rfl rfl (Nat.le_sub_one_of_lt hL) (fun q hq => ?_) ⟨_, _, _, _, Wg.imp fun j y ⟨i, hi, hF⟩ => ?_, hat, (fun i s' st => st.1.typeIs), List.mem_cons_self, ?_, ?_⟩
    · obtain ⟨o, es, ep, e, r⟩ := F.ns
      exact ⟨o, es, ep, up5 _ _ (fun q => hPm.2.1 q.symm) e, r⟩
    · rcases List.mem_cons.mp hq with rfl | hq
      · exact ⟨hk₅ _ _ htb, hPm.2⟩
      · have := N q (List.mem_cons_of_mem _ hq)
        exact ⟨up5 _ _ (hne q hq) this.1, this.2⟩
    · rcases List.mem_cons.mp hq with rfl | hq
      · exact Nat.le_sub_one_of_lt hPlt
      · exact Nat.le_sub_one_of_lt (Heap.lt_size (N q (List.mem_cons_of_mem _ hq)).1)
    · by_cases hj : j < n
      · rw [List.getElem?_range hj] at hi
        cases hi
        exact hF
      · rw [List.getElem?_eq_none (by simpa using hj)] at hi
        cases hi
    · intro b hb
      show b < h₅.objs.size
      rw [hsz₅]
      rcases List.mem_cons.mp hb with rfl | hb
      · exact Nat.lt_succ_self _
      · rcases List.mem_cons.mp hb with rfl | hb
        · exact Nat.lt_succ_of_lt hag
        · exact Nat.lt_succ_of_lt (Nat.lt_trans (List.mem_range.mp hb) hag)
    · intro b hb
      rcases List.mem_cons.mp hb with rfl | hb
      · exact Nat.lt_of_le_of_lt (Nat.sub_le _ _) hszh
      · rw [List.mem_singleton.mp hb]
        exact Nat.sub_lt (Nat.lt_of_le_of_lt (Nat.zero_le _) hL) Nat.one_pos

/-- sorted over a generator: its items, gathered -/
theorem gather_gen {K a : Addr} {n : Nat} {Fk : Nat → Value → Prop} {news : List (Addr × Obj)} (F : Fr h₀ L s.heap m) (N : News h₀ L s.heap news) (hLK : L ≤ K) (hK : ∀ q ∈ news, q.1 ≤ K) (X : Gen prog w A K a n Fk s) (hn : n ≤ 1000) :
    Gathers prog w A.in1 E h₀ L m news (.ref a) (fun vs => vs.length = n ∧ ∀ (i : Nat) (v : Value), vs[i]? = some v → Fk i v) (fun s' => (AllBare s.gens → AllBare s'.gens) ∧ s'.os = s.os ∧ s'.drawn = s.drawn) s := by
  intro R h
  obtain ⟨fp, wr, g, St, W, hst, hT, hI, hfp, hwr⟩ := X
  refine wpAny_collect_gen W.in4_2 hT hst hfp hI (fun s' acc hm hacc => ?_) (by rw [sizeLine_eq]; omega)
  refine h _ s' (F.moved hm fun b hb => Nat.lt_of_le_of_lt hLK (hwr b hb)) (fun q hq => ⟨hm.heap _ _ (fun hw => Nat.lt_irrefl _ (Nat.lt_of_lt_of_le (hwr _ hw) (hK q hq))) (N q hq).1, (N q hq).2⟩) ⟨by rw [Array.length_toList]; exact hacc.1, fun i v hv => hacc.2 i v (by rw [← Array.getElem?_toList]; exact hv)⟩
    ⟨fun G => G.movedS hm, hm.os, hm.drawn⟩
end
end Mine
end
section
open PySem PySem.W PySem.Calls PyProof.Rows
set_option maxRecDepth 100000
set_option maxHeartbeats 4000000
namespace Mine

section
variable {prog : Program} {w : World} {A₀ A : Around} {s : Shared} {base h₀ : Heap} {outer : List Env} {L : Addr} {m mg mb : Str → Option Value} {env : Env} {news : List (Addr × Obj)} {K : Frag} {p : Program} {loose : List Str} {mean : ExcName → Option Value}
  {R : Result → Shared → Prop} {name qual : Str} {params : Arguments} {body : List Stmt} {scope : Scope} {clos : List (Str × Addr)} {dV kV doc pm cdv ct oc : Value} {an od : Option Addr} {osl : Array (Option Value)} {f : Addr} {args : Args} {n1 n2 : Str} {v1 v2 : Value}

/-- a def of two parameters, the second one kept in a cell, that closes over names too: entered so that super() may look at its frame -/
theorem enter_cell_at (B : Below A₀ base outer h₀) (F : Fr h₀ L s.heap m) (X₀ : K.In h₀) (N : News h₀ L s.heap news) (T : Top p loose mean mg mb h₀) (hA : A.frames = some (env :: outer)) (hf : env.frame = some L) (hke : env.scope.kind = .function)
    (ho : K.lookup f = some ⟨oc, od, .func (fnX name qual params body scope clos dV kV doc pm an cdv ct), osl⟩) (hcd : codeIn K cdv qual = true) (hroom : A.depth < recursionLimit)
    (hbind : BindsTo s (fnX name qual params body scope clos dV kV doc pm an cdv ct) args [(n1, v1), (n2, v2)]) (h1 : scope.names.lookup n1 = some .local) (h2 : scope.names.lookup n2 = some .cell)
    (hcells : ∀ n, cellsFrom n scope.names clos = (n2, n) :: clos) (hpush : ∀ h, pushCells h scope.names = h.push { cls := .type "cell", data := .cell none })
    (h : ∀ g L' h₁ tk o, Fr h₀ L g m → Fr g L' h₁ (fun y => if y = n1 then some v1 else none) → o.data = .cell (some v2) → News g L' h₁ ((L' + 1, o) :: news) → Below A base (env :: outer) g → K.In g → Top p loose mean mg mb g → (∀ p ∈ news, p.1 < L') →
      _root_.PySem.wpAt (model prog w) (A.deeper (envX qual scope L' f cdv ((n2, L' + 1) :: clos))) (.func body (envX qual scope L' f cdv ((n2, L' + 1) :: clos))) (execs body (envX qual scope L' f cdv ((n2, L' + 1) :: clos)))
        (fun fl s' => LeaveK h₀ L m g R (match fl with | .ret v => v | _ => .none) s')
        (fun e s' => wpAny (model prog w) (A.deeper (envX qual scope L' f cdv ((n2, L' + 1) :: clos))) (leaving (envX qual scope L' f cdv ((n2, L' + 1) :: clos)) e) (fun _ s'' => R (.error e) s'') (fun e' s'' => R (.error e') s'') s')
        { s with heap := h₁, toks := tk })
    (hco : scope.isCoroutine = false := by rfl) (hgen : scope.isGenerator = false := by rfl) (hk : scope.kind = .function := by rfl) : codeAny (model prog w) A (.call (.ref f) args) R s := by
  obtain ⟨FG, BG, st, lv⟩ := groundX (R := R) B F N hA hf hke
  refine codeAny_call_function hroom ((X₀.keeps F.keep) _ _ ho) rfl hco hgen rfl (codeRec_of (X₀.keeps F.keep) hcd) (hbind _ _ _ _ ?_)
  show wpAny _ A.in1 (newFunctionEnv scope mainGlobals clos [(n1, v1), (n2, v2)] (qual ++ ".<locals>.") (some f) cdv none builtinsNs) _ _ s
  simp only [newFunctionEnv, Option.isSome_none, Bool.false_eq_true, if_false]
  refine wpAny_bind (wpAny_alloc ?_)
  refine wpAny_bind (wpAny_layCells _ (fun name kind cells => by cases hkc : kind == NameKind.cell <;> simp [hkc]) _ _ _ _ ?_)
  have hsz : (s.heap.push { cls := .type "frame", data := .dict #[] }).objs.size = s.heap.objs.size + 1 := size_push' _ _
  rw [hsz, hcells, hpush]
  have hc0 : ((s.heap.push { cls := .type "frame", data := .dict #[] }).push { cls := .type "cell", data := .cell none }).IsCell (s.heap.objs.size + 1) none := ⟨_, by rw [← hsz]; exact Heap.get?_push_size _ rfl, rfl⟩
  have hn0 : ((s.heap.push { cls := .type "frame", data := .dict #[] }).push { cls := .type "cell", data := .cell none }).Ns s.heap.objs.size (fun _ => none) := (Heap.Ns.new s.heap (.type "frame")).push _
  have hk0 : ∀ b o, s.heap.get? b = some o → ((s.heap.push { cls := .type "frame", data := .dict #[] }).push { cls := .type "cell", data := .cell none }).get? b = some o := fun b o e => Heap.get?_push_of_some _ (Heap.get?_push_of_some _ e)
  generalize (s.heap.push { cls := .type "frame", data := .dict #[] }).push { cls := .type "cell", data := .cell none } = h2' at hc0 hn0 hk0
  rw [List.forIn_cons]
  refine wpAny_bind (wpAny_bind (wpAny_bind (wpAny_storeName_local (m := fun _ => none) h1 hn0 (fun h3 hn3 hs3 => ?_) (by show (scope.kind == .class || _) = false; rw [hk]; rfl))))
  refine wpAny_pure ?_
  show wpAny _ _ (forIn [(n2, v2)] PUnit.unit _) _ _ _
  rw [List.forIn_cons]
  have hc3 := hc0.sameBut hs3 (Nat.succ_ne_self _)
  refine wpAny_bind (wpAny_bind (wpAny_storeName_cell hk h2 (by show List.lookup n2 ((n2, s.heap.objs.size + 1) :: clos) = _; simp) hc3 fun h4 hc4 hs4 => ?_))
  refine wpAny_pure ?_
  show wpAny _ _ (forIn [] PUnit.unit _) _ _ _
  rw [List.forIn_nil]
  refine wpAny_pure ?_
  refine wpAny_pure ?_
  have hk4 : ∀ b o, s.heap.get? b = some o → h4.get? b = some o := fun b o e => by
    have hlt := Heap.lt_size e
    have e3 := hs3.extBut b o (Nat.ne_of_lt hlt) (hk0 b o e)
    exact hs4.extBut b o (Nat.ne_of_lt (Nat.lt_succ_of_lt hlt)) e3
  have hn4 := hn3.sameBut hs4 (Nat.ne_of_lt (Nat.lt_succ_self _))
  refine ⟨(T.nolimit.keeps F.keep).keeps hk4, ks_codeAny_funcAt ?_⟩
  obtain ⟨o, hoc, hod⟩ := hc4
  have hfresh : s.heap.get? (s.heap.objs.size + 1) = none := Heap.get?_none_of_le (Nat.le_succ _)
  refine ks_wpAt_mono (h _ s.heap.objs.size h4 _ o FG ⟨?_, fun b o e => hk4 b o (of_hideAll _ e), Nat.le_of_eq (hideAll_size _ _)⟩ hod (fun q hq => ?_) BG (X₀.keeps st) (T.keeps st) (fun q hq => Heap.lt_size (N q hq).1)) (fun fl s' hl => lv _ _ hl) fun _ _ y => y
  · exact hn4
  · rcases List.mem_cons.mp hq with rfl | hq
    · refine ⟨hoc, Nat.succ_ne_self _, ?_⟩
      cases z : (hideAll s.heap (news.map (·.1))).get? (s.heap.objs.size + 1) with
      | none => rfl
      | some o' => have := of_hideAll _ z; rw [hfresh] at this; cases this
    · exact ⟨hk4 _ _ (N q hq).1, Nat.ne_of_lt (Heap.lt_size (N q hq).1), hideAll_none _ (List.mem_map_of_mem hq)⟩
end

end Mine
end
section
open PySem PySem.W PySem.Calls PyProof.Rows
set_option maxRecDepth 100000
set_option maxHeartbeats 4000000
namespace Mine

theorem slice_to {x : Str} {j : Nat} (h : j ≤ x.length) : Txt.slice x none (some (j : Int)) = S ((cps x).take j) := by
  rw [eq_of_beq (slice_closes_toL (x := x) (j := (j : Int)) (by omega) (by omega))]
  show (⟨((cps x).drop (0 : Int).toNat).take ((j : Int) - 0).toNat |>.toArray⟩ : Str) = _
  have e : ((j : Int) - 0).toNat = j := by omega
  rw [e]
  rfl
theorem slice_from {x : Str} {i : Nat} (h : i ≤ x.length) : Txt.slice x (some (i : Int)) none = S ((cps x).drop i) := by
  rw [eq_of_beq (slice_closes_fromL (x := x) (i := (i : Int)) (b := (x.length : Int)) (by omega) (by omega) rfl)]
  show (⟨((cps x).drop (i : Int).toNat).take ((x.length : Int) - i).toNat |>.toArray⟩ : Str) = _
  have e1 : ((i : Nat) : Int).toNat = i := by omega
  have e2 : ((x.length : Int) - i).toNat = x.length - i := by omega
  rw [e1, e2, List.take_of_length_le (by rw [List.length_drop, len_cps]; omega)]
  rfl
theorem item_last {x : Str} (h : 1 ≤ x.length) : Txt.item x (-1) = S [lastOf (cps x)] := by
  have hl := len_cps x
  have hc : Txt.charAt x (-1) = some (lastOf (cps x)) := by
    unfold Txt.charAt PySem.seqIndex?
    have e : (-1 : Int) + (x.length : Int) = ((x.length - 1 : Nat) : Int) := by omega
    simp only [show ((-1 : Int) < 0) = True from eq_true (by decide), if_true, e]
    rw [if_pos (by simp; omega)]
    show x.cps[((x.length - 1 : Nat) : Int).toNat]? = _
    have e2 : ((x.length - 1 : Nat) : Int).toNat = x.length - 1 := by omega
    rw [e2, ← Array.getElem?_toList]
    show (cps x)[x.length - 1]? = _
    unfold lastOf
    rw [List.getLastD_eq_getLast?, List.getLast?_eq_getElem?, hl, List.getElem?_eq_getElem (by omega)]
    rfl
  unfold Txt.item
  rw [hc]
  rfl

section
variable {prog : Program} {w : World} {A : Around} {E : Value → Shared → Prop} {t : Shared} {env : Env} {scope : Scope} {cl : List (Str × Addr)} {C : Addr} {code : Value} {m₂ : Str → Option Value}

theorem keptBy (h₁ : Heap) : KeptH (fun h => ∀ b o, h₁.get? b = some o → h.get? b = some o) := fun _ _ hI b o e => Heap.get?_push_of_some _ (hI b o e)

theorem name_free {x : Str} {p : Pos} {c : Addr} {v : Value} {s : Shared} {Q : Value → Shared → Prop} (hk : scope.kind = .function) (hl : scope.names.lookup x = some .free) (hc : cl.lookup x = some c) (hv : s.heap.IsCell c (some v)) (h : Q v s)
    (hd : (x == ("__debug__" : Str)) = false := by decide) (hn : (x == ("__classdict__" : Str)) = false := by decide) : wpAny (model prog w) A (eval (.Name x p) (genEnv scope cl C code builtinsNs env)) Q E s := by
  rw [eval_Name (hd := hd)]
  exact wpAny_bind (wpAny_standAt (wpAny_loadName_free hk hl hc hv h hn))
theorem name_local {x : Str} {p : Pos} {v : Value} {s : Shared} {Q : Value → Shared → Prop} (hk : scope.kind = .function) (hl : scope.names.lookup x = some .local) (hn : s.heap.Ns C m₂) (hv : m₂ x = some v) (h : Q v s)
    (hd : (x == ("__debug__" : Str)) = false := by decide) : wpAny (model prog w) A (eval (.Name x p) (genEnv scope cl C code builtinsNs env)) Q E s := by
  rw [eval_Name (hd := hd)]
  exact wpAny_bind (wpAny_standAt (wpAny_loadName_local hk hl hn hv h))

/-- data[i:] + data[:i] in the generator -/
theorem elt_rot {y : Str} {ty ti : Tok} {i : Nat} {c : Addr} {p1 p2 p3 p4 p5 p6 p7 p8 p9 : Pos} (hk : scope.kind = .function) (hkd : scope.names.lookup ("data" : Str) = some .free) (hki : scope.names.lookup ("i" : Str) = some .local)
    (hcl : cl.lookup ("data" : Str) = some c) (hc : t.heap.IsCell c (some (.str y ty))) (hn : t.heap.Ns C m₂) (hm : m₂ "i" = some (.int (i : Int) ti)) (hi : i ≤ y.length) (hy : y.length ≤ 1000) :
    wpAny (model prog w) A (eval (.BinOp (.Subscript (.Name "data" p1) (.Slice (some (.Name "i" p2)) none none p3) p4) .Add (.Subscript (.Name "data" p5) (.Slice none (some (.Name "i" p6)) none p7) p8) p9) (genEnv scope cl C code builtinsNs env))
      (fun v s₃ => (∃ t', v = .str (S (rot (cps y) i)) t') ∧ Keeps t s₃) E t := by
  have hl := len_cps y
  refine wpAny_BinOp (Subscript_ (name_free hk hkd hcl hc ?_))
  refine wpAny_Slice ?_
  rw [evalPart_some, evalPart_none]
  refine name_local hk hki hn hm (wpAny_pure (wpAny_pure ?_))
  refine tail_of_ItemOn (SBH.sliceItem_sn (keptBy t.heap) (fun b o e => e) (fun h1 t1 k1 hk1 => ?_) (by rw [sizeLine_eq]; omega)) (by with_unfolding_all rfl) (by intro _; with_unfolding_all rfl)
  refine Subscript_ (name_free hk hkd hcl (hc.keeps hk1) ?_)
  refine wpAny_Slice ?_
  rw [evalPart_some, evalPart_none]
  refine wpAny_pure (name_local hk hki (hn.keeps hk1) hm (wpAny_pure ?_))
  refine tail_of_ItemOn (SBH.sliceItem_ns (keptBy t.heap) hk1 (fun h2 t2 k2 hk2 => ?_) (by rw [sizeLine_eq]; omega)) (by with_unfolding_all rfl) (by intro _; with_unfolding_all rfl)
  rw [slice_from hi, slice_to hi]
  refine add_texts (by rw [len_S, List.length_drop]; omega) (by rw [len_S, List.length_take]; omega) fun t3 k3 => ?_
  rw [S_append]
  exact ⟨⟨t3, rfl⟩, h2, k3, rfl, hk2⟩

/-- subdata[-1] in the generator -/
theorem elt_last {y : Str} {ty : Tok} {p1 p2 p3 p4 : Pos} {kd : Nat} (hk : scope.kind = .function) (hki : scope.names.lookup ("subdata" : Str) = some .local)
    (hn : t.heap.Ns C m₂) (hm : m₂ "subdata" = some (.str y ty)) (hy0 : 1 ≤ y.length) (hy : y.length ≤ 1000) :
    wpAny (model prog w) A (eval (.Subscript (.Name "subdata" p1) (.UnaryOp .USub (.Constant (.int 1) kd p2) p3) p4) (genEnv scope cl C code builtinsNs env))
      (fun v s₃ => (∃ t', v = .str (S [lastOf (cps y)]) t') ∧ Keeps t s₃) E t := by
  refine Subscript_ (name_local hk hki hn hm ?_)
  refine UnaryOp_ ?_
  walk1
  refine neg_int ?_
  refine item_str (by decide) (by omega) (by omega) (fun _ => ?_)
  rw [item_last hy0]
  exact ⟨⟨_, rfl⟩, _, _, rfl, fun b o e => e⟩
end
end Mine
end
section
open PySem PySem.W PySem.Calls PyProof.Rows
set_option maxRecDepth 100000
set_option maxHeartbeats 4000000
namespace Mine
section
variable {prog : Program} {w : World} {A : Around} {E : Value → Shared → Prop} {s : Shared} {h₀ : Heap} {L P : Addr} {m : Str → Option Value} {env : Env} {scope : Scope} {cl : List (Str × Addr)} {news : List (Addr × Obj)} {ps : Array Value} {Q : Value → Shared → Prop}

theorem src_rot {r c : Addr} {o : Obj} {y : Str} {ty t u v : Tok} {p1 p2 p3 p4 p5 p6 p7 p8 p9 : Pos} (F : Fr h₀ L s.heap m) (N : News h₀ L s.heap ((P, tabObj ps) :: news)) (hne : ∀ q ∈ news, q.1 ≠ P) (ht : TriplesOk ps.toList)
    (hr : IsRange s.heap r 0 (y.length : Int) 1 t u v) (hcm : (c, o) ∈ news) (hd : o.data = .cell (some (.str y ty))) (hcl : cl.lookup ("data" : Str) = some c) (hy : y.length ≤ 1000)
    (hk : scope.kind = .function) (hkd : scope.names.lookup ("data" : Str) = some .free) (hki : scope.names.lookup ("i" : Str) = some .local)
    (hQ : ∀ (a : Addr) (s₅ : Shared) (ps' : Array Value) (K : Addr), Fr h₀ L s₅.heap m → News h₀ L s₅.heap ((P, tabObj ps') :: news) → TriplesOk ps'.toList → (AllBare s.gens → AllBare s₅.gens) → s₅.os = s.os → s₅.drawn = s.drawn → L ≤ K → (∀ q ∈ (P, tabObj ps') :: news, q.1 ≤ K) →
      Gen prog w A K a y.length (fun i z => ∃ t', z = .str (S (rot (cps y) i)) t') s₅ → Q (.ref a) s₅) :
    GenSrc prog w A h₀ L m P env scope cl "i" (.BinOp (.Subscript (.Name "data" p1) (.Slice (some (.Name "i" p2)) none none p3) p4) .Add (.Subscript (.Name "data" p5) (.Slice none (some (.Name "i" p6)) none p7) p8) p9) Q (.ref r) s := by
  have hsm : Builtin.Range.small 0 (y.length : Int) 1 = true := small_one (by omega) (by omega) (by omega) (by omega)
  have hn : Builtin.Range.rangeSize 0 (y.length : Int) 1 = ((y.length : Nat) : Int) := by rw [rangeSize_nat]; omega
  refine ⟨news, ps, _, [], y.length, _, _, _, F, N, hne, ht, fun E' Q' h => wpAny_pyIter_range hr hsm h, fun A' hA => (Walks.range hA _ 0 1 y.length).bound, ?_, (fun _ h => nomatch h), fun C code A' E' i z t₂ m₂ hA hD hU hPi hns hm hk2 => ?_, hQ⟩
  · show IsRangeIter _ _ _ _ _
    rw [hn]
    simpa using Heap.get?_push_size _ rfl
  · obtain ⟨hi, tk, rfl⟩ := hPi
    have hc := (N (c, o) (List.mem_cons_of_mem _ hcm)).1
    refine elt_rot hk hkd hki hcl ⟨o, hk2 c o (hne _ hcm) hc, hd⟩ hns (ti := tk) ?_ (Nat.le_of_lt hi) hy
    rw [hm]
    simp

theorem src_last {D : Addr} {vs : List Value} {ss : List Str} {e : Nat} {p1 p2 p3 p4 : Pos} {kd : Nat} (F : Fr h₀ L s.heap m) (N : News h₀ L s.heap ((P, tabObj ps) :: news)) (hne : ∀ q ∈ news, q.1 ≠ P) (ht : TriplesOk ps.toList)
    (hDm : (D, seqObj "list" vs.toArray e) ∈ news) (hS : StrsAre vs ss) (hlen : ∀ x ∈ ss, 1 ≤ x.length ∧ x.length ≤ 1000)
    (hk : scope.kind = .function) (hki : scope.names.lookup ("subdata" : Str) = some .local)
    (hQ : ∀ (a : Addr) (s₅ : Shared) (ps' : Array Value) (K : Addr), Fr h₀ L s₅.heap m → News h₀ L s₅.heap ((P, tabObj ps') :: news) → TriplesOk ps'.toList → (AllBare s.gens → AllBare s₅.gens) → s₅.os = s.os → s₅.drawn = s.drawn → L ≤ K → (∀ q ∈ (P, tabObj ps') :: news, q.1 ≤ K) →
      Gen prog w A K a ss.length (fun i z => ∃ t', z = .str (S [lastOf (cps (ss.getD i ⟨#[]⟩))]) t') s₅ → Q (.ref a) s₅) :
    GenSrc prog w A h₀ L m P env scope cl "subdata" (.Subscript (.Name "subdata" p1) (.UnaryOp .USub (.Constant (.int 1) kd p2) p3) p4) Q (.ref D) s := by
  have hD := N (D, seqObj "list" vs.toArray e) (List.mem_cons_of_mem _ hDm)
  have hl : s.heap.IsList D vs.toArray := ⟨_, hD.1, rfl, e, rfl⟩
  have hDlt := Heap.lt_size hD.1
  have hsz : vs.toArray.size = ss.length := by rw [List.size_toArray]; exact hS.length
  refine ⟨news, ps, _, [D], ss.length, _, _, _, F, N, hne, ht, fun E' Q' h => wpAny_pyIter_list hl h, fun A' hA => hsz ▸ Walks.list hA _ D (Nat.ne_of_lt hDlt) vs.toArray, ?_, fun b hb => ?_, fun C code A' E' i z t₂ m₂ hA hD' hU hPi hns hm hk2 => ?_, hQ⟩
  · exact ⟨⟨_, Heap.get?_push_size _ rfl, rfl, rfl⟩, hl.push _⟩
  · rw [List.mem_singleton.mp hb]
    exact ⟨hDlt, hne _ hDm⟩
  · have hPi' : vs[i]? = some z := by simpa using hPi
    have hi : i < ss.length := by
      rw [← hS.length]
      exact (List.getElem?_eq_some_iff.mp hPi').1
    obtain ⟨tz, htz⟩ := hS.get i ss[i] (List.getElem?_eq_getElem hi)
    rw [hPi'] at htz
    cases htz
    have hx := hlen ss[i] (List.getElem_mem hi)
    have he : ss.getD i ⟨#[]⟩ = ss[i] := by simp [List.getD_eq_getElem?_getD, hi]
    rw [he]
    exact elt_last hk hki hns hm hx.1 hx.2
end
end Mine
end
section
open PySem PySem.W PySem.Calls PyProof.Rows
set_option maxRecDepth 100000
set_option maxHeartbeats 8000000
namespace Mine
theorem fill5 : PySem.Challenge.rw_eu0040_01 = PySem.Challenge.rw_eu0040_01 ∧ hd.heap_39 = hd.heap_39 := by k_fill; exact ⟨rfl, rfl⟩
theorem not_in_text {prog : Program} {w : World} {A : Around} {E : Value → Shared → Prop} {s : Shared} {x : Str} {n : Nat} {b : Bool} {t u : Tok} {Q : Value → Shared → Prop} (hb : decide (n ∈ cps x) = b) (h : Q (.bool (!b)) s) : wpAny (model prog w) A (compareOp .NotIn (.str (S [n]) t) (.str x u)) Q E s := by
  refine notIn_str ?_
  have e := StrLaws.found_one x n
  rw [show decide (n ∈ x.cps.toList) = b from hb] at e
  rw [show (Builtin.Str.occurrences x (S [n]) 0 x.length 1).isEmpty = !b by rw [← e, Bool.not_not]; rfl, Bool.not_not]
  exact h
local macro_rules | `(tactic| walk_at "compareOp NotIn str str") => `(tactic| (k_here; (with_reducible show wpAny _ _ (compareOp CmpOp.NotIn (Value.str (S [_]) _) (Value.str _ _)) _ _ _); k_dflt (refine' not_in_text ?kxaa ?_; (case kxaa => assumption))))
abbrev selfDict (w : World) (ec : Nat) (te tkk : Tok) : Obj := dictOf [{ hash := PyData.keyHash w.params "terminator", key := .str "terminator" tkk, val := .str (S [ec]) te }] 1
def turned (l : List Nat) (e : Nat) : List Nat := if l = [] then [e] else if e ∈ l then l else bwt (l ++ [e])
/-- what holds behind the branching -/
def AfterIf (w : World) (x : Str) (ec : Nat) (te tkk : Tok) (xo d : Addr) (news : List (Addr × Obj)) (s : Shared) (g' : Heap) (L' : Addr) (_u : Unit) (f : Flow) (s' : Shared) : Prop :=
  f = .next ∧ ∃ (y : Str) (ty : Tok) (o : Obj) (ps' : Array Value) (m₂ : Str → Option Value), Fr g' L' s'.heap m₂ ∧ m₂ "self" = some (.ref xo) ∧
    News g' L' s'.heap ((L' + 1, o) :: (226, tabObj ps') :: (xo, instObj 234 d) :: (d, selfDict w ec te tkk) :: news) ∧ o.data = .cell (some (.str y ty)) ∧ cps y = turned (cps x) ec ∧ TriplesOk ps'.toList ∧ s'.os = s.os ∧ AllBare s'.gens
theorem le_of_not_gt {a b : List Nat} (h : ¬ b < a) : a ≤ b := h
theorem rows_strs {l : List Nat} {vs : List Value} (hl : vs.length = l.length) (h : ∀ (i : Nat) (v : Value), vs[i]? = some v → ∃ t', v = .str (S (rot l i)) t') : StrsAre vs ((List.range l.length).map fun i => S (rot l i)) := by
  have e : vs.map strOf = (List.range l.length).map fun i => S (rot l i) := by
    refine List.ext_getElem (by simp [hl]) fun i h1 h2 => ?_
    have hi : i < vs.length := by simpa using h1
    obtain ⟨t', ht⟩ := h i vs[i] (List.getElem?_eq_getElem hi)
    simp only [List.getElem_map, List.getElem_range, ht]
    rfl
  rw [← e]
  refine strsAre_map vs fun v hv => ?_
  obtain ⟨i, hi, rfl⟩ := List.getElem_of_mem hv
  obtain ⟨t', ht⟩ := h i vs[i] (List.getElem?_eq_getElem hi)
  exact ⟨_, _, ht⟩
theorem rows_bwt {l : List Nat} {ss' : List Str} (hp : ss'.Perm ((List.range l.length).map fun i => S (rot l i))) (ho : ss'.Pairwise fun a b => ¬ b.cps.toList < a.cps.toList) :
    Txt.join (Str.ofString "") ((List.range ss'.length).map fun j => S [lastOf (cps (ss'.getD j ⟨#[]⟩))]) = S (bwt l) := by
  have h1 : ss'.map cps = srows l := by
    refine srows_eq ?_ ?_
    · refine (hp.map cps).trans ?_
      rw [List.map_map]
      have : (cps ∘ fun i => S (rot l i)) = rot l := by funext i; exact cps_S _
      rw [this]
      exact List.Perm.refl _
    · rw [List.pairwise_map]
      exact ho.imp fun h => le_of_not_gt h
  rw [txt_join_nil]
  congr 1
  unfold flat bwt
  rw [← h1]
  have h2 : ((List.range ss'.length).map fun j => S [lastOf (cps (ss'.getD j ⟨#[]⟩))]) = ss'.map fun x => S [lastOf (cps x)] := by
    refine List.ext_getElem (by simp) fun i h3 h4 => ?_
    have hi : i < ss'.length := by simpa using h4
    simp [List.getD_eq_getElem?_getD, hi]
  rw [h2, List.map_map, List.map_map]
  have h3 : ∀ r : List Str, (r.map (cps ∘ fun x => S [lastOf (cps x)])).flatten = r.map (lastOf ∘ cps) := by
    intro r
    induction r with
    | nil => rfl
    | cons x r ih =>
      rw [List.map_cons, List.map_cons, List.flatten_cons, ih]
      show cps (S [lastOf (cps x)]) ++ _ = _
      rw [cps_S]
      rfl
  exact h3 ss'
theorem rows_len {l : List Nat} {ss' : List Str} (hp : ss'.Perm ((List.range l.length).map fun i => S (rot l i))) : ss'.length = l.length ∧ ∀ x ∈ ss', x.length = l.length := by
  refine ⟨by rw [hp.length_eq]; simp, fun x hx => ?_⟩
  obtain ⟨i, hi, rfl⟩ := List.mem_map.mp (hp.mem_iff.mp hx)
  have := List.mem_range.mp hi
  rw [len_S]
  unfold rot
  rw [List.length_append, List.length_drop, List.length_take]
  omega
local macro_rules | `(tactic| walk_at "inplaceOp Add str str") => `(tactic| (k_here; (with_reducible show wpAny _ _ (inplaceOp Operator.Add (Value.str _ _) (Value.str _ _)) _ _ _); (k_dflt (refine' SB.iadd ?_ ?kxaa; (case kxaa => (rw [sizeLine_eq, len_S]; simp only [List.length_cons, List.length_nil]; omega)))); intro _ _))
local macro_rules | `(tactic| k_steps) => `(tactic| repeat' ((fail_if_success (first | (with_reducible show AfterIf _ _ _ _ _ _ _ _ _ _ _ _ _) | (with_reducible show wpAny _ _ (storeName _ (PySem.Str.ofString "data") _) _ _ _) | (with_reducible show wpAny _ _ (eval (Expr.GeneratorExp _ _ _ _) _) _ _ _) | (with_reducible show wpAny _ _ (call (Value.ref _) _) _ _ _) | (with_reducible show wpAny _ _ (call (Value.builtin "str.join") _) _ _ _) | (with_reducible show wpAny _ _ (call (Value.builtin "sorted") _) _ _ _))); first | (k_unfold; (try dsimp only)) | (k_end; kc_close) | ((with_reducible show wpAny _ _ (execs _ _) _ _ _); dsimp only; walk1) | walk1 | (dsimp only; walk1) | (leave1; walk_say "STEP leave1"; (try dsimp only)) | fail "no step"))
theorem at_K {K : Frag} {h : Heap} {a : Addr} {o : Obj} (X : K.In h) (e : K.lookup a = some o) : h.get? a = some o := X _ _ e
theorem cell_K {K : Frag} {h : Heap} {a : Addr} {o : Obj} {v : Option Value} (X : K.In h) (e : K.lookup a = some o) (hd : o.data = .cell v) : h.IsCell a v := ⟨o, X _ _ e, hd⟩
theorem bwt_compress (x : Str) (tx : Tok) (ec : Nat) (te tkk : Tok) (xo d : Addr) (hx : x.length ≤ 40)
    (w : World) (p : Program) (loose : List Str) (mean : ExcName → Option Value) (mg mb : Str → Option Value) (news : List (Addr × Obj)) (ps : Array Value)
    (dp un : Nat) (gd : Option (List Code)) (cn : Str) (cs : Scope) (a : Addr) (ccd : Value) (cl : List (Str × Addr)) (outer : List Env) (A₀ : Around) (base h₀ : Heap) (L : Addr) (m : Str → Option Value) (s : Shared) (Q E : Value → Shared → Prop)
    (B : Below A₀ base outer h₀) (F : Fr h₀ L s.heap m) (X : (hd.heap_39 w.params).In h₀) (hC : CodeHd base 230 226) (hG : AllBare s.gens) (hne : ∀ q ∈ news, q.1 ≠ 226) (hxo : xo ≠ 226) (hd' : d ≠ 226)
    (N : News h₀ L s.heap ((226, tabObj ps) :: (xo, instObj 234 d) :: (d, selfDict w ec te tkk) :: news)) (ht : TriplesOk ps.toList) (T : Top p loose mean mg mb h₀) (hk : cs.kind = .function)
    (hdp : dp + 3 < recursionLimit) (hu : un + 24 < cLine)
    (hret : ∀ (t : Tok) (s' : Shared) (ps' : Array Value), Fr h₀ L s'.heap m → News h₀ L s'.heap ((226, tabObj ps') :: (xo, instObj 234 d) :: (d, selfDict w ec te tkk) :: news) → TriplesOk ps'.toList → s'.os = s.os → AllBare s'.gens →
      Q (.str (S (rle (turned (cps x) ec))) t) s') :
    wpAny (model PySem.Challenge.rw_eu0040_01.row.prog w) (ktrTop dp un gd cn cs L a ccd cl outer) (call (.ref 231) [.ref xo, .str x tx]) Q E s := by
  refine wpAny_call ?_
  k_dflt (refine' enter_cell_at (n1 := "self") (n2 := "data") ?k1 ?k2 ?k3 ?k4 ?k5 ?kA ?kF ?kK ?k6 ?k7 ?k8 ?k9 ?kB ?kD ?c1 ?c5 ?_ ?c2 ?c3 ?c4; (case kA => exact rfl); (case kF => exact rfl); (case kK => assumption); (case k1 => k_asm); (case k2 => k_asm); (case k3 => k_asm); (case k4 => exact N); (case k5 => k_asm); (case k6 => k_is); (case k7 => k_is); (case k8 => ktr_room); (case k9 => exact BindsTo.of_eq rfl); (case kB => exact rfl); (case kD => exact rfl); (case c1 => intro _; exact rfl); (case c5 => intro _; exact rfl); (case c2 => exact rfl); (case c3 => exact rfl); (case c4 => exact rfl); k_whole; intro g' L' h' tk' o8 FG' F' d8 N' B' X' T' l1; (try k_lt l1); (try dsimp only); (try k_lift B'); (try k_fold))
  refine ks_wpAt_execs_cons ?_
  refine ks_wpAt_mono (Q := AfterIf w x ec te tkk xo d news s g' L' ()) ?_ ?_ (fun _ _ z => z)
  · refine PySem.wpAt_of_wpAny ?_
    have hneL : ∀ (o1 : Obj), ∀ q ∈ (226, o1) :: (xo, instObj 234 d) :: (d, selfDict w ec te tkk) :: news, q.1 ≠ L' + 1 := by
      intro o1 q hq
      rcases List.mem_cons.mp hq with rfl | hq
      · exact Nat.ne_of_lt (Nat.lt_succ_of_lt l1.1)
      rcases List.mem_cons.mp hq with rfl | hq
      · exact Nat.ne_of_lt (Nat.lt_succ_of_lt l1.2.1)
      rcases List.mem_cons.mp hq with rfl | hq
      · exact Nat.ne_of_lt (Nat.lt_succ_of_lt l1.2.2.1)
      · exact Nat.ne_of_lt (Nat.lt_succ_of_lt (kst_ltOf l1.2.2.2 q hq))
    by_cases h0 : x.length = 0
    · k_steps
      all_goals (try (exfalso; omega))
      rename Fr _ _ _ _ => F1
      rename News _ _ _ _ => N1
      k_dflt (refine' storeX_C F1 N1 rfl (UpdF.head (hneL _)) d8 (fun h2 o2 F2 N2 d2 => ?_) rfl rfl)
      clear F1 N1
      k_steps
      have hx0 : cps x = [] := List.eq_nil_of_length_eq_zero (by rw [len_cps]; exact h0)
      exact ⟨rfl, S [ec], te, o2, ps, _, F2, rfl, N2, d2, by unfold turned; rw [if_pos hx0, cps_S], ht, rfl, hG⟩
    · have hxe : cps x ≠ [] := fun e => h0 (by rw [← len_cps, e]; rfl)
      by_cases h1 : ec ∈ cps x
      · have b1 : decide (ec ∈ cps x) = true := decide_eq_true h1
        k_steps
        all_goals (try (exfalso; omega))
        exact ⟨rfl, x, tx, o8, ps, _, F', rfl, N', d8, by unfold turned; rw [if_neg hxe, if_pos h1], ht, rfl, hG⟩
      · have b1 : decide (ec ∈ cps x) = false := decide_eq_false h1
        k_steps
        all_goals (try (exfalso; omega))
        rename Fr _ _ _ _ => F1
        rename News _ _ _ _ => N1
        k_dflt (refine' storeX_C F1 N1 rfl (UpdF.head (hneL _)) d8 (fun h2 o2 F2 N2 d2 => ?_) rfl rfl)
        clear F1 N1
        have hyl : (x ++ S [ec]).length = x.length + 1 := by rw [Str.length_append, len_S]; rfl
        have hyc : cps (x ++ S [ec]) = cps x ++ [ec] := by rw [cps_app, cps_S]
        generalize x ++ S [ec] = y at d2 hyl hyc
        have hy40 : y.length ≤ 41 := by omega
        have hy1 : 1 ≤ y.length := by omega
        k_steps
        k_dflt (refine' gen_led (c := 230) (P := 226) F2 T' (CodeHd.keeps hC (Below.stays B')) rfl rfl rfl rfl rfl ?hcell ?h0 ?hx rfl ?hroom ?_ ?hs; (case hcell => decide); (case h0 => exact rfl); (case hx => exact rfl); (case hroom => ktr_room); (case hs => (intro _; with_unfolding_all rfl)))
        k_steps
        rename Fr _ _ _ _ => F3
        rename News _ _ _ _ => N3
        rename IsRange _ _ _ _ _ _ _ _ => hr
        have hne3 : ∀ (o1 : Obj), ∀ q ∈ (L' + 1, o1) :: (xo, instObj 234 d) :: (d, selfDict w ec te tkk) :: news, q.1 ≠ 226 := by
          intro o1 q hq
          rcases List.mem_cons.mp hq with rfl | hq
          · exact Nat.ne_of_gt (Nat.lt_succ_of_lt l1.1)
          rcases List.mem_cons.mp hq with rfl | hq
          · exact hxo
          rcases List.mem_cons.mp hq with rfl | hq
          · exact hd'
          · exact hne q hq
        k_dflt (refine' src_rot (y := y) (o := o2) (c := L' + 1) (news := (L' + 1, o2) :: (xo, instObj 234 d) :: (d, selfDict w ec te tkk) :: news) F3 (kst_newsOf N3 ?hn) (hne3 _) ht hr (List.mem_cons_self ..) d2 rfl (by omega) rfl rfl rfl ?_)
        case hn =>
          intro q hq
          rcases List.mem_cons.mp hq with rfl | hq
          · exact .tail _ (.head _)
          rcases List.mem_cons.mp hq with rfl | hq
          · exact .head _
          · exact .tail _ (.tail _ hq)
        intro a5 s5 ps5 K5 F5 N5 ht5 hg5 hos5 hdr5 hLK hK5 X5
        clear F3 N3 hr
        k_steps
        refine' sorted_texts (gather_gen F5 N5 hLK hK5 X5 (by omega)) ?hP ?_
        case hP =>
          rintro vs ⟨q1, q2⟩
          exact ⟨by omega, _, rows_strs (l := cps y) (by rw [len_cps]; exact q1) q2⟩
        rintro vs ss s6 ⟨hvl, hvv⟩ hS ⟨hg6, hos6, hdr6⟩ D e1 h6 vs' ss' F6 N6 hlt6 hS' hperm hpw
        have hss := hS.strs.symm.trans (rows_strs (l := cps y) (by rw [len_cps]; exact hvl) hvv).strs
        rw [hss] at hperm
        obtain ⟨hl6, hx6⟩ := rows_len hperm
        have hly := len_cps y
        have hbw := rows_bwt hperm hpw
        clear F5 N5 X5 hvv hS hss hK5 hLK hvl
        k_steps
        rename Fr _ _ _ _ => F7
        rename News _ _ _ _ => N7
        k_dflt (refine' gen_led (c := 230) (P := 226) F7 T' (CodeHd.keeps hC (Below.stays B')) rfl rfl rfl rfl rfl ?hcell ?h0 ?hx rfl ?hroom ?_ ?hs; (case hcell => decide); (case h0 => exact rfl); (case hx => exact rfl); (case hroom => ktr_room); (case hs => (intro _; with_unfolding_all rfl)))
        k_steps
        have hD6 : D ≠ 226 := Nat.ne_of_gt (hlt6 (226, tabObj ps5) (List.mem_cons_self ..))
        have hneD : ∀ (o1 : Obj) (o3 : Obj), ∀ q ∈ (D, o3) :: (L' + 1, o1) :: (xo, instObj 234 d) :: (d, selfDict w ec te tkk) :: news, q.1 ≠ 226 := by
          intro o1 o3 q hq
          rcases List.mem_cons.mp hq with rfl | hq
          · exact hD6
          · exact hne3 o1 q hq
        k_dflt (refine' src_last (news := (D, seqObj "list" vs'.toArray e1) :: (L' + 1, o2) :: (xo, instObj 234 d) :: (d, selfDict w ec te tkk) :: news) F7 (kst_newsOf N7 ?hn) (hneD _ _) ht5 (List.mem_cons_self ..) hS' (fun x hx => by have := hx6 x hx; omega) rfl rfl ?_)
        case hn =>
          intro q hq
          rcases List.mem_cons.mp hq with rfl | hq
          · exact .tail _ (.head _)
          rcases List.mem_cons.mp hq with rfl | hq
          · exact .head _
          · exact .tail _ (.tail _ hq)
        intro a9 s9 ps9 K9 F9 N9 ht9 hg9 hos9 hdr9 hLK9 hK9 X9
        clear F7 N7
        dsimp only at hg9 hos9
        k_steps
        have hsep : Txt.slice y none (some 0) = Str.ofString "" := by
          have := slice_to (x := y) (j := 0) (Nat.zero_le _)
          rw [show ((0 : Nat) : Int) = 0 from rfl] at this
          rw [this, List.take_zero]
          rfl
        rw [hsep]
        refine' join_rowsK F9 (hg9 (hg6 (hg5 hG))) X9 hLK9 (fun j => S [lastOf (cps (ss'.getD j ⟨#[]⟩))]) (fun j v hv => hv) ?hok (fun s10 t10 F10 hg10 hos10 hk10 => ?_) (by rw [sizeLine_eq]; omega)
        case hok =>
          refine joinOk_of ?_
          have e0 : ((List.range ss'.length).map fun j => S [lastOf (cps (ss'.getD j ⟨#[]⟩))]).map (·.length) = List.replicate ss'.length 1 := by
            rw [List.map_map, ← List.length_range (n := ss'.length), ← List.map_const]
            rw [List.length_range]
            exact List.map_congr_left fun j _ => by show (S [_]).length = 1; rw [len_S]; rfl
          rw [e0, List.sum_replicate_nat]
          show ss'.length * 1 + _ * 0 ≤ 16777216
          omega
        rw [hbw]
        have N10 : News g' L' s10.heap ((L' + 1, o2) :: (226, tabObj ps9) :: (xo, instObj 234 d) :: (d, selfDict w ec te tkk) :: news) := fun q hq => by
          have hm : q ∈ (226, tabObj ps9) :: (D, seqObj "list" vs'.toArray e1) :: (L' + 1, o2) :: (xo, instObj 234 d) :: (d, selfDict w ec te tkk) :: news := by
            rcases List.mem_cons.mp hq with rfl | hq
            · exact .tail _ (.tail _ (.head _))
            rcases List.mem_cons.mp hq with rfl | hq
            · exact .head _
            · exact .tail _ (.tail _ (.tail _ hq))
          exact ⟨hk10 _ _ (hK9 q hm) (N9 q hm).1, (N9 q hm).2⟩
        clear F9 N9 X9 hK9 hdr9
        k_dflt (refine' storeX_C F10 N10 rfl (UpdF.head (hneL _)) d2 (fun h11 o11 F11 N11 d11 => ?_) rfl rfl)
        clear F10 N10
        k_steps
        exact ⟨rfl, S (bwt (cps y)), t10, o11, ps9, _, F11, rfl, N11, d11, by unfold turned; rw [if_neg hxe, if_neg h1, cps_S, hyc], ht9, hos10.trans (hos9.trans (hos6.trans hos5)), hg10⟩
  · rintro f s2 ⟨rfl, y, ty, o, ps', m₂, F2, hm2, N2, d2, hy, ht2, hos, hg⟩
    clear F' N' d8
    dsimp only
    have hy2 : y.length ≤ 400 := by
      rw [← len_cps, hy]
      unfold turned
      have hlx := len_cps x
      split
      · simp
      · split
        · omega
        · rw [bwt_length, List.length_append, List.length_singleton]; omega
    k_dflt (refine' ks_wpAt_execs_cons (ks_wpAt_Return_some (ks_wpAt_MethodCall ?_ ?he)); (case he => rfl))
    obtain ⟨H2, G2, D2, K2, O2⟩ := s2
    have X2 : (hd.heap_39 w.params).In H2 := X'.keeps F2.keep
    k_dflt (refine' ks_wpAt_super_base ?a1 ?a2 ?a3 ?a4 (at_K X2 ?hf) ?a5 ?hp ?a6 (at_K X2 ?hcode) ?a7 ?hvs ?hfile ?htop ?_; (case a4 => exact rfl); (case hf => k_is); (case a6 => exact rfl); (case hcode => k_is); (case a1 => exact rfl); (case a2 => exact rfl); (case a3 => decide); (case a5 => exact rfl); (case hp => exact rfl); (case a7 => exact rfl); (case hvs => exact rfl); (case hfile => first | exact rfl | decide +kernel); (case htop => decide +kernel))
    k_dflt (refine' ks_loadName_global ?b1 ?b2 ?_; (case b1 => exact rfl); (case b2 => exact rfl))
    k_dflt (refine' loadGlobal_builtin ?b6 (mg_none_of X' T'.g ?b3) ?b7 ((T'.builtins "super" ?b4).trans ?b5) ⟨rfl, ?_⟩; (case b6 => exact T'.g.keeps F2.keep); (case b7 => exact T'.b.keeps F2.keep); (case b3 => k_is); (case b4 => decide +kernel); (case b5 => boot_by_name))
    k_dflt (refine' wpAny_loadName_free ?c1 ?c2 ?c3 (cell_K X2 ?c4 ?c5) ?_; (case c1 => exact rfl); (case c2 => exact rfl); (case c3 => exact rfl); (case c4 => k_is); (case c5 => exact rfl))
    k_dflt (refine' wpAny_loadName_local ?d1 ?d2 ?d3 hm2 ?_; (case d1 => exact rfl); (case d2 => exact rfl); (case d3 => exact F2.ns))
    k_dflt (refine' ks_wpAny_isType_cls (at_K X2 ?e1) ?e2 ⟨rfl, ?_⟩; (case e1 => k_is); (case e2 => exact rfl))
    have hxi : H2.get? xo = some (instObj 234 d) := N2.get (.tail _ (.tail _ (.head _)))
    k_dflt (refine' ks_wpAny_call_super (at_K X2 ?e1) ?e2 hxi rfl (fun _ e => nomatch e) (looks_mroIn X2 ?e3) (fun h3 so3 k3 => ?_); (case e1 => k_is); (case e2 => exact rfl); (case e3 => k_is))
    obtain ⟨F3, N3, l3⟩ := ks_newsPush (q := H2.objs.size) (o := ks_superObj 234 xo 234) (s := ⟨H2, G2, D2, K2, O2⟩) F2 N2 rfl so3 k3
    generalize H2.objs.size = so9 at F3 N3 l3 so3 ⊢
    (try k_lt l3)
    clear F2 N2 so3 k3 X2 hxi
    dsimp only
    k_steps
    rename Fr _ _ _ _ => F4
    rename News _ _ _ _ => N4
    k_dflt (refine' call_meth N4 (List.mem_cons_self ..) ?_)
    k_dflt (refine' rle_code _ _ _ hy2 _ _ _ _ _ _ _ _ _ _ _ _ _ _ _ _ _ _ _ _ _ _ _ _ _ ?kk1 F4 X' N4 T' ?kkK ?kkd ?kku ?_; (case kk1 => k_asm); (case kkK => exact rfl); (case kkd => ktr_room); (case kku => ktr_units))
    intro t9 h9 tk9 F9 N9
    clear F4 N4
    rw [hy]
    dsimp only
    k_steps
    rename Fr _ _ _ _ => F5
    rename News _ _ _ _ => N5
    exact hret _ _ ps' F5 (kst_newsOf N5 fun q hq => .tail _ (.tail _ (.tail _ hq))) ht2 hos hg
end Mine
end
section
open PySem PySem.W PySem.Calls PyProof.Rows
set_option maxRecDepth 100000
set_option maxHeartbeats 4000000
namespace Mine
/-- no digit among the signs -/
def Plain (l : List Nat) : Prop := ∀ c ∈ l, isDig c = false
theorem Plain.app {a b : List Nat} (h1 : Plain a) (h2 : Plain b) : Plain (a ++ b) := fun c hc => (List.mem_append.mp hc).elim (h1 c) (h2 c)

theorem rows_dig : ∀ l : List Nat, l.length ≤ 400 → ∀ r ∈ rleRows l, r.2 = [] ∨ ∃ n, 2 < n ∧ n ≤ 400 ∧ r.2 = dig n := by
  refine runs_ind (fun _ r hr => by simp [rleRows, runs_nil] at hr) fun c r ih h q hq => ?_
  have e := congrArg List.length (run_split c r)
  simp only [List.length_append, List.length_replicate, List.length_cons] at e
  simp only [List.length_cons] at h
  rw [rleRows_cons] at hq
  rcases List.mem_append.mp hq with hq | hq
  · unfold chunkRows at hq
    split at hq
    · rename_i hn
      rw [List.mem_singleton.mp hq]
      exact .inr ⟨_, hn, by omega, rfl⟩
    · rw [(List.mem_replicate.mp hq).2]
      exact .inl rfl
  · exact ih (by omega) q hq

theorem rows_good {l : List Nat} (h : l.length ≤ 400) : RowsGood (rleRows l) := by
  intro k r hk
  obtain ⟨h1, h2⟩ := rle_rows_ok h hk
  have hr := rows_dig l h r (List.mem_of_getElem? hk)
  refine ⟨fun hne => ?_, ?_, h2⟩
  · obtain ⟨a1, a2⟩ := h1 hne
    refine ⟨a1, by unfold worth; rw [if_neg hne]; exact a2, ?_⟩
    rcases hr with hr | ⟨n, n1, n2, hr⟩
    · exact absurd hr hne
    · rw [hr]
      exact dig_isDig n2
  · rcases hr with hr | ⟨n, n1, n2, hr⟩
    · rw [hr]; simp
    · rw [hr]
      have := dig_short n (by omega) n1
      omega
theorem rw_of_rle {l : List Nat} (h : l.length ≤ 400) (hd : Plain l) : rw' (rle l) = (rleRows l, []) := by
  have := rw_rle l h hd []
  rw [List.nil_append] at this
  exact this

theorem short_rle {l : List Nat} {y : Str} {tx ty : Tok} (hy : cps y = l) (h : l.length ≤ 400) (hd : Plain l) : Ctr 257 [.str (S (rle l)) tx, .str y ty] 2 16 (fun _ => .bool true) := by
  have e := rw_of_rle h hd
  refine law_short (S (rle l)) y tx ty ?_ ?_ ?_ ?_ ?_
  · rw [len_S]; exact Nat.le_trans (rle_len l h) h
  · rw [cps_S, rd_of_rle h hd, hy]
  · rw [← len_cps, hy]; exact h
  · rw [cps_S, e]
  · rw [cps_S, e]; exact rows_good h
theorem read_rle {l : List Nat} {tx : Tok} (h : l.length ≤ 400) (hd : Plain l) : Ctr 250 [.str (S (rle l)) tx] 1 8 (fun t => .str (S l) t) := by
  have e := rd_of_rle h hd
  have := law_read (S (rle l)) tx (by rw [len_S]; exact Nat.le_trans (rle_len l h) h) (by rw [cps_S, e]; exact h)
  rw [cps_S, e] at this
  exact this
end Mine
end
section
open PySem PySem.W PySem.Calls PyProof.Rows
set_option maxRecDepth 100000
set_option maxHeartbeats 4000000
namespace Mine
section
variable {prog : Program} {w : World} {A : Around} {E : Value → Shared → Prop} {s : Shared} {a b : Addr} {xs ys : List Value} {ss : List Str} {Q : Value → Shared → Prop}
theorem strs_shaped (h : ss.all PyData.strOk = true) : SeqAt.shaped (.list (ss.map PyData.str)) = true := by
  simp [SeqAt.shaped, PyData.canLay0, PyData.depth, canLayAll_strs', depthAll_strs', h]
theorem strs_same : ∀ ss : List Str, PySem.Spec.sameAll (ss.map PyData.str) (ss.map PyData.str) = true
  | [] => by simp [PySem.Spec.sameAll]
  | x :: r => by simp [PySem.Spec.sameAll, PySem.Spec.same, strs_same r]
theorem strs_carried : ∀ {vs : List Value} {ss : List Str}, StrsAre vs ss → CarriedAll vs (ss.map PyData.str)
  | _, _, .nil => .nil
  | _, _, .cons _ t r => .cons (.str _ t) (strs_carried r)
/-- two lists of the same texts are not unlike -/
theorem ne_texts (ha : s.heap.IsList a xs.toArray) (hb : s.heap.IsList b ys.toArray) (hi : StrsAre xs ss) (hj : StrsAre ys ss) (hok : ss.all PyData.strOk = true) (hu : A.units + 64 < cLine) (h : Q (.bool false) s) :
    wpAny (model prog w) A (compareOp .NotEq (.ref a) (.ref b)) Q E s :=
  ne_dataH_same (reads_newData ha (strs_carried hi)) (reads_newData hb (strs_carried hj)) (strs_shaped hok) (strs_shaped hok) hu (SeqAt.noMix_of_shape (.list .str) rfl _ _ (list_map_has fun _ => rfl) (list_map_has fun _ => rfl))
    (by rw [show PySem.Spec.same (.list (ss.map PyData.str)) (.list (ss.map PyData.str)) = true by simp only [PySem.Spec.same]; exact strs_same ss]; exact h)
end
theorem map_S_cps (ss : List Str) : (ss.map cps).map S = ss := by
  rw [List.map_map]
  conv => rhs; rw [← List.map_id ss]
  exact List.map_congr_left fun x _ => S_cps x
/-- the signs of two texts of the same signs, sorted, are the same -/
theorem sorted_same {l1 l2 : List Nat} {s1 s2 : List Str} (hl : l1.Perm l2) (p1 : s1.Perm (l1.map fun c => (⟨#[c]⟩ : Str))) (p2 : s2.Perm (l2.map fun c => (⟨#[c]⟩ : Str)))
    (o1 : s1.Pairwise fun a b => ¬ b.cps.toList < a.cps.toList) (o2 : s2.Pairwise fun a b => ¬ b.cps.toList < a.cps.toList) : s1 = s2 := by
  have h : s1.map cps = s2.map cps := by
    refine sorted_eq ((p1.trans ((hl.map _).trans p2.symm)).map cps) ?_ ?_
    · rw [List.pairwise_map]; exact o1.imp fun h => h
    · rw [List.pairwise_map]; exact o2.imp fun h => h
  rw [← map_S_cps s1, h, map_S_cps]
theorem signs_ok {l : List Nat} {s1 : List Str} (p1 : s1.Perm (l.map fun c => (⟨#[c]⟩ : Str))) (hl : ∀ c ∈ l, c ≤ 126) : s1.all PyData.strOk = true := by
  rw [List.all_eq_true]
  intro x hx
  obtain ⟨c, hc, rfl⟩ := List.mem_map.mp (p1.mem_iff.mp hx)
  have := hl c hc
  simp [PyData.strOk]
  omega
end Mine
end
section
open PySem PySem.W PySem.Calls PyProof.Rows
set_option maxRecDepth 100000
set_option maxHeartbeats 4000000
namespace Mine
theorem slice_cap (x : Str) (k : Nat) : Txt.slice x none (some (k : Int)) = S ((cps x).take k) := by
  by_cases h : k ≤ x.length
  · exact slice_to h
  · rw [slice_to_beyond (by omega), slice_to (Nat.le_refl _)]
    have hl := len_cps x
    rw [List.take_of_length_le (by omega), List.take_of_length_le (by omega)]
theorem slice_less {x : Str} (h : 1 ≤ x.length) : Txt.slice x none (some (-1)) = S ((cps x).take (x.length - 1)) := by
  rw [eq_of_beq (slice_closes_to_neg (x := x) (j := -1) (k := ((x.length - 1 : Nat) : Int)) (by omega) (by omega) (by omega))]
  show (⟨((cps x).drop (0 : Int).toNat).take (((x.length - 1 : Nat) : Int) - 0).toNat |>.toArray⟩ : Str) = _
  have e : (((x.length - 1 : Nat) : Int) - 0).toNat = x.length - 1 := by omega
  rw [e]
  rfl
theorem cap_facts (word : Str) (h : ∀ n ∈ cps word, n = 97 ∨ n = 98 ∨ n = 99) : (Txt.slice word none (some 24)).length ≤ 24 ∧ ∀ n ∈ cps (Txt.slice word none (some 24)), n = 97 ∨ n = 98 ∨ n = 99 := by
  have e := slice_cap word 24
  rw [show ((24 : Nat) : Int) = 24 from rfl] at e
  rw [e]
  refine ⟨?_, fun n hn => h n ?_⟩
  · rw [len_S, List.length_take]; omega
  · rw [cps_S] at hn
    exact List.mem_of_mem_take hn
theorem end_facts {i ec : Nat} (h : (cps (Str.ofString "!*~"))[i]? = some ec) : ec = 33 ∨ ec = 42 ∨ ec = 126 := by
  have h2 : ∀ c ∈ cps (Str.ofString "!*~"), c = 33 ∨ c = 42 ∨ c = 126 := by decide +kernel
  exact h2 _ (List.mem_of_getElem? h)
theorem plain_letters {l : List Nat} (h : ∀ n ∈ l, n = 97 ∨ n = 98 ∨ n = 99) : Plain l := by
  intro c hc
  rcases h c hc with rfl | rfl | rfl <;> decide
theorem plain_end {ec : Nat} (h : ec = 33 ∨ ec = 42 ∨ ec = 126) : Plain [ec] := by
  intro c hc
  rw [List.mem_singleton.mp hc]
  rcases h with rfl | rfl | rfl <;> decide
theorem end_new {l : List Nat} {ec : Nat} (h : ∀ n ∈ l, n = 97 ∨ n = 98 ∨ n = 99) (h2 : ec = 33 ∨ ec = 42 ∨ ec = 126) : ec ∉ l := by
  intro hm
  rcases h ec hm with rfl | rfl | rfl <;> omega
theorem plain_bwt {l : List Nat} (h : Plain l) : Plain (bwt l) := fun c hc => h c ((bwt_perm l).mem_iff.mp hc)
end Mine
end
section
open PySem PySem.W PySem.Calls PyProof.Rows
set_option maxRecDepth 100000
set_option maxHeartbeats 8000000
namespace Mine
local macro_rules | `(tactic| k_steps) => `(tactic| repeat' ((fail_if_success (first | (with_reducible show wpAny _ _ (exec (Stmt.For _ _ _ _ _) _) _ _ _) | (with_reducible show wpAny _ _ (exec (Stmt.While _ _ _ _) _) _ _ _) | (with_reducible show wpAny _ _ (pyIter _) _ _ _) | (with_reducible show wpAny _ _ (call (Value.builtin "sorted") _) _ _ _) | (with_reducible show wpAny _ _ (call (Value.ref 202) _) _ _ _) | (with_reducible show wpAny _ _ (call (Value.ref 231) _) _ _ _) | (with_reducible show wpAny _ _ (call (Value.ref 264) _) _ _ _) | (with_reducible show wpAny _ _ (compareOp CmpOp.NotEq (Value.str _ _) (Value.str _ _)) _ _ _) | (with_reducible show wpAny _ _ (compareOp CmpOp.NotEq (Value.ref _) (Value.ref _)) _ _ _) | (with_reducible show wpAny _ _ (compareOp CmpOp.Eq (Value.str _ _) (Value.str _ _)) _ _ _) | (with_reducible show InvEndG _ _ _ _ _ _) | (with_reducible show InvEndN _ _ _ _ _ _ _))); first | (k_unfold; (try dsimp only)) | (k_end; kc_close) | ((with_reducible show wpAny _ _ (execs _ _) _ _ _); dsimp only; walk1) | walk1 | (dsimp only; walk1) | (leave1; walk_say "STEP leave1"; (try dsimp only)) | fail "no step"))
theorem mod_pos {prog : Program} {w : World} {A : Around} {E : Value → Shared → Prop} {s : Shared} {a b : Int} {t u : Tok} {Q : Value → Shared → Prop} (hb : 0 < b) (h : ∀ r : Int, 0 ≤ r → r < b → Q (.int r s.toks) { s with toks := s.toks + 1 }) :
    wpAny (model prog w) A (binaryOp .Mod (.int a t) (.int b u)) Q E s :=
  mod_int' (by omega) (h _ (by rw [Int.fmod_eq_emod_of_nonneg _ (Int.le_of_lt hb)]; exact Int.emod_nonneg _ (by omega)) (by rw [Int.fmod_eq_emod_of_nonneg _ (Int.le_of_lt hb)]; exact Int.emod_lt_of_pos _ hb))
theorem item_sign {prog : Program} {w : World} {A : Around} {E : Value → Shared → Prop} {s : Shared} {value slice : PySem.Expr} {x : Str} {i : Int} {t u : Tok} {Q : Value → Shared → Prop} (h0 : 0 ≤ i) (h1 : i < (x.length : Int)) (hx : x.length ≤ 5000)
    (h : ∀ c t', (cps x)[i.toNat]? = some c → Q (.str (S [c]) t') { s with toks := s.toks + 1 })
    (hs : subscripted slice false (.str x t) (.int i u) = operate [.str x t, .int i u] (getItem (.str x t) (.int i u)) := by with_unfolding_all rfl)
    (ht : ∀ r, letTemporaryGo value (.str x t) r = pure () := by intro _; with_unfolding_all rfl) : wpAny (model prog w) A (subscriptTail value slice (.str x t) (.int i u)) Q E s := by
  obtain ⟨c, hc⟩ := at_some h0 h1
  have e := item_S h0 hc
  exact item_str (fitsSsize_of (N := 5000) (by omega) (by omega) (by decide)) (by omega) h1 (fun _ => by rw [e]; exact h c _ hc) hs ht
local macro_rules | `(tactic| walk_at "binaryOp Mod int int") => `(tactic| (k_here; (with_reducible show wpAny _ _ (binaryOp Operator.Mod (Value.int _ _) (Value.int _ _)) _ _ _); (refine' mod_pos ?kxaa ?_; (case kxaa => omega)); intro _ _ _))
local macro_rules | `(tactic| walk_at "subscriptTail") => `(tactic| (k_here; (with_reducible show wpAny _ _ (subscriptTail _ _ (Value.str _ _) (Value.int _ _)) _ _ _); (k_dflt (refine' item_sign ?kxaa ?kxab ?kxac ?_; (case kxaa => omega); (case kxab => first | omega | (show _ < (3 : Int); omega)); (case kxac => first | omega | decide))); intro _ _ _))
local macro_rules | `(tactic| walk_at "binaryOp Mult str int") => `(tactic| (k_here; (with_reducible show wpAny _ _ (binaryOp Operator.Mult (Value.str (S [_]) _) (Value.int _ _)) _ _ _); (k_dflt (refine' mul_letter ?kxaa ?kxab ?_; (case kxaa => omega); (case kxab => omega))); intro _ _))
local macro_rules | `(tactic| walk_at "binaryOp Add str str") => `(tactic| (k_here; (with_reducible show wpAny _ _ (binaryOp Operator.Add (Value.str _ _) (Value.str _ _)) _ _ _); (k_dflt (refine' add_texts ?kxaa ?kxab ?_; (case kxaa => first | omega | (simp only [len_S, List.length_replicate, Str.length_append] at *; omega)); (case kxab => first | omega | (simp only [len_S, List.length_replicate, List.length_cons, List.length_nil] at *; omega)))); intro _ _))
local macro_rules | `(tactic| walk_at "call ref") => `(tactic| (k_here; (with_reducible show wpAny _ _ (call (Value.ref 243) [Value.ref _, Value.int _ _, Value.int _ _]) _ _ _); k_dflt (refine' law_at _ _ _ _ _ _ _ ?kxaa ?kxab ?kxac ?kxad _ _ _ _ _ _ _ _ _ _ _ _ _ _ _ _ _ _ _ _ _ _ _ _ _ ?k1 ?k2 ?k3 ?kxl ?k4 ?k5 ?kK ?kd ?ku ?_; (case kxaa => assumption); (case kxab => omega); (case kxac => omega); (case kxad => omega); (case k1 => k_asm); (case k2 => k_asm); (case k3 => k_asm); (case kxl => assumption); (case k4 => k_asm); (case k5 => k_asm); (case kK => exact rfl); (case kd => ktr_room); (case ku => ktr_units); intro z9 t9 h9 tk9 F9 N9; (try dsimp only); (try k_fold))))
local macro_rules | `(tactic| walk_at "call ref") => `(tactic| (k_here; (with_reducible show wpAny _ _ (call (Value.ref 202) [Value.ref _, Value.str _ _]) _ _ _); k_dflt (refine' Ctr.use (rle_compress _ _ _ ?kxaa) ?k1 ?k2 ?k3 ?k4 ?k5 ?kK ?kd ?ku ?_; (case kxaa => first | assumption | omega); (case k1 => k_asm); (case k2 => k_asm); (case k3 => k_asm); (case k4 => k_asm); (case k5 => k_asm); (case kK => exact rfl); (case kd => ktr_room); (case ku => ktr_units); intro t9 h9 tk9 F9 N9; (try dsimp only); (try k_fold))))
local macro_rules | `(tactic| walk_at "call ref") => `(tactic| (k_here; (with_reducible show wpAny _ _ (call (Value.ref 257) [Value.str _ _, Value.str _ _]) _ _ _); k_dflt (refine' Ctr.use (short_rle ?kxaa ?kxab ?kxac) ?k1 ?k2 ?k3 ?k4 ?k5 ?kK ?kd ?ku ?_; (case kxaa => first | exact rfl | exact cps_S _); (case kxab => assumption); (case kxac => assumption); (case k1 => k_asm); (case k2 => k_asm); (case k3 => k_asm); (case k4 => k_asm); (case k5 => k_asm); (case kK => exact rfl); (case kd => ktr_room); (case ku => ktr_units); intro t9 h9 tk9 F9 N9; (try dsimp only); (try k_fold))))
local macro_rules | `(tactic| walk_at "call ref") => `(tactic| (k_here; (with_reducible show wpAny _ _ (call (Value.ref 250) [Value.str _ _]) _ _ _); k_dflt (refine' Ctr.use (read_rle ?kxaa ?kxab) ?k1 ?k2 ?k3 ?k4 ?k5 ?kK ?kd ?ku ?_; (case kxaa => assumption); (case kxab => assumption); (case k1 => k_asm); (case k2 => k_asm); (case k3 => k_asm); (case k4 => k_asm); (case k5 => k_asm); (case kK => exact rfl); (case kd => ktr_room); (case ku => ktr_units); intro t9 h9 tk9 F9 N9; (try dsimp only); (try k_fold))))
local macro_rules | `(tactic| walk_at "eval Call") => `(tactic| (k_here; (with_reducible show wpAny _ _ (eval (Expr.Call (Expr.Name _ _) _ [] _) _) _ _ _); k_dflt (refine Call_ ?_)))

abbrev StL := Str × Tok
abbrev qvalDict (w : World) (tq : Tok) : Obj := dictOf [{ hash := PyData.keyHash w.params "qval", key := .str "qval" tq, val := .int 1 378 }] 1
/-- the law's end, in one word: True, the base kept but for the tables set aside -/
def EndT (tabs : List (Addr × Addr)) (s₁ : Shared) (r : Result) (s' : Shared) : Prop :=
  r = .ok (.ret (.bool true)) ∧ (∀ b o, (ghostOf s₁.heap tabs).get? b = some o → s'.heap.get? b = some o) ∧ GrownAll tabs s'.heap ∧ s'.os = s₁.os ∧ AllBare s'.gens

theorem end_T {M : Model} {A : Around} {cd : Code} {s s₁ : Shared} {cw : ClaimW} {cl : Str → Option Addr} {mean : ExcName → Option Value} {args : List WData} {tabs : List (Addr × Addr)} (hT : TabsAt tabs s₁.heap) (hr : ∀ a x, cw.raises a x = false)
    (hp : cw.post args (.bool true) args = true)
    (h : codeAny M A cd (EndT tabs s₁) s) : codeAny M A cd (GoodWG cw cl mean args s₁) s :=
  codeAny_mono h fun r s' ⟨hv, hk, hgr, hos, hg⟩ => by
    refine ⟨.inl ⟨.bool true, .bool true, [], hv, fun x => hr _ x, .bool true, hp, fun _ => ⟨List.nodup_nil, fun _ h => nomatch h⟩⟩, ⟨fun b o e => ?_, fun b o e => ?_⟩, hos, hg⟩
    · by_cases hb : b ∈ tabs.map (·.2)
      · obtain ⟨q, hq, hqb⟩ := List.mem_map.mp hb
        obtain ⟨ps, hps⟩ := hgr.get q hq
        obtain ⟨c1, c2⟩ := hT q hq
        rw [hqb] at c2 hps
        rw [e] at c2
        cases c2
        have ht := (c1.tab (hqb ▸ e)).isCodeTable
        rw [hqb] at ht
        exact .inr (.inl ⟨ht, rfl, #[], ps, rfl, by rw [Array.empty_append]; exact hps⟩)
      · exact .inl (hk b o (ghost_ne e hb))
    · by_cases hb : b ∈ tabs.map (·.2)
      · obtain ⟨q, hq, hqb⟩ := List.mem_map.mp hb
        obtain ⟨ps, hps⟩ := hgr.get q hq
        exact ⟨_, hqb ▸ hps⟩
      · exact ⟨o, hk b o (ghost_ne e hb)⟩
theorem many_text (l : List Nat) : S l ++ S [97] = S (l ++ [97]) := S_append l [97]
theorem turned_len {l : List Nat} {e : Nat} (h : l.length ≤ 24) : (turned l e).length ≤ 30 := by
  unfold turned
  by_cases h0 : l = []
  · rw [if_pos h0]; exact Nat.le_trans (Nat.le_refl 1) (by omega)
  · rw [if_neg h0]
    by_cases h1 : e ∈ l
    · rw [if_pos h1]; omega
    · rw [if_neg h1, bwt_length, List.length_append, List.length_singleton]; omega
theorem turned_plain {l : List Nat} {e : Nat} (h : Plain l) (h2 : Plain [e]) : Plain (turned l e) := by
  unfold turned
  by_cases h0 : l = []
  · rw [if_pos h0]; exact h2
  · rw [if_neg h0]
    by_cases h1 : e ∈ l
    · rw [if_pos h1]; exact h
    · rw [if_neg h1]; exact plain_bwt (h.app h2)
theorem strs_one : ∀ {vs : List Value} {a b : List Str}, StrsAre vs a → StrsAre vs b → a = b
  | _, _, _, .nil, .nil => rfl
  | _, _, _, .cons _ _ r, .cons _ _ r2 => by rw [strs_one r r2]
theorem end_at {s₁ s' : Shared} {b : Bool} {L : Addr} {news : List (Addr × Obj)} {m : Str → Option Value} {ps ps2 : Array Value} (hb : b = true) (F : Fr (ghostOf s₁.heap [(263, 259), (230, 226)]) L s'.heap m) (N : News (ghostOf s₁.heap [(263, 259), (230, 226)]) L s'.heap news)
    (h1 : (259, tabObj ps) ∈ news) (h2 : (226, tabObj ps2) ∈ news) (ho : s'.os = s₁.os) (hg : AllBare s'.gens) : EndT [(263, 259), (230, 226)] s₁ (.ok (.ret (.bool b))) s' :=
  ⟨by rw [hb], F.keep, ⟨GrownAt.of N h1, GrownAt.of N h2, trivial⟩, ho, hg⟩
theorem law_holds : PySem.Challenge.rw_eu0040_01.Holds := hd (by
  w_strict (
    k_fill
    intro w s₀ s₁ mg mb G Y fa o pm cd doc dV kV ho hd' hcd hD hmg hg args vals as hpre hlay hrd hwl hlo
    have KX := km_in_of Y
    have hT8 := km_tabs_of Y
    have X := (Ground.X G).1
    have V := (Ground.X G).2
    refine Ground.open G ?_
    intro T B D TE TW
    try (refine guard_noD D (by decide +kernel) ?_; clear D)
    have hT9 : TabsAt [(263, 259), (230, 226)] s₁.heap := List.forall_mem_cons.mpr ⟨⟨codeHd_of_K KX (by kernel_rfl), hT8 259 (by simp)⟩, List.forall_mem_cons.mpr ⟨⟨codeHd_of_K KX (by kernel_rfl), hT8 226 (by simp)⟩, fun _ h => nomatch h⟩⟩
    clear hmg
    wrow_args hpre hlay hrd hwl hlo
    first | refine callC_kw (enter_call ?_) | refine enter_call ?_
    w_top on
    refine end_T hT9 (fun _ _ => rfl) ?_ ?_
    · exact postW_of (by wrow_shape) (by wtm_val) (by str_meet; first | done | w_fin)
    w_call any ho hd' hcd hD T F
    clear hd'
    kn_ghosts F T
    k_drop
    (try k_fold)
    rename IntsAre _ _ => hI
    rename_i hcond1 hcond2 _ _ _ _ _ _ _ _ _
    k_steps
    rename Fr _ _ _ _ => F1
    rename News _ _ _ _ => N1
    k_here
    with_unfolding_all refine' For_invVF F1 ?k1 ?k2 ?_ ?_ PassesOwn.leaving
    case k1 => exact rfl
    case k2 => exact rfl
    rotate_left
    · intro _; rfl
    k_steps
    rename Fr _ _ _ _ => F8
    rename News _ _ _ _ => N8
    rename Int => r5
    rename r5 < 5 => hr5
    rename 0 ≤ r5 => hr0
    with_unfolding_all refine' kst_range (σ := StL) (n := r5.toNat) (fun _ => [(259, tabObj #[]), (226, tabObj #[])]) (fun c => [("word", .str c.1 c.2)]) (fun _ => True) []
                                (fun pre c => c.1.length ≤ 14 * pre.length ∧ ∀ n ∈ cps c.1, n = 97 ∨ n = 98 ∨ n = 99) (_, _) rfl ?hr ?hsm ?hn F8 ?hN trivial ?hk ?hp ?turn ?done
    case hr => assumption
    case hsm => exact small_one (by omega) (by omega) (by omega) (by omega)
    case hn => rw [rangeSize_nat]; omega
    case hN => exact kst_newsOf N8 (by kst_in)
    case hk => kst_all
    case hp => exact ⟨Nat.le_refl _, fun n hn => (nomatch hn)⟩
    case turn =>
      rintro ⟨word, tw⟩ pre k t u h tk own hk1 hk2 hoff hT ⟨g1, g2⟩ F2 N2
      clear F8 N8
      dsimp only [kstB] at F2
      dsimp only at g1 g2 N2
      have hk3 : k < 5 := by omega
      have hk4 : 0 ≤ k := by omega
      have hwl : word.length ≤ 70 := by omega
      k_steps
      rename Fr _ _ _ _ => F5
      rename News _ _ _ _ => N5
      refine' kst_end (word ++ S _, _) F5 N5 (by kst_inAny) (by kst_inAny) rfl trivial ?a1 ?a2 ?a3
      case a1 => kst_all
      case a2 => kst_same
      case a3 =>
        rename (cps (Str.ofString "abc"))[_]? = some _ => habc
        have hc3 := List.mem_of_getElem? habc
        have hc4 : ∀ c ∈ cps (Str.ofString "abc"), c = 97 ∨ c = 98 ∨ c = 99 := by decide +kernel
        have hc5 := hc4 _ hc3
        refine ⟨?_, ?_⟩
        · rw [Str.length_append, len_S, List.length_replicate, List.length_append, List.length_singleton]
          omega
        · intro n hn
          rw [cps_app, cps_S] at hn
          rcases List.mem_append.mp hn with hn | hn
          · exact g2 n hn
          · rw [(List.mem_replicate.mp hn).2]
            exact hc5
    case done =>
      rintro ⟨word, tw⟩ u h tk hT ⟨g1, g2⟩ F2 N2
      clear F8 N8
      dsimp only [kstB] at F2
      dsimp only at g1 g2 N2
      rw [rangeKs_length] at g1
      have hwl : word.length ≤ 70 := by omega
      clear F1 N1
      k_steps
      rename Fr _ _ _ _ => F3
      rename News _ _ _ _ => N3
      rename_i ec te hend _ _ xp dpp _ lp1 lp2 _ _ _ _ _ _ _ _ _ _ _ _ _ _ _ _ xt dt _ lt1 lt2 _ _ _ _ _ _ _ _ _ _ _ _ _ D9 _ _ _ _ hh
      have hec := end_facts hend
      obtain ⟨wl, wlet⟩ := cap_facts word g2
      generalize Txt.slice word none (some 24) = W at F3 wl wlet ⊢
      have hpl := plain_letters wlet
      have hpe := plain_end hec
      have hnew := end_new wlet hec
      have hWl := len_cps W
      have hW4 : W.length ≤ 400 := by omega
      have hWc : (cps W).length ≤ 400 := by omega
      obtain ⟨tkk, tq, N4⟩ : ∃ tkk tq, News (ghostOf s₁.heap [(263, 259), (230, 226)]) s₁.heap.objs.size hh ((226, tabObj #[]) :: (xt, instObj 234 dt) :: (dt, selfDict w ec te tkk) :: (xp, instObj 205 dpp) :: (dpp, qvalDict w tq) :: (259, tabObj #[]) :: []) := ⟨_, _, kst_newsOf N3 (by
        intro q hq
        rcases List.mem_cons.mp hq with rfl | hq
        · exact .tail _ (.tail _ (.tail _ (.tail _ (.tail _ (.tail _ (.head _))))))
        rcases List.mem_cons.mp hq with rfl | hq
        · exact .tail _ (.head _)
        rcases List.mem_cons.mp hq with rfl | hq
        · exact .tail _ (.tail _ (.head _))
        rcases List.mem_cons.mp hq with rfl | hq
        · exact .tail _ (.tail _ (.tail _ (.head _)))
        rcases List.mem_cons.mp hq with rfl | hq
        · exact .tail _ (.tail _ (.tail _ (.tail _ (.head _))))
        rcases List.mem_cons.mp hq with rfl | hq
        · exact .tail _ (.tail _ (.tail _ (.tail _ (.tail _ (.head _)))))
        · exact nomatch hq)⟩
      clear N3
      walk1
      k_steps
      have hrl : (S (rle (cps W))).length ≤ 400 := by rw [len_S]; exact Nat.le_trans (rle_len _ hWc) hWc
      walk1
      k_steps
      · rename _ ≠ _ => hbad
        exact absurd rfl hbad
      rename Int => rm
      rename rm < 300 => hr3
      rename 0 ≤ rm => hr2
      have en : Txt.mul "a" (3 + rm) = S (List.replicate (3 + rm).toNat 97) := mul_S 97 (by omega)
      have ed : Str.ofString (toString (3 + rm)) = S (dig (3 + rm).toNat) := by
        rw [← dig_str, Int.toNat_of_nonneg (by omega)]
      have hnl : (S (List.replicate (3 + rm).toNat 97)).length ≤ 400 := by rw [len_S, List.length_replicate]; omega
      rw [en]
      walk1
      k_steps
      rename Fr _ _ _ _ => F4
      rename News _ _ _ _ => N5
      refine' ne_known (b := false) ?_ ?_
      · rw [cps_S, rle_replicate (by omega), ed, show S (dig (3 + rm).toNat) ++ "a" = S (dig (3 + rm).toNat ++ [97]) from many_text _, bne_self_eq_false]
      k_steps
      have hG0 : AllBare s₁.gens := by rw [hg]; exact fun _ h => nomatch h
      have hW40 : W.length ≤ 40 := by omega
      have ht1 : (turned (cps W) ec).length ≤ 30 := turned_len (by omega)
      have htl : (turned (cps W) ec).length ≤ 400 := by omega
      have hts : (S (turned (cps W) ec)).length ≤ 400 := by rw [len_S]; exact htl
      have htp : Plain (turned (cps W) ec) := turned_plain hpl hpe
      have hqs : (S (rle (turned (cps W) ec))).length ≤ 400 := by rw [len_S]; exact Nat.le_trans (rle_len _ htl) htl
      by_cases h0 : cps W = []
      · have hW0 : W = S [] := by rw [← h0, S_cps]
        have ht0 : S (rle (turned (cps W) ec)) = S [ec] := by rw [h0]; unfold turned; rw [if_pos rfl, rle_one]
        refine' eq_known (b := true) ?_ ?_
        · rw [hW0]; rfl
        k_steps
        k_here
        k_dflt (refine' bwt_compress _ _ _ _ _ _ _ ?kxaa _ _ _ _ _ _ _ _ _ _ _ _ _ _ _ _ _ _ _ _ _ _ _ _ _ ?k1 ?k2 ?k3 ?kC ?kG ?kn ?kx ?ky ?k4 ?kt ?k5 ?kK ?kd ?ku ?_)
        case k1 => k_dflt (k_asm)
        case k2 => k_dflt (k_asm)
        case k3 => k_dflt (k_asm)
        case k4 => k_dflt (k_asm)
        case k5 => k_dflt (k_asm)
        case kxaa => k_dflt (first | omega | assumption)
        case kC => k_dflt (assumption)
        case kG => k_dflt (assumption)
        case kx => k_dflt (exact Nat.ne_of_gt (by omega))
        case ky => k_dflt (exact Nat.ne_of_gt (by omega))
        case kn => k_dflt (intro q hq; simp only [List.mem_cons, List.not_mem_nil, or_false] at hq; rcases hq with rfl | rfl | rfl <;> exact Nat.ne_of_gt (by (first | decide | (dsimp only; omega))))
        case kt => k_dflt (first | assumption | exact trivial)
        case kK => k_dflt (exact rfl)
        case kd => k_dflt (ktr_room)
        case ku => k_dflt (ktr_units)
        intro tt1 st1 ps1 Ft1 Nt1 tr1 os1 gb1
        (try dsimp only)
        (try k_fold)
        k_steps
        refine' eq_known (b := true) ?_ ?_
        · rw [ht0, beq_self_eq_true]
        have ht3 : (S (rle (turned (cps W) ec))).length = 1 := by rw [ht0, len_S]; rfl
        k_steps
        k_here
        k_dflt (refine' bwt_compress _ _ _ _ _ _ _ ?kxaa _ _ _ _ _ _ _ _ _ _ _ _ _ _ _ _ _ _ _ _ _ _ _ _ _ ?k1 ?k2 ?k3 ?kC ?kG ?kn ?kx ?ky ?k4 ?kt ?k5 ?kK ?kd ?ku ?_)
        case k1 => k_dflt (k_asm)
        case k2 => k_dflt (k_asm)
        case k3 => k_dflt (k_asm)
        case k4 => k_dflt (k_asm)
        case k5 => k_dflt (k_asm)
        case kxaa => k_dflt (first | omega | assumption)
        case kC => k_dflt (assumption)
        case kG => k_dflt (assumption)
        case kx => k_dflt (exact Nat.ne_of_gt (by omega))
        case ky => k_dflt (exact Nat.ne_of_gt (by omega))
        case kn => k_dflt (intro q hq; simp only [List.mem_cons, List.not_mem_nil, or_false] at hq; rcases hq with rfl | rfl | rfl <;> exact Nat.ne_of_gt (by (first | decide | (dsimp only; omega))))
        case kt => k_dflt (first | assumption | exact trivial)
        case kK => k_dflt (exact rfl)
        case kd => k_dflt (ktr_room)
        case ku => k_dflt (ktr_units)
        intro tt2 st2 ps2 Ft2 Nt2 tr2 os2 gb2
        (try dsimp only)
        (try k_fold)
        k_steps
        rename Fr _ _ _ _ => Fz
        rename News _ _ _ _ => Nz
        exact end_at (by rw [ht3]; rfl) Fz Nz (ps := #[]) (ps2 := ps2) (.tail _ (.tail _ (.tail _ (.tail _ (.tail _ (.head _)))))) (.head _) (os2.trans os1) gb2
      · have hW0 : (W == S []) = false := by
          rw [beq_eq_false_iff_ne]
          intro e
          exact h0 (by rw [e, cps_S])
        refine' eq_known (b := false) hW0 ?_
        have ht2 : turned (cps W) ec = bwt (cps W ++ [ec]) := by unfold turned; rw [if_neg h0, if_neg hnew]
        k_steps
        k_here
        k_dflt (refine' bwt_compress _ _ _ _ _ _ _ ?kxaa _ _ _ _ _ _ _ _ _ _ _ _ _ _ _ _ _ _ _ _ _ _ _ _ _ ?k1 ?k2 ?k3 ?kC ?kG ?kn ?kx ?ky ?k4 ?kt ?k5 ?kK ?kd ?ku ?_)
        case k1 => k_dflt (k_asm)
        case k2 => k_dflt (k_asm)
        case k3 => k_dflt (k_asm)
        case k4 => k_dflt (k_asm)
        case k5 => k_dflt (k_asm)
        case kxaa => k_dflt (first | omega | assumption)
        case kC => k_dflt (assumption)
        case kG => k_dflt (assumption)
        case kx => k_dflt (exact Nat.ne_of_gt (by omega))
        case ky => k_dflt (exact Nat.ne_of_gt (by omega))
        case kn => k_dflt (intro q hq; simp only [List.mem_cons, List.not_mem_nil, or_false] at hq; rcases hq with rfl | rfl | rfl <;> exact Nat.ne_of_gt (by (first | decide | (dsimp only; omega))))
        case kt => k_dflt (first | assumption | exact trivial)
        case kK => k_dflt (exact rfl)
        case kd => k_dflt (ktr_room)
        case ku => k_dflt (ktr_units)
        intro tt3 st3 ps3 Ft3 Nt3 tr3 os3 gb3
        (try dsimp only)
        (try k_fold)
        k_steps
        rename Fr _ _ _ _ => Fa
        rename News _ _ _ _ => Na
        have hsg : ∀ c ∈ turned (cps W) ec, c ≤ 126 := by
          intro c hc
          rw [ht2] at hc
          rcases List.mem_append.mp ((bwt_perm _).mem_iff.mp hc) with hc | hc
          · rcases wlet c hc with rfl | rfl | rfl <;> omega
          · rw [List.mem_singleton.mp hc]; omega
        k_here
        k_dflt (refine' sorted_texts (gather_text Fa Na rfl (Nat.le_trans hts (by decide))) ?_ ?_)
        · intro vs h
          exact ⟨by rw [h.1, len_S]; omega, _, h.2⟩
        intro vsA ssA sA hpA hsA hcA DA eA hA vsA' ssA' FA NA ltA hsA2 permA sortA
        rw [strs_one hsA hpA.2] at permA
        clear Fa Na
        (try dsimp only)
        (try k_fold)
        have hel : (S [ec]).length ≤ 1 := by rw [len_S]; exact Nat.le_refl 1
        have hwe : (W ++ S [ec]).length ≤ 40 := by rw [Str.length_append, len_S]; simp only [List.length_cons, List.length_nil]; omega
        k_steps
        k_here
        rename Fr _ _ _ _ => Fb
        rename News _ _ _ _ => Nb
        k_dflt (refine' sorted_texts (gather_text Fb Nb rfl (Nat.le_trans hwe (by decide))) ?_ ?_)
        · intro vs h
          exact ⟨by rw [h.1]; omega, _, h.2⟩
        intro vsB ssB sB hpB hsB hcB DB eB hB vsB' ssB' FB NB ltB hsB2 permB sortB
        rw [strs_one hsB hpB.2] at permB
        clear Fb Nb
        (try dsimp only)
        (try k_fold)
        k_steps
        k_here
        have hsame : ssA' = ssB' := sorted_same (l1 := turned (cps W) ec) (l2 := cps W ++ [ec]) (by rw [ht2]; exact bwt_perm _) permA (by rw [← show cps (W ++ S [ec]) = cps W ++ [ec] by rw [cps_app, cps_S]]; exact permB) sortA sortB
        refine' ne_texts ⟨_, (NB _ (.tail _ (.head _))).1, rfl, eA, rfl⟩ ⟨_, (NB _ (.head _)).1, rfl, eB, rfl⟩ hsA2 (hsame ▸ hsB2) (signs_ok permA hsg) ?_ ?_
        · first | ktr_units | decide
        k_steps
        rename Fr _ _ _ _ => Fc
        rename News _ _ _ _ => Nc
        have hv1 : 1 ≤ (cps W).length := List.length_pos_iff.mpr h0
        have Nd : News (ghostOf s₁.heap [(263, 259), (230, 226)]) s₁.heap.objs.size hB ((259, tabObj #[]) :: (226, tabObj ps3) :: (xt, instObj 234 dt) :: (dt, selfDict w ec te tkk) :: (xp, instObj 205 dpp) :: (dpp, qvalDict w tq) :: []) := kst_newsOf Nc (by
          intro q hq
          rcases List.mem_cons.mp hq with rfl | hq
          · exact .tail _ (.tail _ (.tail _ (.tail _ (.tail _ (.tail _ (.tail _ (.head _)))))))
          · rcases List.mem_cons.mp hq with rfl | hq
            · exact .tail _ (.tail _ (.head _))
            rcases List.mem_cons.mp hq with rfl | hq
            · exact .tail _ (.tail _ (.tail _ (.head _)))
            rcases List.mem_cons.mp hq with rfl | hq
            · exact .tail _ (.tail _ (.tail _ (.tail _ (.head _))))
            rcases List.mem_cons.mp hq with rfl | hq
            · exact .tail _ (.tail _ (.tail _ (.tail _ (.tail _ (.head _)))))
            rcases List.mem_cons.mp hq with rfl | hq
            · exact .tail _ (.tail _ (.tail _ (.tail _ (.tail _ (.tail _ (.head _))))))
            · exact nomatch hq)
        clear Nc
        have hcd : CodeHd (ghostOf s₁.heap [(263, 259), (230, 226)]) 263 259 := by assumption
        k_here
        k_dflt (refine' law_undone _ (cps W) ec _ _ ?kxa ?kxb ?kxc ?kxd _ _ _ _ _ _ _ _ _ _ _ _ _ _ _ _ _ _ _ _ _ _ _ _ _ ?k1 ?k2 ?k3 ?kC ?kn ?k4 ?k5 ?kK ?kd ?ku ?_)
        case kxa => rw [cps_S, ht2]
        case kxb => exact hnew
        case kxc => exact hv1
        case kxd => omega
        case k1 => k_dflt (k_asm)
        case k2 => k_dflt (k_asm)
        case k3 => k_dflt (k_asm)
        case k4 => exact Nd
        case k5 => k_dflt (k_asm)
        case kC => k_dflt (assumption)
        case kn => k_dflt (intro q hq; simp only [List.mem_cons, List.not_mem_nil, or_false] at hq; rcases hq with rfl | rfl | rfl | rfl | rfl <;> first | exact Nat.ne_of_lt (show (226 : Nat) < 259 by decide) | (exact Nat.ne_of_gt (by (dsimp only; omega))))
        case kK => k_dflt (exact rfl)
        case kd => k_dflt (ktr_room)
        case ku => k_dflt (ktr_units)
        intro tu hu9 tku psu Fu Nu
        clear Fc Nd
        (try dsimp only)
        (try k_fold)
        k_steps
        refine' ne_known (b := false) ?_ ?_
        · rw [S_cps, bne_self_eq_false]
        k_steps
        rename Fr _ _ _ _ => Fc
        rename News _ _ _ _ => Nc
        have Nd := kst_newsOf (l' := (226, tabObj ps3) :: (xt, instObj 234 dt) :: (dt, selfDict w ec te tkk) :: (259, tabObj psu) :: (xp, instObj 205 dpp) :: (dpp, qvalDict w tq) :: []) Nc (by
          intro q hq
          rcases List.mem_cons.mp hq with rfl | hq
          · exact .tail _ (.head _)
          · rcases List.mem_cons.mp hq with rfl | hq
            · exact .tail _ (.tail _ (.head _))
            rcases List.mem_cons.mp hq with rfl | hq
            · exact .tail _ (.tail _ (.tail _ (.head _)))
            rcases List.mem_cons.mp hq with rfl | hq
            · exact .head _
            exact .tail _ (.tail _ (.tail _ (.tail _ hq))))
        clear Nc
        k_here
        k_dflt (refine' bwt_compress _ _ _ _ _ _ _ ?kxaa _ _ _ _ _ _ _ _ _ _ _ _ _ _ _ _ _ _ _ _ _ _ _ _ _ ?k1 ?k2 ?k3 ?kC ?kG ?kn ?kx ?ky ?k4 ?kt ?k5 ?kK ?kd ?ku ?_)
        case k1 => k_dflt (k_asm)
        case k2 => k_dflt (k_asm)
        case k3 => k_dflt (k_asm)
        case k4 => exact Nd
        case k5 => k_dflt (k_asm)
        case kxaa => k_dflt (first | omega | assumption)
        case kC => k_dflt (assumption)
        case kG => exact hcB.1 ▸ hcA.1 ▸ gb3
        case kx => k_dflt (exact Nat.ne_of_gt (by omega))
        case ky => k_dflt (exact Nat.ne_of_gt (by omega))
        case kn => k_dflt (intro q hq; simp only [List.mem_cons, List.not_mem_nil, or_false] at hq; rcases hq with rfl | rfl | rfl <;> exact Nat.ne_of_gt (by (first | decide | (dsimp only; omega))))
        case kt => exact tr3
        case kK => k_dflt (exact rfl)
        case kd => k_dflt (ktr_room)
        case ku => k_dflt (ktr_units)
        intro tt4 st4 ps4 Ft4 Nt4 tr4 os4 gb4
        clear Fc Nd
        (try dsimp only)
        (try k_fold)
        k_steps
        · rename _ ≠ _ => hbad
          exact absurd rfl hbad
        have hot : Txt.slice W none (some (-1)) = S ((cps W).take (W.length - 1)) := slice_less (by omega)
        have hof : ((cps W).take (W.length - 1)).length ≤ 24 := by rw [List.length_take]; omega
        have hne9 : ((S (rle (cps (S ((cps W).take (W.length - 1)))))) != S (rle (cps W))) = true := by
          rw [bne_iff_ne, cps_S]
          intro e
          have e2 := congrArg List.length (rle_inj (by omega) (by omega) (fun c hc => hpl c (List.mem_of_mem_take hc)) hpl (S_inj e))
          rw [List.length_take] at e2
          omega
        rw [hot]
        generalize (cps W).take (W.length - 1) = O at hof hne9
        have hO4 : (S O).length ≤ 400 := by rw [len_S]; omega
        walk1
        k_steps
        refine' ne_known (b := true) hne9 ?_
        k_steps
        rename Fr _ _ _ _ => Fc
        rename News _ _ _ _ => Nc
        have hct : cps (W ++ S [ec]) = cps W ++ [ec] := by rw [cps_app, cps_S]
        have htu : turned (cps (W ++ S [ec])) ec = cps (W ++ S [ec]) := by
          unfold turned
          rw [hct, if_neg (by simp), if_pos (by simp)]
        k_here
        k_dflt (refine' bwt_compress _ _ _ _ _ _ _ ?kxaa _ _ _ _ _ _ _ _ _ _ _ _ _ _ _ _ _ _ _ _ _ _ _ _ _ ?k1 ?k2 ?k3 ?kC ?kG ?kn ?kx ?ky ?k4 ?kt ?k5 ?kK ?kd ?ku ?_)
        case k1 => k_dflt (k_asm)
        case k2 => k_dflt (k_asm)
        case k3 => k_dflt (k_asm)
        case k4 => exact Nc
        case k5 => k_dflt (k_asm)
        case kxaa => exact hwe
        case kC => k_dflt (assumption)
        case kG => exact gb4
        case kx => k_dflt (exact Nat.ne_of_gt (by omega))
        case ky => k_dflt (exact Nat.ne_of_gt (by omega))
        case kn => k_dflt (intro q hq; simp only [List.mem_cons, List.not_mem_nil, or_false] at hq; rcases hq with rfl | rfl | rfl <;> exact Nat.ne_of_gt (by (first | decide | (dsimp only; omega))))
        case kt => exact tr4
        case kK => k_dflt (exact rfl)
        case kd => k_dflt (ktr_room)
        case ku => k_dflt (ktr_units)
        intro tt5 st5 ps5 Ft5 Nt5 tr5 os5 gb5
        clear Fc Nc
        (try dsimp only)
        (try k_fold)
        have hw4 : (W ++ S [ec]).length ≤ 400 := by omega
        k_steps
        walk1
        k_steps
        refine' eq_known (b := true) (by rw [htu, beq_self_eq_true]) ?_
        k_steps
        rename Fr _ _ _ _ => Fz
        rename News _ _ _ _ => Nz
        refine end_at rfl Fz Nz (ps := psu) (ps2 := ps5) (.tail _ (.tail _ (.tail _ (.head _)))) (.head _) ?_ gb5
        exact os5.trans (os4.trans (hcB.2.1.trans (hcA.2.1.trans os3)))))
end Mine
end
theorem PySem.Challenge.cw_eu0040_01_holds : PySem.Challenge.rw_eu0040_01.Holds := by
  exact Mine.law_holds
