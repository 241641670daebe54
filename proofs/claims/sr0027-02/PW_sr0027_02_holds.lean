import PyProof.Rows.All
import Wide.All
import OpenK.AllK
import Wide.FinOn
import PySem.Challenge.RW_sr0027_02
open PySem PySem.W PyProof.Rows
set_option Elab.async false
set_option compiler.extract_closed false
set_option maxRecDepth 100000
namespace Mine
section
set_option maxRecDepth 100000 in
set_option maxHeartbeats 8000000 in
open_top hd for PySem.Challenge.rw_sr0027_02
end

local macro_rules | `(tactic| omega) => `(tactic| first | lia | omega (splitDisjunctions := true))
section
/-- the shape of a contract: a call of the def at f with the values vs, the ledger led -/
noncomputable abbrev Asks (lv : Nat) (w : World) (loose : List Str) (mean : ExcName → Option Value) (mg mb : Str → Option Value) (f : Addr) (led : List (Addr × Obj)) (vs : List Value)
    (ret : Heap → Addr → (Str → Option Value) → Shared → (Value → Shared → Prop) → Prop) : Prop :=
  ∀ (dp un : Nat) (gd : Option (List Code)) (cn : Str) (cs : Scope) (a : Addr) (ccd : Value) (cl : List (Str × Addr)) (outer : List Env) (A₀ : Around) (base h₀ : Heap) (L : Addr) (m : Str → Option Value) (s : Shared) (Q E : Value → Shared → Prop),
    Below A₀ base outer h₀ → Fr h₀ L s.heap m → (hd.heap_39 w.params).In h₀ → News h₀ L s.heap led → Top topProg loose mean mg mb h₀ → cs.kind = .function →
    dp + lv < recursionLimit → un + 10 * lv < cLine → CodeHd base 96 92 → ret h₀ L m s Q →
      codeAny (model Challenge.rw_sr0027_02.row.prog w) (ktrTop dp un gd cn cs L a ccd cl outer) (.call (.ref f) ⟨vs, []⟩) (fun r s' => match r with | .ok (.ret v) => Q v s' | .ok _ => False | .error e => E e s') s

theorem allLt_ne {d d' : Addr} : ∀ {l : List (Addr × Obj)}, AllLt d l → @LE.le Nat _ d d' → ∀ p ∈ l, p.1 ≠ d'
  | [], _, _, _, hp => nomatch hp
  | _ :: _, h, hd, p, hp => by
    rcases List.mem_cons.mp hp with rfl | hp
    · exact Nat.ne_of_lt (Nat.lt_of_lt_of_le h.1 hd)
    · exact allLt_ne h.2 hd p hp
theorem al1 {d d' : Addr} {l : List (Addr × Obj)} {a0 : Prop} (h : a0 ∧ AllLt d l) (hd : @LE.le Nat _ d d') : ∀ p ∈ l, p.1 ≠ d' := allLt_ne (h.2) hd
theorem al3 {d d' : Addr} {l : List (Addr × Obj)} {a0 a1 a2 : Prop} (h : a0 ∧ a1 ∧ a2 ∧ AllLt d l) (hd : @LE.le Nat _ d d') : ∀ p ∈ l, p.1 ≠ d' := allLt_ne (h.2.2.2) hd
theorem al4 {d d' : Addr} {l : List (Addr × Obj)} {a0 a1 a2 a3 : Prop} (h : a0 ∧ a1 ∧ a2 ∧ a3 ∧ AllLt d l) (hd : @LE.le Nat _ d d') : ∀ p ∈ l, p.1 ≠ d' := allLt_ne (h.2.2.2.2) hd
theorem al5 {d d' : Addr} {l : List (Addr × Obj)} {a0 a1 a2 a3 a4 : Prop} (h : a0 ∧ a1 ∧ a2 ∧ a3 ∧ a4 ∧ AllLt d l) (hd : @LE.le Nat _ d d') : ∀ p ∈ l, p.1 ≠ d' := allLt_ne (h.2.2.2.2.2) hd
theorem al6 {d d' : Addr} {l : List (Addr × Obj)} {a0 a1 a2 a3 a4 a5 : Prop} (h : a0 ∧ a1 ∧ a2 ∧ a3 ∧ a4 ∧ a5 ∧ AllLt d l) (hd : @LE.le Nat _ d d') : ∀ p ∈ l, p.1 ≠ d' := allLt_ne (h.2.2.2.2.2.2) hd
theorem al8 {d d' : Addr} {l : List (Addr × Obj)} {a0 a1 a2 a3 a4 a5 a6 a7 : Prop} (h : a0 ∧ a1 ∧ a2 ∧ a3 ∧ a4 ∧ a5 ∧ a6 ∧ a7 ∧ AllLt d l) (hd : @LE.le Nat _ d d') : ∀ p ∈ l, p.1 ≠ d' := allLt_ne (h.2.2.2.2.2.2.2.2) hd
theorem al9 {d d' : Addr} {l : List (Addr × Obj)} {a0 a1 a2 a3 a4 a5 a6 a7 a8 : Prop} (h : a0 ∧ a1 ∧ a2 ∧ a3 ∧ a4 ∧ a5 ∧ a6 ∧ a7 ∧ a8 ∧ AllLt d l) (hd : @LE.le Nat _ d d') : ∀ p ∈ l, p.1 ≠ d' := allLt_ne (h.2.2.2.2.2.2.2.2.2) hd
theorem al11 {d d' : Addr} {l : List (Addr × Obj)} {a0 a1 a2 a3 a4 a5 a6 a7 a8 a9 a10 : Prop} (h : a0 ∧ a1 ∧ a2 ∧ a3 ∧ a4 ∧ a5 ∧ a6 ∧ a7 ∧ a8 ∧ a9 ∧ a10 ∧ AllLt d l) (hd : @LE.le Nat _ d d') : ∀ p ∈ l, p.1 ≠ d' := allLt_ne (h.2.2.2.2.2.2.2.2.2.2.2) hd
/-- the same, with a list of ints that stands below all -/
noncomputable abbrev AsksB (lv : Nat) (w : World) (loose : List Str) (mean : ExcName → Option Value) (mg mb : Str → Option Value) (f : Addr) (led : List (Addr × Obj)) (vs : List Value) (l : Addr) (its : List Value)
    (ret : Heap → Addr → (Str → Option Value) → Shared → (Value → Shared → Prop) → Prop) : Prop :=
  ∀ (dp un : Nat) (gd : Option (List Code)) (cn : Str) (cs : Scope) (a : Addr) (ccd : Value) (cl : List (Str × Addr)) (outer : List Env) (A₀ : Around) (base h₀ : Heap) (L : Addr) (m : Str → Option Value) (s : Shared) (Q E : Value → Shared → Prop),
    Below A₀ base outer h₀ → Fr h₀ L s.heap m → (hd.heap_39 w.params).In h₀ → News h₀ L s.heap led → Top topProg loose mean mg mb h₀ → cs.kind = .function →
    dp + lv < recursionLimit → un + 10 * lv < cLine → CodeHd base 96 92 → base.IsList l its.toArray → ret h₀ L m s Q →
      codeAny (model Challenge.rw_sr0027_02.row.prog w) (ktrTop dp un gd cn cs L a ccd cl outer) (.call (.ref f) ⟨vs, []⟩) (fun r s' => match r with | .ok (.ret v) => Q v s' | .ok _ => False | .error e => E e s') s
/-- the signs of a text -/
noncomputable abbrev sg (x : Str) : List Nat := x.cps.toList
theorem slice_one (x : Str) (i : Nat) (h : i ≤ x.length) : Txt.slice x (some (i : Int)) (some ((i : Int) + 1)) = ⟨(((sg x).drop i).take 1).toArray⟩ := by
  have hl : x.length = x.cps.size := rfl
  have e : Builtin.Str.strSliceIndices (some (i : Int)) (some ((i : Int) + 1)) 1 x.length = if i < x.length then [i] else [] := by
    unfold Builtin.Str.strSliceIndices sliceRange
    have h1 : ¬ (i : Int) < 0 := by omega
    have h2 : ¬ ((i : Int) + 1) < 0 := by omega
    simp only [show (1 : Int) > 0 by decide, if_true, h1, h2, if_false]
    have h3 : min (i : Int) (x.length : Int) = i := by omega
    by_cases hi : i < x.length
    · have h4 : min ((i : Int) + 1) (x.length : Int) = i + 1 := by omega
      have h5 : max 0 (i : Int) = i := by omega
      have h6 : max 0 ((i : Int) + 1) = i + 1 := by omega
      simp only [h3, h4, h5, h6, hi, if_true]
      have h7 : ((i : Int) + 1 - i + 1 - 1) / 1 = 1 := by omega
      rw [if_pos (by omega), h7]
      simp [List.range_succ]
    · have h4 : min ((i : Int) + 1) (x.length : Int) = i := by omega
      have h5 : max 0 (i : Int) = i := by omega
      simp only [h3, h4, h5, hi, if_false]
      rw [if_neg (by omega)]
      rfl
  unfold Txt.slice
  rw [e]
  by_cases hi : i < x.length
  · rw [if_pos hi]
    have hget : x.cps[i]? = some x.cps[i] := Array.getElem?_eq_getElem hi
    have hd : ((sg x).drop i).take 1 = [x.cps[i]] := by
      rw [List.take_one, List.head?_drop, Array.getElem?_toList, hget]; rfl
    rw [hd]
    split
    · rename_i hc
      have hn : x.length = 1 := by
        simp only [Bool.and_eq_true, beq_iff_eq] at hc
        simpa using hc.2.symm
      obtain ⟨⟨c⟩⟩ := x
      simp only [Str.length, List.size_toArray] at hn hi
      match c, hn with
      | [a], _ =>
        have : i = 0 := by simp at hi; exact hi
        subst this; rfl
    · simp [hget]
  · rw [if_neg hi]
    have hd : (sg x).drop i = [] := List.drop_eq_nil_of_le (by rw [Array.length_toList]; omega)
    rw [hd]
    split
    · rename_i hc
      have hn : x.length = 0 := by
        simp only [Bool.and_eq_true, beq_iff_eq] at hc
        simpa using hc.2.symm
      obtain ⟨⟨c⟩⟩ := x
      simp only [Str.length, List.size_toArray] at hn
      match c, hn with
      | [], _ => rfl
    · rfl
/-- the closure that reads on: it hands out the next sign (nothing at the end) and moves the place -/
noncomputable abbrev ReadOk (w : World) (loose : List Str) (mean : ExcName → Option Value) (mg mb : Str → Option Value) (f la : Addr) (txt : Str) (led : List (Addr × Obj)) : Prop :=
  ∀ (rest : List (Addr × Obj)), (∀ p ∈ led, p ∈ rest) → (∀ p ∈ rest, p.1 ≠ la) → ∀ (i : Nat) (ti t1 : Tok) (n : Nat), i ≤ txt.length →
    Asks 10 w loose mean mg mb f ((la, W.listOf #[.int i ti] n) :: rest) [.int 1 t1] (fun h₀ L m s Q =>
      ∀ (t2 t3 : Tok) (h' : Heap) (tk' : Nat), Fr h₀ L h' m → News h₀ L h' ((la, W.listOf #[.int ((i + (((sg txt).drop i).take 1).length : Nat) : Int) t2] n) :: rest) →
        Q (.str ⟨(((sg txt).drop i).take 1).toArray⟩ t3) { s with heap := h', toks := tk' })
/-- the machine's dict -/
noncomputable abbrev mDict (w : World) (line : Int) (st pb : Addr) (k1 k2 k3 k4 k5 k6 : Tok) : Obj :=
  dictOf [⟨PyData.keyHash w.params (Str.ofString "lineno"), .str (Str.ofString "lineno") k1, .int line k2⟩,
    ⟨PyData.keyHash w.params (Str.ofString "instream"), .str (Str.ofString "instream") k3, .ref st⟩,
    ⟨PyData.keyHash w.params (Str.ofString "whitespace"), .str (Str.ofString "whitespace") k4, .str (Str.ofString "\n\t\r ") k5⟩,
    ⟨PyData.keyHash w.params (Str.ofString "pushback"), .str (Str.ofString "pushback") k6, .ref pb⟩] 4
/-- what is known of the machine at x beside its ledger -/
structure Mach (w : World) (loose : List Str) (mean : ExcName → Option Value) (mg mb : Str → Option Value) (x d pb la st : Addr) (txt : Str) (led : List (Addr × Obj)) : Prop where
  nd : ∀ p ∈ led, p.1 ≠ d
  npb : ∀ p ∈ led, p.1 ≠ pb
  nla : ∀ p ∈ led, p.1 ≠ la
  xd : x ≠ d
  xpb : x ≠ pb
  xla : x ≠ la
  dpb : d ≠ pb
  dla : d ≠ la
  pbla : pb ≠ la
  str : ∃ (sd f : Addr) (fd : FuncData) (t : Tok) (oc : Value) (od : Option Addr) (fd2 : FuncData) (sl : Array (Option Value)), (st, ({ cls := .type "function", dict := some sd, data := .func fd } : Obj)) ∈ led ∧ (f, (⟨oc, od, .func fd2, sl⟩ : Obj)) ∈ led ∧
    (sd, dictOf [⟨PyData.keyHash w.params (Str.ofString "read"), .str (Str.ofString "read") t, .ref f⟩] 1) ∈ led ∧ ReadOk w loose mean mg mb f la txt led
theorem news_mach {h₀ h : Heap} {L : Addr} {a1 a2 a3 b1 b2 b3 b4 b5 a4 : Addr × Obj} {r : List (Addr × Obj)} (N : News h₀ L h (a1 :: a2 :: a3 :: b1 :: b2 :: b3 :: b4 :: b5 :: a4 :: r)) :
    News h₀ L h (a1 :: a2 :: a3 :: a4 :: b1 :: b2 :: b3 :: b4 :: b5 :: r) := fun p hp => N p (by
  simp only [List.mem_cons] at hp ⊢
  rcases hp with h | h | h | h | h | h | h | h | h | h <;> simp [h])
theorem news_more {h₀ h : Heap} {L : Addr} {a : Addr × Obj} {led r : List (Addr × Obj)} (N : News h₀ L h (a :: r)) (hs : ∀ p ∈ led, p ∈ r) : News h₀ L h (a :: (led ++ r)) := fun p hp => N p (by
  rcases List.mem_cons.mp hp with rfl | hp
  · exact .head _
  · rcases List.mem_append.mp hp with hp | hp
    · exact .tail _ (hs p hp)
    · exact .tail _ hp)
theorem all_more {d : Addr} {led r : List (Addr × Obj)} (h : ∀ p ∈ r, p.1 ≠ d) (hs : ∀ p ∈ led, p ∈ r) : ∀ p ∈ led ++ r, p.1 ≠ d := fun p hp => by
  rcases List.mem_append.mp hp with hp | hp
  · exact h p (hs p hp)
  · exact h p hp
theorem Mach.more {w : World} {loose : List Str} {mean : ExcName → Option Value} {mg mb : Str → Option Value} {x d pb la st : Addr} {txt : Str} {led rest : List (Addr × Obj)}
    (M : Mach w loose mean mg mb x d pb la st txt led) (hs : ∀ p ∈ led, p ∈ rest) (h1 : ∀ p ∈ rest, p.1 ≠ d) (h2 : ∀ p ∈ rest, p.1 ≠ pb) (h3 : ∀ p ∈ rest, p.1 ≠ la) : Mach w loose mean mg mb x d pb la st txt rest := by
  obtain ⟨sd, f, fd, t, oc, od, fd2, sl, a, a', b, c⟩ := M.str
  exact ⟨h1, h2, h3, M.xd, M.xpb, M.xla, M.dpb, M.dla, M.pbla, sd, f, fd, t, oc, od, fd2, sl, hs _ a, hs _ a', hs _ b, fun r hr => c r fun p hp => hr p (hs p hp)⟩
theorem mem_of {p : Addr × Obj} {l : List (Addr × Obj)} (h : p ∈ l) : List.Mem p l := h
section
variable {h₀ h : Heap} {L : Addr} {a b c d : Addr × Obj} {r : List (Addr × Obj)}
/-- the fourth one to the front, and back -/
theorem news_4 (N : News h₀ L h (a :: b :: c :: d :: r)) : News h₀ L h (d :: a :: b :: c :: r) := fun p hp => N p (by
  simp only [List.mem_cons] at hp ⊢
  rcases hp with h | h | h | h | h <;> simp [h])
theorem news_4b (N : News h₀ L h (d :: a :: b :: c :: r)) : News h₀ L h (a :: b :: c :: d :: r) := fun p hp => N p (by
  simp only [List.mem_cons] at hp ⊢
  rcases hp with h | h | h | h | h <;> simp [h])
end
section
variable {w : World} {loose : List Str} {mean : ExcName → Option Value} {mg mb : Str → Option Value} {x d pb la st : Addr} {txt : Str} {rest : List (Addr × Obj)} {o1 o2 o3 : Obj}
theorem Mach.offla (M : Mach w loose mean mg mb x d pb la st txt rest) : ∀ p ∈ (pb, o1) :: (x, o2) :: (d, o3) :: rest, p.1 ≠ la := by
  intro p hp
  simp only [List.mem_cons] at hp
  rcases hp with rfl | rfl | rfl | hp
  · exact M.pbla
  · exact M.xla
  · exact M.dla
  · exact M.nla p hp
end
theorem sub3 {a b c : Addr × Obj} {r : List (Addr × Obj)} : ∀ p ∈ r, p ∈ a :: b :: c :: r := fun _ hp => .tail _ (.tail _ (.tail _ hp))
/-- how many lines a sign ends -/
noncomputable def nlOf (c : List Nat) : Int := if c = [10] then 1 else 0
theorem nlOf_tt {c : List Nat} (h : ((⟨c.toArray⟩ : Str) == Str.ofString "\n") = true) : nlOf c = 1 := by
  have e := beq_iff_eq.mp h
  have e2 : c = [10] := by
    have h1 := congrArg (fun x : Str => x.cps.toList) e
    have h2 : (Str.ofString "\n").cps.toList = [10] := by decide
    dsimp only at h1
    rw [h2] at h1
    exact h1
  unfold nlOf
  rw [if_pos e2]
theorem nlOf_ff {c : List Nat} (h : ((⟨c.toArray⟩ : Str) == Str.ofString "\n") = false) : nlOf c = 0 := by
  unfold nlOf
  rw [if_neg]
  intro e
  subst e
  exact absurd h (by decide)
theorem one_ne {c k : Nat} {x : Str} (hx : x = ⟨#[k]⟩) (h : c ≠ k) : ¬ (((⟨#[c]⟩ : Str) == x) = true) := by
  subst hx
  intro e
  have e1 := congrArg (fun x : Str => x.cps.toList) (beq_iff_eq.mp e)
  dsimp only at e1
  injection e1 with e2 _
  exact h e2
theorem no_quote {c : Nat} (h : 65 ≤ c ∧ c ≤ 81) : ¬ (((⟨#[c]⟩ : Str) == Str.ofString "\"") = true) := one_ne (k := 34) (by decide) (by omega)
theorem no_back {c : Nat} (h : 65 ≤ c ∧ c ≤ 81) : ¬ (((⟨#[c]⟩ : Str) == Str.ofString "\\") = true) := one_ne (k := 92) (by decide) (by omega)
theorem nlOf_ne {c : Nat} (h : c ≠ 10) : nlOf [c] = 0 := by
  unfold nlOf
  rw [if_neg]
  intro e
  injection e with e1 _
  exact h e1
theorem str_snoc (a : List Nat) (c : Nat) : (⟨a.toArray⟩ : Str) ++ ⟨#[c]⟩ = ⟨(a ++ [c]).toArray⟩ := by
  apply Str.ext'
  simp [Str.cps_append]
theorem alR {d d' : Addr} {l : List (Addr × Obj)} (h : ∀ p ∈ l, p.1 < d) (hd : @LE.le Nat _ d d') : ∀ p ∈ l, p.1 ≠ d' := fun p hp => Nat.ne_of_lt (Nat.lt_of_lt_of_le (h p hp) hd)
theorem pk0 {a q : Prop} (h : a ∧ q) : a := h.1
theorem pk1 {a q : Prop} {p0 : Prop} (h : p0 ∧ a ∧ q) : a := h.2.1
theorem pk2 {a q : Prop} {p0 p1 : Prop} (h : p0 ∧ p1 ∧ a ∧ q) : a := h.2.2.1
theorem pk3 {a q : Prop} {p0 p1 p2 : Prop} (h : p0 ∧ p1 ∧ p2 ∧ a ∧ q) : a := h.2.2.2.1
theorem pk4 {a q : Prop} {p0 p1 p2 p3 : Prop} (h : p0 ∧ p1 ∧ p2 ∧ p3 ∧ a ∧ q) : a := h.2.2.2.2.1
theorem pk5 {a q : Prop} {p0 p1 p2 p3 p4 : Prop} (h : p0 ∧ p1 ∧ p2 ∧ p3 ∧ p4 ∧ a ∧ q) : a := h.2.2.2.2.2.1
theorem pk6 {a q : Prop} {p0 p1 p2 p3 p4 p5 : Prop} (h : p0 ∧ p1 ∧ p2 ∧ p3 ∧ p4 ∧ p5 ∧ a ∧ q) : a := h.2.2.2.2.2.2.1
theorem pk7 {a q : Prop} {p0 p1 p2 p3 p4 p5 p6 : Prop} (h : p0 ∧ p1 ∧ p2 ∧ p3 ∧ p4 ∧ p5 ∧ p6 ∧ a ∧ q) : a := h.2.2.2.2.2.2.2.1
theorem pk8 {a q : Prop} {p0 p1 p2 p3 p4 p5 p6 p7 : Prop} (h : p0 ∧ p1 ∧ p2 ∧ p3 ∧ p4 ∧ p5 ∧ p6 ∧ p7 ∧ a ∧ q) : a := h.2.2.2.2.2.2.2.2.1
end

section
/-- a contract at given data -/
noncomputable abbrev AskV (lv : Nat) (w : World) (loose : List Str) (mean : ExcName → Option Value) (mg mb : Str → Option Value) (f : Addr) (led : List (Addr × Obj)) (vs : List Value)
    (ret : Heap → Addr → (Str → Option Value) → Shared → (Value → Shared → Prop) → Prop)
    (dp un : Nat) (gd : Option (List Code)) (cn : Str) (cs : Scope) (a : Addr) (ccd : Value) (cl : List (Str × Addr)) (outer : List Env) (A₀ : Around) (base h₀ : Heap) (L : Addr) (m : Str → Option Value) (s : Shared) (Q E : Value → Shared → Prop) : Prop :=
    Below A₀ base outer h₀ → Fr h₀ L s.heap m → (hd.heap_39 w.params).In h₀ → News h₀ L s.heap led → Top topProg loose mean mg mb h₀ → cs.kind = .function →
    dp + lv < recursionLimit → un + 10 * lv < cLine → CodeHd base 96 92 → ret h₀ L m s Q →
      codeAny (model Challenge.rw_sr0027_02.row.prog w) (ktrTop dp un gd cn cs L a ccd cl outer) (.call (.ref f) ⟨vs, []⟩) (fun r s' => match r with | .ok (.ret v) => Q v s' | .ok _ => False | .error e => E e s') s
noncomputable abbrev AskBV (lv : Nat) (w : World) (loose : List Str) (mean : ExcName → Option Value) (mg mb : Str → Option Value) (f : Addr) (led : List (Addr × Obj)) (vs : List Value) (l : Addr) (its : List Value)
    (ret : Heap → Addr → (Str → Option Value) → Shared → (Value → Shared → Prop) → Prop)
    (dp un : Nat) (gd : Option (List Code)) (cn : Str) (cs : Scope) (a : Addr) (ccd : Value) (cl : List (Str × Addr)) (outer : List Env) (A₀ : Around) (base h₀ : Heap) (L : Addr) (m : Str → Option Value) (s : Shared) (Q E : Value → Shared → Prop) : Prop :=
    Below A₀ base outer h₀ → Fr h₀ L s.heap m → (hd.heap_39 w.params).In h₀ → News h₀ L s.heap led → Top topProg loose mean mg mb h₀ → cs.kind = .function →
    dp + lv < recursionLimit → un + 10 * lv < cLine → CodeHd base 96 92 → base.IsList l its.toArray → ret h₀ L m s Q →
      codeAny (model Challenge.rw_sr0027_02.row.prog w) (ktrTop dp un gd cn cs L a ccd cl outer) (.call (.ref f) ⟨vs, []⟩) (fun r s' => match r with | .ok (.ret v) => Q v s' | .ok _ => False | .error e => E e s') s
noncomputable abbrev K9 : Type := World × (List Str) × (ExcName → Option Value) × (Str → Option Value) × (Str → Option Value) × Nat × Nat × (Option (List Code)) × Str × Scope × Addr × Value × (List (Str × Addr)) × (List Env) × Around × Heap × Heap × Addr × (Str → Option Value) × Shared × (Value → Shared → Prop) × (Value → Shared → Prop)
theorem ne9 : Nonempty K9 := ⟨(⟨fun _ _ => 0, { strHash := fun _ => 0, shareClass := fun _ => 0, mergeTok := fun t => t, idOf := fun _ => 0, idOfShared := fun _ _ => 0, followText := fun _ => false, idOfImm := fun _ => 0 }⟩, default, default, default, default, default, default, default, default, default, default, default, default, default, {}, default, default, default, default, {}, default, default)⟩
/-- Hilbert's choice of a counterexample -/
theorem sk9 {V : Type} (ne : Nonempty V) (P : V → Prop) : ∃ c, P c → ∀ v, P v := by
  by_cases h : ∀ v, P v
  · exact ⟨Classical.choice ne, fun _ => h⟩
  · obtain ⟨c, hc⟩ := Classical.not_forall.mp h
    exact ⟨c, fun h' => absurd h' hc⟩
end

section
open Builtin Builtin.ObjectAttr
theorem fset_slot : Slot "function" "__setattr__" "object.__setattr__" :=
  .of (owner := "object") (n := "__setattr__") (by rw [typeLookup_type, builtinLookup_eq_fast]; kernel_rfl) (by decide +kernel) (by decide +kernel) (by decide +kernel)
    (by first | exact .inl (by decide +kernel) | exact .inr (by decide +kernel)) (by rw [isSubtype_type]; kernel_rfl)
theorem fread_none : typeLookup (.type "function") "read" = pure none := by rw [typeLookup_type, builtinLookup_eq_fast]; kernel_rfl
theorem fmro : mroOf (.type "function") = pure [.type "function", .type "object"] := by kernel_rfl
theorem fpass (self : Value) : refuseLoop self "__setattr__" [.type "function", .type "object"] = pure () := by kernel_rfl
set_option maxHeartbeats 1000000 in
theorem set_fn {prog : Program} {w : World} {A : Around} {E : Value → Shared → Prop} {s : Shared} {name : Str} {v : Value} {f : Addr} {fd : FuncData} {Q : Unit → Shared → Prop}
    (hx : s.heap.get? f = some { cls := .type "function", data := .func fd }) (hB : typeLookup (.type "function") name = pure none)
    (hq : ∀ h' tk', (∀ b o, b ≠ f → s.heap.get? b = some o → h'.get? b = some o) → h'.get? f = some { cls := .type "function", dict := some s.heap.objs.size, data := .func fd } →
      h'.get? s.heap.objs.size = some (dictOf [⟨PyData.keyHash w.params name, .str name tk', v⟩] 1) → Q () { s with heap := h', toks := tk' + 1 }) :
    wpAny (model prog w) A (setAttr (.ref f) name v) Q E s := by
  obtain ⟨h, g, d, t, os⟩ := s
  have f1 := fset_slot.lookup
  have f3 := fset_slot.bind (.ref f)
  have fm := fmro
  unfold setAttr callSpecial? specialOf
  repeat (any_goals (first | assumption | (with_reducible refine wpAny_loadPart_at hx ?_) | wp_step))
  refine codeAny_call_builtin fset_slot.plain PySem.F.entry_object_setattr (fset_slot.check _ _ _ _ _ _ _ _ ⟨_, hx, rfl⟩ (PySem.F.args_object_setattr_3 _ _ _) ?_)
  unfold Builtin.«object.__setattr__»
  repeat (any_goals (first | assumption | rw [refuse_eq] | rw [fpass] | rw [fmro] | rw [hB] | (with_reducible refine wpAny_loadPart_at hx ?_) | wp_step))
  have hfs : f ≠ h.objs.size := Nat.ne_of_lt (Heap.lt_size hx)
  have hx₁ : (h.push { cls := .type "dict", data := .dict #[] }).get? f = some { cls := .type "function", data := .func fd } := Heap.get?_push_of_some _ hx
  have hgd : ((h.push { cls := .type "dict", data := .dict #[] }).update f fun o => { cls := o.cls, dict := some h.objs.size, data := o.data, slots := o.slots }).get? h.objs.size
      = some { cls := .type "dict", data := .dict #[] } := (Heap.get?_update_ne _ _ _ _ hfs.symm).trans (Heap.get?_push_at rfl rfl)
  refine wpAny_askSetting (wpAny_pure (wpAny_bind (wpAny_mkText (wpAny_bind (wpAny_loadPart hgd ?_)))))
  have c : aRefKeyMayBeTheName name #[] = false := by rw [aRefKeyMayBeTheName_at]; simp
  dsimp only
  rw [c]
  have hgd2 := Heap.get?_update_self (Obj.putName name (PyData.keyHash w.params name) (.str name (t + 1)) v) hgd rfl
  refine wpAny_updatePart hgd ?_
  refine wpAny_bind (wpAny_lookBehind hgd2 ?_ ?_)
  · rfl
  have e1 : Obj.putName name (PyData.keyHash w.params name) (.str name (t + 1)) v { cls := .type "dict", data := .dict #[] } = dictOf [⟨PyData.keyHash w.params name, .str name (t + 1), v⟩] 1 := by
    have := putName_dict name (PyData.keyHash w.params name) (.str name (t + 1)) v [] 0
    exact this
  rw [e1] at hgd2
  have hx₂ : ((h.push { cls := .type "dict", data := .dict #[] }).update f fun o => { cls := o.cls, dict := some h.objs.size, data := o.data, slots := o.slots }).get? f
      = some { cls := .type "function", dict := some h.objs.size, data := .func fd } := Heap.get?_update_self (fun o => { cls := o.cls, dict := some h.objs.size, data := o.data, slots := o.slots }) hx₁ rfl
  refine wpAny_pure (wpAny_pure (wpAny_pure ?_))
  refine hq _ (t + 1) (fun b o hbf hb => ?_) ?_ hgd2
  · have hbs : b ≠ h.objs.size := Nat.ne_of_lt (Heap.lt_size hb)
    exact (Heap.get?_update_ne _ _ _ _ hbs).trans ((Heap.get?_update_ne _ _ _ _ hbf).trans (Heap.get?_push_of_some _ hb))
  · exact (Heap.get?_update_ne _ _ _ _ hfs).trans hx₂

/-- the same over the ledger -/
theorem set_fn_K {prog : Program} {w : World} {A : Around} {E : Value → Shared → Prop} {s : Shared} {name : Str} {v : Value} {f L : Addr} {fd : FuncData} {h₀ : Heap} {m : Str → Option Value} {news : List (Addr × Obj)} {g : Obj → List (Addr × Obj)} {Q : Unit → Shared → Prop}
    (F : Fr h₀ L s.heap m) (N : News h₀ L s.heap news) (U : UpdF f { cls := .type "function", data := .func fd } news g) (hB : typeLookup (.type "function") name = pure none)
    (hq : ∀ d h' tk', Fr h₀ L h' m → News h₀ L h' ((d, dictOf [⟨PyData.keyHash w.params name, .str name tk', v⟩] 1) :: g { cls := .type "function", dict := some d, data := .func fd }) → (∀ p ∈ news, p.1 < d) → Q () { s with heap := h', toks := tk' + 1 }) :
    wpAny (model prog w) A (setAttr (.ref f) name v) Q E s := by
  obtain ⟨pre, post, rfl, hg, h1, h2⟩ := U.split
  have hm := N (f, { cls := .type "function", data := .func fd }) (by simp)
  refine set_fn hm.1 hB fun h' tk' hk hf hd => ?_
  have hLf : L ≠ f := Ne.symm hm.2.1
  have keep : ∀ b o, h₀.get? b = some o → h'.get? b = some o := fun b o e => hk b o (fun z => by subst z; rw [hm.2.2] at e; cases e) (F.keep b o e)
  refine hq s.heap.objs.size h' tk' ⟨F.ns.at' fun o e => hk L o hLf e, keep, F.above⟩ (fun p hp => ?_) (fun p hp => Heap.lt_size (N p hp).1)
  rw [hg] at hp
  have old : ∀ q, q ∈ pre ++ (f, { cls := .type "function", data := .func fd }) :: post → q.1 ≠ f → h'.get? q.1 = some q.2 ∧ q.1 ≠ L ∧ h₀.get? q.1 = none := fun q hq hne => ⟨hk _ _ hne (N q hq).1, (N q hq).2⟩
  rcases List.mem_cons.mp hp with rfl | hp
  · refine ⟨hd, ?_, ?_⟩
    · obtain ⟨oL, _, _, hL, _⟩ := F.ns
      exact Nat.ne_of_gt (Heap.lt_size hL)
    · cases q : h₀.get? s.heap.objs.size with
      | none => rfl
      | some o' => exact absurd (Heap.lt_size (F.keep _ _ q)) (Nat.lt_irrefl _)
  · rcases List.mem_append.mp hp with hp | hp
    · exact old p (List.mem_append_left _ hp) (h1 p hp)
    · rcases List.mem_cons.mp hp with rfl | hp
      · exact ⟨hf, hm.2⟩
      · exact old p (List.mem_append_right _ (.tail _ hp)) (h2 p hp)

theorem fget_slot : Slot "function" "__getattribute__" "object.__getattribute__" :=
  .of (owner := "object") (n := "__getattribute__") (by rw [typeLookup_type, builtinLookup_eq_fast]; kernel_rfl) (by decide +kernel) (by decide +kernel) (by decide +kernel)
    (by first | exact .inl (by decide +kernel) | exact .inr (by decide +kernel)) (by rw [isSubtype_type]; kernel_rfl)
theorem fgetattr_none : typeLookup (.type "function") "__getattr__" = pure none := by rw [typeLookup_type, builtinLookup_eq_fast]; kernel_rfl
theorem meth_fn {prog : Program} {w : World} {A : Around} {E : Value → Shared → Prop} {s : Shared} {pl : Sem Bool} {st sd f : Addr} {fd : FuncData} {t : Tok} {Q : Value × List Value → Shared → Prop}
    (hst : s.heap.get? st = some { cls := .type "function", dict := some sd, data := .func fd })
    (hsd : s.heap.get? sd = some (dictOf [⟨PyData.keyHash w.params (Str.ofString "read"), .str (Str.ofString "read") t, .ref f⟩] 1))
    (h : Q (.ref f, []) { s with toks := s.toks + 1 }) : wpAny (model prog w) A (getMethod (.ref st) (Str.ofString "read") pl) Q E s := by
  have f1 := fget_slot.lookup
  have f2 := fgetattr_none
  have f3 := fget_slot.bind (.ref st)
  have fr := fread_none
  have hcan := PySem.F.canon_object_ga
  obtain ⟨hp, g, d, tk, os⟩ := s
  have hT : (Shared.mk hp g d tk os).TypeIs (.ref st) "function" := ⟨_, hst, rfl⟩
  unfold getMethod specialOf
  refine wpAny_bind (wpAny_bind (wpAny_typeOf hT (wpAny_of_eq f1 ?_)))
  dsimp only
  rw [hcan, if_neg (by decide)]
  refine wpAny_bind (wpAny_bind (wpAny_typeOf hT (wpAny_of_eq f2 ?_)))
  refine wpAny_bind (wpAny_bind (wpAny_typeOf hT (wpAny_of_eq fr ?_)))
  dsimp only
  refine wpAny_bind ?_
  unfold getAttr
  refine wpAny_bind (wpAny_mkText ?_)
  unfold getAttrBy
  refine wpAny_holding (wpAny_bind (wpAny_typeOf (T := "function") ⟨_, hst, rfl⟩ (wpAny_bind (wpAny_of_eq f1 ?_))))
  dsimp only
  rw [if_neg (by decide)]
  unfold getAttrByItsOwn hookBefore callGetattribute boundAndCalled
  refine wpAny_bind (wpAny_pure (wpAny_bind (wpAny_attempt (wpAny_holding ?_))))
  rw [if_neg (by decide)]
  refine wpAny_bind (wpAny_of_eq f3 (wpAny_call ?_))
  refine codeAny_call_builtin fget_slot.plain PySem.F.entry_object_getattribute (fget_slot.check _ _ _ _ _ _ _ _ ⟨_, hst, rfl⟩ (PySem.F.args_object_getattribute_2 _ _) ?_)
  unfold Builtin.«object.__getattribute__»
  refine wpAny_bind (wpAny_pure (wpAny_bind (wpAny_pure (wpAny_bind (wpAny_typeOf (T := "function") ⟨_, hst, rfl⟩ (wpAny_bind ?_))))))
  unfold find getOf dataDescriptor? ownThenClass
  refine wpAny_bind (wpAny_of_eq fr (wpAny_bind (wpAny_pure (wpAny_bind (wpAny_pure ?_)))))
  dsimp only
  unfold inOwnDict ObjectAttr.ownDict loadHead instanceDict
  refine wpAny_bind (wpAny_bind (wpAny_bind (wpAny_loadPart hst ?_)))
  dsimp only
  refine wpAny_bind (wpAny_loadPart hst ?_)
  dsimp only
  refine wpAny_pure ?_
  unfold inDict nsGet
  refine wpAny_bind (wpAny_loadPart hsd ?_)
  have hl : nsLook (Str.ofString "read") (dictOf [⟨PyData.keyHash w.params (Str.ofString "read"), .str (Str.ofString "read") t, .ref f⟩] 1) = pure (some (.ref f)) := nsLook_of (by rfl)
  refine wpAny_of_eq hl ?_
  try dsimp only
  refine wpAny_bind (wpAny_rule (wpAny_pure ?_))
  try dsimp only
  refine wpAny_pure ?_
  try dsimp only
  refine wpAny_pure ?_
  try dsimp only
  exact wpAny_pure h
end

section
theorem citer_slot : Slot "callable_iterator" "__next__" "callable_iterator.__next__" :=
  .of (owner := "callable_iterator") (n := "__next__") (by rw [typeLookup_type, builtinLookup_eq_fast]; kernel_rfl) (by decide +kernel) (by decide +kernel) (by decide +kernel)
    (by first | exact .inl (by decide +kernel) | exact .inr (by decide +kernel)) (by rw [isSubtype_type]; kernel_rfl)
theorem citer_entry : entryFor table "callable_iterator.__next__" = some Builtin.«callable_iterator.__next__» := entryFor_of_tree (by kernel_rfl)
theorem citer_args (a : Value) : argsOk "callable_iterator.__next__" ⟨[a], []⟩ := by unfold argsOk; kernel_rfl
theorem citer_islot : Slot "callable_iterator" "__iter__" "callable_iterator.__iter__" :=
  .of (owner := "callable_iterator") (n := "__iter__") (by rw [typeLookup_type, builtinLookup_eq_fast]; kernel_rfl) (by decide +kernel) (by decide +kernel) (by decide +kernel)
    (by first | exact .inl (by decide +kernel) | exact .inr (by decide +kernel)) (by rw [isSubtype_type]; kernel_rfl)
theorem citer_ientry : entryFor table "callable_iterator.__iter__" = some Builtin.«dict_keyiterator.__iter__» := entryFor_alias (id' := "dict_keyiterator.__iter__") (by kernel_rfl) rfl (by decide +kernel) (by kernel_rfl)
theorem citer_iargs (a : Value) : argsOk "callable_iterator.__iter__" ⟨[a], []⟩ := by unfold argsOk; kernel_rfl
noncomputable abbrev citObj (q : Addr) (ts : Tok) : Obj := { cls := .type "callable_iterator", data := .fields #[.ref q, .str (Str.ofString "") ts, .bool false] }
theorem wpAny_callBorrowed {M : Model} {A : Around} {E : Value → Shared → Prop} {s : Shared} {f : Value} {pos : List Value} {Q : Value → Shared → Prop}
    (hc : codeAny M A (.call f ⟨pos, []⟩) (fun r s' => match r with | .ok (.ret v) => Q v s' | .ok _ => False | .error e => E e s') s) : wpAny M A (callBorrowed f pos) Q E s := fun Γ p hΓ => by
  have h := hc (Γ.enter (.call f ⟨pos, []⟩) none p) p rfl (hΓ.enter _ none p (by intro x; cases x))
  unfold callBorrowed
  rw [Sem.wp_call]
  refine wpCode_mono (fun r s' hr => ?_) h
  cases r with
  | error e => exact hr
  | ok f => cases f <;> exact hr
section
variable {prog : Program} {w : World} {A : Around} {E : Value → Shared → Prop} {s : Shared} {it q fa x : Addr} {ts : Tok}
theorem citer_iter {Q : Value → Shared → Prop} (hit : s.heap.get? it = some (citObj q ts)) (h : Q (.ref it) s) : wpAny (model prog w) A (pyIter (.ref it)) Q E s := by
  have hT : s.TypeIs (.ref it) "callable_iterator" := ⟨_, hit, rfl⟩
  refine wpAny_pyIter_slot hT citer_islot (wpAny_call_entry citer_islot hT citer_ientry ?_ (citer_iargs _))
  show wpAny _ _ (ret (.ref it)) _ _ s
  exact wpAny_pure ⟨_, rfl, "callable_iterator", _, hT, citer_slot.lookup, h⟩
theorem eqb_str {a b : Str} {ta tb : Tok} {Q : Bool → Shared → Prop} (h : Q (a == b) s) : wpAny (model prog w) A (eqBool (.str a ta) (.str b tb)) Q E s := by
  unfold eqBool
  refine wpAny_holding (wpAny_ite ?_)
  split
  · rename_i he
    have e := beq_iff_eq.mp he
    injection e with e1 _
    subst e1
    rw [beq_self_eq_true] at h
    exact wpAny_bind (wpAny_rule (wpAny_pure h))
  · dsimp only
    refine wpAny_bind ?_
    refine (show wpAny (model prog w) A (compareOp .Eq (.str a ta) (.str b tb)) _ _ _ from ?_)
    refine PyProof.Rows.eq_str ?_
    unfold truthOfDropped truthy
    exact wpAny_pure h
theorem citer_next {fd : FuncData} {Q : Option Value → Shared → Prop} (hit : s.heap.get? it = some (citObj q ts)) (hq : s.heap.get? q = some (methodObj (.ref fa) (.ref x)))
    (hh : A.handled = none) (hf : s.heap.get? fa = some { cls := .type "function", data := .func fd })
    (h : codeAny (model prog w) A.in1 (.call (.ref fa) ⟨[.ref x], []⟩) (fun r s' => ∃ c tc, r = .ok (.ret (.str c tc)) ∧ s'.heap.get? it = some (citObj q ts) ∧
      (c.cps ≠ #[] → Q (some (.str c tc)) s') ∧ (c.cps = #[] → s'.heap.get? q = some (methodObj (.ref fa) (.ref x)) ∧ s'.heap.get? fa = some { cls := .type "function", data := .func fd } ∧
        ∀ h', Heap.ExtBut it s'.heap h' → Q none { s' with heap := h' })) s) : wpAny (model prog w) A (pyNext (.ref it)) Q E s := by
  have hT : s.TypeIs (.ref it) "callable_iterator" := ⟨_, hit, rfl⟩
  unfold pyNext
  refine wpAny_bind (wpAny_attempt (wpAny_callSpecial?_slot (name := Str.ofString "__next__") hT citer_slot (wpAny_call_entry citer_slot hT citer_entry ?_ (citer_args _))))
  unfold Builtin.«callable_iterator.__next__»
  refine wpAny_bind (wpAny_of_eq (a := (.ref it, [])) (by rfl) ?_)
  dsimp only
  refine wpAny_bind (wpAny_field hit rfl (x := .bool false) rfl ?_)
  rw [if_neg (by decide)]
  refine wpAny_bind (wpAny_field hit rfl (x := .ref q) rfl (wpAny_bind (wpAny_attempt ?_)))
  unfold callOutOfASlot borrowsExactly
  refine wpAny_bind (wpAny_bind (wpAny_load hq ?_))
  dsimp only
  rw [if_pos (by decide)]
  refine wpAny_bind (wpAny_load hf (wpAny_pure ?_))
  rw [if_pos rfl]
  refine wpAny_callBorrowed (method_call hq (codeAny_mono h fun r s' hr => ?_))
  obtain ⟨c, tc, rfl, hit', hsome, hnone⟩ := hr
  dsimp only
  refine wpAny_bind (wpAny_field hit' rfl (x := .bool false) rfl ?_)
  rw [if_neg (by decide)]
  refine wpAny_bind (wpAny_field hit' rfl (x := .str (Str.ofString "") ts) rfl ?_)
  unfold eqBool
  refine wpAny_bind (wpAny_holding (eqb_str ?_))
  by_cases hc : c.cps = #[]
  · obtain ⟨hq', hf', hQ⟩ := hnone hc
    have hce : c = Str.ofString "" := by
      obtain ⟨cc⟩ := c
      dsimp only at hc
      subst hc
      rfl
    subst hce
    rw [beq_self_eq_true, if_neg (by decide)]
    refine wpAny_bind (wpAny_rule (wpAny_bind ?_))
    wp_delta
    refine wpAny_bind (wpAny_field hit' rfl (x := .ref q) rfl (wpAny_bind ?_))
    unfold slotLetsGo borrowsExactly
    dsimp only
    refine wpAny_bind (wpAny_bind (wpAny_load hq' ?_))
    dsimp only
    rw [if_pos (by decide)]
    refine wpAny_bind (wpAny_load hf' (wpAny_pure ?_))
    rw [if_pos rfl]
    refine wpAny_pure ?_
    refine wpAny_bind (wpAny_setField hit' rfl (by simp) ?_)
    have h1 : (s'.heap.update it (Obj.mapFields (·.setIfInBounds 0 .none))).get? it = some { cls := .type "callable_iterator", data := .fields #[.none, .str (Str.ofString "") ts, .bool false] } := Heap.get?_update_self _ hit' rfl
    refine wpAny_bind (wpAny_setField h1 rfl (by simp) ?_)
    have h2 := Heap.get?_update_self (Obj.mapFields (·.setIfInBounds 1 .none)) h1 rfl
    have h2' : ((s'.heap.update it (Obj.mapFields (·.setIfInBounds 0 .none))).update it (Obj.mapFields (·.setIfInBounds 1 .none))).get? it = some { cls := .type "callable_iterator", data := .fields #[.none, .none, .bool false] } := h2
    refine wpAny_setField h2' rfl (by simp) ?_
    have ext : Heap.ExtBut it s'.heap (((s'.heap.update it (Obj.mapFields (·.setIfInBounds 0 .none))).update it (Obj.mapFields (·.setIfInBounds 1 .none))).update it (Obj.mapFields (·.setIfInBounds 2 (.bool true)))) := fun b o hb e =>
      ((Heap.SameBut.update ..).2 b hb).trans (((Heap.SameBut.update ..).2 b hb).trans (((Heap.SameBut.update ..).2 b hb).trans e))
    show wpAny _ _ (newExc (.type "StopIteration") [] >>= _) _ _ _
    refine wpAny_bind ?_
    simp only [newExc, newTuple]
    refine wpAny_bind (wpAny_newObj_type ?_ (by size_fits))
    refine wpAny_bind (m := firstArgMember _ _) (wpAny_of_eq (a := Value.none) (by first | rfl | (simp only [firstArgMember]; rfl)) ?_)
    refine wpAny_newObj_type ?_ (by size_fits)
    simp only [raiseNew]
    refine wpAny_bind (wpAny_handled ?_)
    rw [show A.in1.handled = none from hh]
    refine wpAny_bind (wpAny_pure (wpAny_throw ?_))
    refine wpAny_bind (wpAny_isInstance (T := "StopIteration") (b := true) ⟨_, Heap.get?_push_size _ rfl, rfl⟩ isSubtype_stop ?_)
    exact wpAny_pure (hQ _ ((ext.push _).push _))
  · have hne2 : (Str.ofString "" == c) = false := by
      rw [beq_eq_false_iff_ne]
      intro e1
      exact hc (by rw [← e1]; rfl)
    rw [hne2, if_pos (by decide)]
    exact wpAny_pure ⟨_, rfl, wpAny_pure (hsome hc)⟩
end
section
variable {prog : Program} {w : World} {A : Around} {E : Value → Shared → Prop} {s : Shared} {q fa x : Addr} {ts : Tok}
theorem meth_call : typeLookup (.type "method") "__call__" = pure (some (.builtin "method.__call__")) := by rw [typeLookup_type, builtinLookup_eq_fast]; kernel_rfl
theorem iter_entry : entryFor table "iter" = some Builtin.«iter» := entryFor_of_fast (by kernel_rfl)
theorem citer_make {f self : Value} {Q : Value → Shared → Prop} (hq : s.heap.get? q = some (methodObj f self))
    (h : Q (.ref s.heap.objs.size) { s with heap := s.heap.push (citObj q ts) }) : wpAny (model prog w) A (call (.builtin "iter") [.ref q, .str (Str.ofString "") ts]) Q E s := by
  have hT : s.TypeIs (.ref q) "method" := ⟨_, hq, rfl⟩
  refine Calls.call_function_entry (by decide +kernel) (by decide +kernel) iter_entry (by unfold argsOk; kernel_rfl) ?_
  unfold Builtin.«iter»
  refine wpAny_bind (wpAny_of_eq (a := [.ref q, .str (Str.ofString "") ts]) (by rfl) ?_)
  dsimp only
  refine wpAny_bind (wpAny_specialOf hT meth_call ?_)
  rw [if_neg (by decide)]
  refine wpAny_bind (wpAny_rule (wpAny_bind ?_))
  unfold newFields
  refine wpAny_newObj_type ?_ (by size_fits)
  exact wpAny_pure ⟨_, rfl, h⟩
theorem citer_make_K {f self : Value} {h₀ : Heap} {L : Addr} {m : Str → Option Value} {news : List (Addr × Obj)} {Q : Value → Shared → Prop} (F : Fr h₀ L s.heap m) (N : News h₀ L s.heap news) (hq : (q, methodObj f self) ∈ news)
    (h : ∀ it h', Fr h₀ L h' m → News h₀ L h' ((it, citObj q ts) :: news) → (∀ p ∈ news, p.1 < it) → Q (.ref it) { s with heap := h' }) : wpAny (model prog w) A (call (.builtin "iter") [.ref q, .str (Str.ofString "") ts]) Q E s :=
  citer_make (N.get hq) (h _ _ (F.push _) (N.push F _) fun _ hp => Heap.lt_size (N _ hp).1)
end
section
variable {prog : Program} {w : World} {A : Around} {E : Value → Shared → Prop} {s : Shared} {env : Env}
/-- the invariant holds with a smaller number -/
structure MfLess (I : Nat → Shared → Prop) (k : Nat) (s : Shared) : Prop where
  h : ∃ j, j < k ∧ I j s
/-- a for over an iterator that is its own, by an invariant with a falling number -/
theorem mfor {v : Str} {px pos : Pos} {iter : Expr} {body : List Stmt} {Q : Flow → Shared → Prop} (it : Addr) (I : Nat → Shared → Prop)
    (h : wpAny (model prog w) A (eval iter env) (fun xv s₁ => wpAny (model prog w) A (pyIter xv) (fun r s₂ => r = .ref it ∧ ∃ n, I n s₂) E s₁) E s)
    (turn : ∀ k s', I k s' → wpAny (model prog w) A (pyNext (.ref it)) (OwitTurn prog w A E env v body Q (MfLess I k)) E s')
    (hs : ∀ x, foldedSetIterable iter env x = pure x := by intro _; rfl) (hE : PassesOwn (model prog w) A env E := by passes_own) :
    wpAny (model prog w) A (exec (.For (.Name v px) iter body [] pos) env) Q E s := by
  refine wpAny_For (wpAny_mono h (fun xv s₁ h₁ => wpAny_mono h₁ (fun r s₂ h₂ => ?_) fun _ _ z => z) fun _ _ z => z) hs
  obtain ⟨rfl, n, h₂⟩ := h₂
  refine codeAny_forLoop (R := fun r s' => match r with | .ok f => Q f s' | .error e => cameBackBy (model prog w) A env E e s') (fun k s' => I k s') ?_ n h₂
  intro k s' hk
  refine wpAny_passesOwn hE (wpAny_mono (turn k s' hk) (fun r s₁ hr => ?_) fun _ _ z => z)
  cases r with
  | none => exact wpAny_execs_nil hr
  | some y =>
    refine wpAny_passesOwn hE (wpAny_assign_Name (wpAny_mono hr (fun _ s₂ h₂ => ?_) fun _ _ z => z))
    refine wpAny_passesOwn hE (wpAny_mono h₂ (fun f s₃ h₃ => ?_) fun _ _ z => z)
    cases f with
    | next => exact (h₃ : MfLess I k _).h
    | cont => exact (h₃ : MfLess I k _).h
    | brk => exact h₃
    | ret _ => exact h₃
theorem owitTurn_none {v : Str} {body : List Stmt} {Q : Flow → Shared → Prop} {rest : Shared → Prop} (h : Q .next s) : OwitTurn prog w A E env v body Q rest none s := h
theorem owitTurn_some {v : Str} {body : List Stmt} {Q : Flow → Shared → Prop} {rest : Shared → Prop} {y : Value} (h : wpAny (model prog w) A (storeName env v y) (fun _ s₂ => wpAny (model prog w) A (execs body env) (OwitFlow Q rest) E s₂) E s) : OwitTurn prog w A E env v body Q rest (some y) s := h
end
/-- a frame's map with token and ch laid over -/
noncomputable abbrev ovl (m : Str → Option Value) (tv cv : Option Value) : Str → Option Value := fun y => if y = Str.ofString "token" then tv else if y = Str.ofString "ch" then cv else m y
theorem ch_ne_tok : ¬ (Str.ofString "ch" = Str.ofString "token") := by decide
theorem ovl_self (m : Str → Option Value) : m = ovl m (m (Str.ofString "token")) (m (Str.ofString "ch")) := by
  funext y
  show m y = if y = Str.ofString "token" then m (Str.ofString "token") else if y = Str.ofString "ch" then m (Str.ofString "ch") else m y
  by_cases h1 : y = Str.ofString "token"
  · rw [if_pos h1, h1]
  · by_cases h2 : y = Str.ofString "ch"
    · rw [if_neg h1, if_pos h2, h2]
    · rw [if_neg h1, if_neg h2]
theorem ovl_ch (m : Str → Option Value) (tv cv v : Option Value) : (fun y => if y = Str.ofString "ch" then v else ovl m tv cv y) = ovl m tv v := by
  funext y
  show (if y = Str.ofString "ch" then v else if y = Str.ofString "token" then tv else if y = Str.ofString "ch" then cv else m y) = if y = Str.ofString "token" then tv else if y = Str.ofString "ch" then v else m y
  by_cases h2 : y = Str.ofString "ch"
  · rw [if_pos h2, if_neg (by rw [h2]; exact ch_ne_tok), if_pos h2]
  · rw [if_neg h2, if_neg h2, if_neg h2]
theorem ovl_tok (m : Str → Option Value) (tv cv v : Option Value) : (fun y => if y = Str.ofString "token" then v else ovl m tv cv y) = ovl m v cv := by
  funext y
  show (if y = Str.ofString "token" then v else if y = Str.ofString "token" then tv else if y = Str.ofString "ch" then cv else m y) = if y = Str.ofString "token" then v else if y = Str.ofString "ch" then cv else m y
  by_cases h2 : y = Str.ofString "token"
  · rw [if_pos h2, if_pos h2]
  · rw [if_neg h2, if_neg h2, if_neg h2]
theorem ovl_tokch (m : Str → Option Value) (tv cv v c : Option Value) : (fun y => if y = Str.ofString "token" then v else if y = Str.ofString "ch" then c else ovl m tv cv y) = ovl m v c := by
  have h : (fun y => if y = Str.ofString "token" then v else if y = Str.ofString "ch" then c else ovl m tv cv y) = (fun y => if y = Str.ofString "token" then v else (fun y => if y = Str.ofString "ch" then c else ovl m tv cv y) y) := rfl
  rw [h, ovl_ch, ovl_tok]
theorem ovl_tokch2 (m : Str → Option Value) (tv cv v c c2 : Option Value) : (fun y => if y = Str.ofString "token" then v else if y = Str.ofString "ch" then c else if y = Str.ofString "ch" then c2 else ovl m tv cv y) = ovl m v c := by
  have h : (fun y => if y = Str.ofString "token" then v else if y = Str.ofString "ch" then c else if y = Str.ofString "ch" then c2 else ovl m tv cv y) = (fun y => if y = Str.ofString "token" then v else if y = Str.ofString "ch" then c else (fun y => if y = Str.ofString "ch" then c2 else ovl m tv cv y) y) := rfl
  rw [h, ovl_ch, ovl_tokch]
theorem Fr.cast' {h₀ h : Heap} {L : Addr} {m m' : Str → Option Value} (F : Fr h₀ L h m) (e : m = m') : Fr h₀ L h m' := e ▸ F
end

section
theorem ins_arr (its : List Value) (k : Nat) (hk : k ≤ its.length) (y : Value) :
    (fun xs : Array Value => let j := if ((k : Nat) : Int) < 0 then (((k : Nat) : Int) + xs.size).toNat else min ((k : Nat) : Int).toNat xs.size; (xs.extract 0 j).push y ++ xs.extract j xs.size) its.toArray = (its.take k ++ y :: its.drop k).toArray := by
  have h1 : ¬ ((k : Nat) : Int) < 0 := by omega
  dsimp only
  rw [if_neg h1]
  have h2 : min ((k : Nat) : Int).toNat its.toArray.size = k := by rw [List.size_toArray, Int.toNat_natCast]; omega
  rw [h2]
  apply Array.ext'
  simp
  rw [List.take_of_length_le (by simp)]
section
variable {prog : Program} {w : World} {A : Around} {E : Value → Shared → Prop} {s : Shared} {L D : Addr} {h₀ : Heap} {m : Str → Option Value} {news news' : List (Addr × Obj)} {n : Nat}
theorem ins_K {its : List Value} {i : Int} {u : Tok} {y : Value} {k : Nat} {Q : Value → Shared → Prop} (F : Fr h₀ L s.heap m) (N : News h₀ L s.heap news) (hik : i = (k : Int)) (hk : k ≤ its.length)
    (U : Upd D (W.listOf its.toArray n) (W.listOf (its.take k ++ y :: its.drop k).toArray (n + 1)) news news') (hz : its.length ≤ 1000)
    (h : ∀ h', Fr h₀ L h' m → News h₀ L h' news' → Q .none { s with heap := h' }) : wpAny (model prog w) A (call (.builtin "list.insert") [.ref D, .int i u, y]) Q E s := by
  obtain ⟨pre, post, rfl, rfl, a, b⟩ := U.split
  have z := N (D, W.listOf its.toArray n) (List.mem_append.mpr (.inr (.head _)))
  have hf : ¬ (!Builtin.List.listFitsIndex i) = true := by
    simp [Builtin.List.listFitsIndex]
    omega
  have hsz : its.toArray.size ≤ sizeLine := by rw [List.size_toArray, sizeLine_eq]; omega
  have hm := PySem.AutoSeq1.list_insert_list_int_val_1 D its.toArray n i u y hf hsz
  refine call_meets PySem.F.slot_list_insert ⟨_, z.1, rfl⟩ PySem.F.entry_list_insert (PySem.F.args_list_insert_3 _ _ _) hm ?_
  refine ⟨z.1, ?_⟩
  refine h _ (F.change (Heap.SameBut.update ..) z.2.1 z.2.2) (kl_turn _ N a b (by rw [hik]; exact ins_arr its k hk y) ?_)
  rw [List.size_toArray, List.size_toArray, List.length_append, List.length_cons, List.length_take, List.length_drop]
  omega
end
/-- sorted insertion behind its equals -/
noncomputable def insR (x : Int) (ns : List Int) : List Int := ns.take (ns.countP fun a => decide (a ≤ x)) ++ x :: ns.drop (ns.countP fun a => decide (a ≤ x))
theorem ints_ins {its : List Value} {ns : List Int} (hi : IntsAre its ns) (k : Nat) (x : Int) (t : Tok) : IntsAre (its.take k ++ .int x t :: its.drop k) (ns.take k ++ x :: ns.drop k) :=
  (hi.take k).append (.cons x t (hi.drop k))
end

section
/-- the walk stops here, for a step by hand -/
structure Halt (P : Prop) : Prop where
  h : P
section
variable {prog : Program} {w : World} {A : Around} {E : Value → Shared → Prop} {s : Shared} {env : Env} {g : Heap}
/-- a turn's end: the frame, the ledger with the iterator as it stood, the invariant for the next turn -/
inductive LEndI (g : Heap) (L I : Addr) (o : Obj) (J : Nat → (Str → Option Value) → List (Addr × Obj) → Prop) (i : Nat) (s0 s : Shared) : Prop
  | mk (h' : Heap) (tk' : Nat) (m' : Str → Option Value) (nx : List (Addr × Obj)) : s = { s0 with heap := h', toks := tk' } → Fr g L h' m' → News g L h' ((I, o) :: nx) → (∀ p ∈ nx, p.1 ≠ I) → J i m' nx → LEndI g L I o J i s0 s
structure LEnd (g : Heap) (L I : Addr) (o : Obj) (J : Nat → (Str → Option Value) → List (Addr × Obj) → Prop) (i : Nat) (s0 s : Shared) : Prop where
  h : LEndI g L I o J i s0 s
inductive Iv (g : Heap) (L I : Addr) (s : Shared) (n : Nat) (St : Addr → Nat → Heap → Prop) (J : Nat → (Str → Option Value) → List (Addr × Obj) → Prop) (k : Nat) (s' : Shared) : Prop
  | mk (i : Nat) (m₁ : Str → Option Value) (o : Obj) (nx : List (Addr × Obj)) (h : Heap) (tk : Nat) : k = n - i → i ≤ n → s' = { s with heap := h, toks := tk } → Fr g L h m₁ → News g L h ((I, o) :: nx) → (∀ p ∈ nx, p.1 ≠ I) → St I i h → J i m₁ nx → Iv g L I s n St J k s'
inductive StartF (g : Heap) (L : Addr) (s : Shared) (St : Addr → Nat → Heap → Prop) (J : Nat → (Str → Option Value) → List (Addr × Obj) → Prop) (r : Value) (s₂ : Shared) : Prop
  | mk (I : Addr) (m : Str → Option Value) (o : Obj) (nx : List (Addr × Obj)) (h : Heap) (tk : Nat) : r = .ref I → s₂ = { s with heap := h, toks := tk } → Fr g L h m → News g L h ((I, o) :: nx) → (∀ p ∈ nx, p.1 ≠ I) → St I 0 h → J 0 m nx → StartF g L s St J r s₂
inductive StartL (g : Heap) (L l : Addr) (s : Shared) (J : Nat → (Str → Option Value) → List (Addr × Obj) → Prop) (xv : Value) (s₁ : Shared) : Prop
  | mk (m : Str → Option Value) (nx : List (Addr × Obj)) (h : Heap) (tk : Nat) : xv = .ref l → s₁ = { s with heap := h, toks := tk } → Fr g L h m → News g L h nx → J 0 m nx → StartL g L l s J xv s₁
inductive StartR (g : Heap) (L : Addr) (a : Int) (n : Nat) (J : Nat → (Str → Option Value) → List (Addr × Obj) → Prop) (s : Shared) (xv : Value) (s₁ : Shared) : Prop
  | mk (r : Addr) (b : Int) (t u v : Tok) (m : Str → Option Value) (nx : List (Addr × Obj)) (h : Heap) (tk : Nat) : xv = .ref r → s₁ = { s with heap := h, toks := tk } → IsRange h r a b 1 t u v → Builtin.Range.small a b 1 = true →
      Builtin.Range.rangeSize a b 1 = (n : Int) → Fr g L h m → News g L h nx → J 0 m nx → StartR g L a n J s xv s₁
theorem lfor {x : Str} {px pos : Pos} {iter : Expr} {body : List Stmt} {Q : Flow → Shared → Prop} {n : Nat} {fp : Addr → List Addr} {P : Nat → Value → Prop} {St : Addr → Nat → Heap → Prop} {keep : List (Addr × Obj)}
    (J : Nat → (Str → Option Value) → List (Addr × Obj) → Prop) (hx : env.kindOf x = some .local) (hkf : env.scope.kind = .function)
    (W : ∀ I, (∀ p ∈ keep, p.1 ≠ I) → Walks prog w A I (fp I) [I] n P (St I)) (hat : ∀ I i h, St I i h → ∃ o, h.get? I = some o) (hfp : ∀ I, ∀ b ∈ fp I, b = I ∨ ∃ p ∈ keep, p.1 = b) (hneed : ∀ i m nx, J i m nx → ∀ p ∈ keep, p ∈ nx)
    (h : wpAny (model prog w) A (eval iter env) (fun xv s₁ => wpAny (model prog w) A (pyIter xv) (fun r s₂ => StartF g env.locals s St J r s₂) E s₁) E s)
    (turn : ∀ i v m₁ nx h tk I o, i < n → P i v → J i m₁ nx → (∀ p ∈ nx, p.1 ≠ I) → Fr g env.locals h (fun y => if y = x then some v else m₁ y) → News g env.locals h ((I, o) :: nx) →
      wpAny (model prog w) A (execs body env) (OwitFlow Q (LEnd g env.locals I o J (i + 1) s)) E { s with heap := h, toks := tk })
    (done : ∀ m₁ nx h tk, J n m₁ nx → Fr g env.locals h m₁ → News g env.locals h nx → Q .next { s with heap := h, toks := tk })
    (hs : ∀ x, foldedSetIterable iter env x = pure x := by intro _; rfl) (hE : PassesOwn (model prog w) A env E := by passes_own) :
    wpAny (model prog w) A (exec (.For (.Name x px) iter body [] pos) env) Q E s := by
  refine wpAny_For (wpAny_mono h (fun xv s₁ h₁ => wpAny_mono h₁ (fun r s₂ h₂ => ?_) fun _ _ z => z) fun _ _ z => z) hs
  obtain ⟨I, m, o, nx, hp, tk, rfl, rfl, F, N, off, st, hJ⟩ := h₂
  have wk := W I fun p hp' => off p (hneed _ _ _ hJ p hp')
  refine codeAny_forLoop (R := fun r s' => match r with | .ok f => Q f s' | .error e => cameBackBy (model prog w) A env E e s')
    (Iv g env.locals I s n St J) ?_ n ⟨0, m, o, nx, hp, tk, rfl, Nat.zero_le _, rfl, F, N, off, st, hJ⟩
  rintro k s' ⟨i, m₁, o, nx, h, tk, rfl, hin, rfl, F, N, off, st, hJ⟩
  have hLI : env.locals ≠ I := Ne.symm (N _ (.head _)).2.1
  have hgI : g.get? I = none := (N _ (.head _)).2.2
  by_cases hlt : i < n
  · refine wpAny_passesOwn hE (wk.item i _ _ _ hlt st fun v h' tk' hP st' hk => ?_)
    obtain ⟨o', ho'⟩ := hat _ _ _ st'
    have F' : Fr g env.locals h' m₁ := ⟨F.ns.at' fun ob e => hk _ _ (by simpa using hLI) e, fun b ob e => hk b ob (by
      simp only [List.mem_singleton]; intro z; subst z; rw [hgI] at e; cases e) (F.keep b ob e), F.above⟩
    have N' : News g env.locals h' ((I, o') :: nx) := fun p hp => by
      rcases List.mem_cons.mp hp with rfl | hp
      · exact ⟨ho', (N _ (.head _)).2⟩
      · exact ⟨hk _ _ (by simpa using off p hp) (N p (.tail _ hp)).1, (N p (.tail _ hp)).2⟩
    refine wpAny_passesOwn hE (wpAny_assign_Name (wpAny_storeName_local hx F'.ns (fun h'' hn hsb => ?_) (by rw [hkf]; rfl)))
    have F'' := F'.set hn hsb
    have N'' := N'.set hsb
    have st'' : St I (i + 1) h'' := by
      refine wk.frame _ _ _ st' fun b hb ob e => ?_
      rcases hfp I b hb with rfl | ⟨p, hp, rfl⟩
      · exact (hsb.2 _ (Ne.symm hLI)).trans e
      · exact (hsb.2 _ (N' p (.tail _ (hneed _ _ _ hJ p hp))).2.1).trans e
    refine wpAny_passesOwn hE (wpAny_mono (turn i v m₁ nx h'' (tk' + 1) I o' hlt hP hJ off F'' N'') (fun f s₃ h₃ => ?_) fun _ _ z => z)
    have fin : LEnd g env.locals I o' J (i + 1) s s₃ → ∃ m, m < n - i ∧ Iv g env.locals I s n St J m s₃ := by
      rintro ⟨⟨h3, tk3, m3, nx3, rfl, F3, N3, off3, hJ3⟩⟩
      refine ⟨n - (i + 1), by omega, i + 1, m3, o', nx3, h3, tk3, rfl, hlt, rfl, F3, N3, off3, ?_, hJ3⟩
      refine wk.frame _ _ _ st'' fun b hb ob e => ?_
      rcases hfp I b hb with rfl | ⟨p, hp, rfl⟩
      · have e1 := (N'' _ (.head _)).1
        dsimp only at e1
        rw [e1] at e
        rw [← e]
        exact (N3 _ (.head _)).1
      · have e1 := (N'' _ (.tail _ (hneed _ _ _ hJ p hp))).1
        rw [e1] at e
        rw [← e]
        exact (N3 _ (.tail _ (hneed _ _ _ hJ3 p hp))).1
    cases f with
    | next => exact fin h₃
    | cont => exact fin h₃
    | brk => exact h₃
    | ret _ => exact h₃
  · have hi : i = n := by omega
    subst hi
    refine wpAny_passesOwn hE (wk.done _ _ _ st fun h' tk' hk => wpAny_execs_nil ?_)
    refine done m₁ nx h' tk' hJ ⟨F.ns.at' fun ob e => hk _ _ (by simpa using hLI) e, fun b ob e => hk b ob (by
      simp only [List.mem_singleton]; intro z; subst z; rw [hgI] at e; cases e) (F.keep b ob e), F.above⟩ (fun p hp => ?_)
    exact ⟨hk _ _ (by simpa using off p hp) (N p (.tail _ hp)).1, (N p (.tail _ hp)).2⟩
end
section
variable {prog : Program} {w : World} {A : Around} {E : Value → Shared → Prop} {s : Shared} {env : Env} {g : Heap}
theorem lforRange {x : Str} {px pos : Pos} {iter : Expr} {body : List Stmt} {Q : Flow → Shared → Prop} (a : Int) (n : Nat)
    (J : Nat → (Str → Option Value) → List (Addr × Obj) → Prop) (hh : A.handled = none) (hx : env.kindOf x = some .local) (hkf : env.scope.kind = .function)
    (h : wpAny (model prog w) A (eval iter env) (fun xv s₁ => Halt (StartR g env.locals a n J s xv s₁)) E s)
    (turn : ∀ i t m₁ nx h tk I o, i < n → J i m₁ nx → (∀ p ∈ nx, p.1 ≠ I) → Fr g env.locals h (fun y => if y = x then some (.int (a + (i : Nat)) t) else m₁ y) → News g env.locals h ((I, o) :: nx) →
      wpAny (model prog w) A (execs body env) (OwitFlow Q (LEnd g env.locals I o J (i + 1) s)) E { s with heap := h, toks := tk })
    (done : ∀ m₁ nx h tk, J n m₁ nx → Fr g env.locals h m₁ → News g env.locals h nx → Q .next { s with heap := h, toks := tk })
    (hs : ∀ x, foldedSetIterable iter env x = pure x := by intro _; rfl) (hE : PassesOwn (model prog w) A env E := by passes_own) :
    wpAny (model prog w) A (exec (.For (.Name x px) iter body [] pos) env) Q E s := by
  refine lfor (n := n) (fp := fun I => [I]) (P := fun i v => ∃ t, v = .int (a + i * 1) t) (St := fun I i h => IsRangeIter h I (a + (i : Nat) * 1) ((n : Int) - (i : Nat)) 1) (keep := []) J hx hkf (fun I _ => Walks.range hh I a 1 n)
    (fun I i h st => ⟨_, st⟩) (fun I b hb => .inl (List.mem_singleton.mp hb)) (fun _ _ _ _ _ hp => nomatch hp) ?_ (fun i v m₁ nx h tk I o hi hP hJ off F N => ?_) done hs hE
  · refine wpAny_mono h (fun xv s₁ h₁ => ?_) fun _ _ z => z
    obtain ⟨r, b, t, u, v, m, nx, hp, tk, rfl, rfl, hr, hsm, hn, F, N, hJ⟩ := h₁.h
    refine wpAny_pyIter_range hr hsm ?_
    refine ⟨_, m, _, nx, _, tk, rfl, rfl, F.push _, N.push F _, fun p hp' => Nat.ne_of_lt (Heap.lt_size (N p hp').1), ?_, hJ⟩
    show IsRangeIter _ _ _ _ _
    rw [hn]
    simpa using Heap.get?_push_size _ rfl
  · obtain ⟨t, rfl⟩ := hP
    rw [Int.mul_one] at F
    exact turn i t m₁ nx h tk I o hi hJ off F N
end
end

section
/-- the letters of a number to the base 16, with fuel -/
noncomputable def hxF : Nat → Nat → List Nat
  | 0, _ => []
  | k + 1, n => if n = 0 then [] else hxF k (n / 16) ++ [65 + n % 16]
/-- the letters of a number to the base 16 -/
noncomputable def hx (n : Nat) : List Nat := hxF n n
theorem hxF_eq : ∀ (k j n : Nat), n ≤ k → n ≤ j → hxF k n = hxF j n
  | 0, 0, _, _, _ => rfl
  | 0, j + 1, n, h, _ => by
    have : n = 0 := Nat.le_zero.mp h
    subst this; rfl
  | k + 1, 0, n, _, h => by
    have : n = 0 := Nat.le_zero.mp h
    subst this; rfl
  | k + 1, j + 1, n, h, h' => by
    show (if n = 0 then [] else hxF k (n / 16) ++ [65 + n % 16]) = (if n = 0 then [] else hxF j (n / 16) ++ [65 + n % 16])
    by_cases h0 : n = 0
    · rw [if_pos h0, if_pos h0]
    · have hd := Nat.div_lt_self (Nat.pos_of_ne_zero h0) (show 1 < 16 by decide)
      rw [hxF_eq k j (n / 16) (Nat.le_of_lt_succ (Nat.lt_of_lt_of_le hd h)) (Nat.le_of_lt_succ (Nat.lt_of_lt_of_le hd h'))]
theorem hx_zero : hx 0 = [] := rfl
theorem hx_pos {n : Nat} (h : 0 < n) : hx n = hx (n / 16) ++ [65 + n % 16] := by
  cases n with
  | zero => exact absurd h (Nat.lt_irrefl _)
  | succ k =>
    show (if k + 1 = 0 then [] else hxF k ((k + 1) / 16) ++ [65 + (k + 1) % 16]) = _
    rw [if_neg (Nat.succ_ne_zero k), hxF_eq k ((k + 1) / 16) _ (Nat.le_of_lt_succ (Nat.div_lt_self (Nat.succ_pos k) (by decide))) (Nat.le_refl _)]; rfl
theorem hx_len : ∀ (k n : Nat), n < 16 ^ k → (hx n).length ≤ k
  | 0, n, h => by
    have : n = 0 := by simp at h; exact h
    subst this; rw [hx_zero]; exact Nat.le_refl _
  | k + 1, n, h => by
    by_cases h0 : n = 0
    · subst h0; rw [hx_zero]; exact Nat.zero_le _
    · rw [hx_pos (by omega), List.length_append]
      have := hx_len k (n / 16) (by rw [Nat.pow_succ] at h; omega)
      simp only [List.length_cons, List.length_nil]
      omega
theorem hx_mem : ∀ (n : Nat), ∀ c ∈ hx n, 65 ≤ c ∧ c ≤ 80 := by
  intro n
  induction n using Nat.strongRecOn with
  | ind n ih =>
    intro c hc
    by_cases h0 : n = 0
    · subst h0; rw [hx_zero] at hc; cases hc
    · rw [hx_pos (by omega)] at hc
      rcases List.mem_append.mp hc with hc | hc
      · exact ih (n / 16) (by omega) c hc
      · simp only [List.mem_cons, List.not_mem_nil, or_false] at hc
        omega
theorem hx_ne {n : Nat} (h : 0 < n) : hx n ≠ [] := by rw [hx_pos h]; simp
theorem fdm16 (N : Int) (h : 0 ≤ N) : N.fdiv 16 = ((N.natAbs / 16 : Nat) : Int) ∧ N.fmod 16 = ((N.natAbs % 16 : Nat) : Int) := by
  obtain ⟨n, rfl⟩ := Int.eq_ofNat_of_zero_le h
  have h1 : (n : Int).fdiv 16 = (n : Int) / 16 := Int.fdiv_eq_ediv_of_nonneg _ (by decide)
  have h2 : (n : Int).fmod 16 = (n : Int) % 16 := Int.fmod_eq_emod_of_nonneg _ (by decide)
  rw [h1, h2]
  constructor <;> simp
theorem hx_step {v N : Nat} {t : List Nat} (h : hx v = hx N ++ t) (hN : 0 < N) : hx v = hx (N / 16) ++ ((65 + N % 16) :: t) := by
  rw [h, hx_pos hN, List.append_assoc]; rfl
theorem apbytes : ∀ m : Nat, m < 16 → KBy.picked #[65, 66, 67, 68, 69, 70, 71, 72, 73, 74, 75, 76, 77, 78, 79, 80] (some (m : Int)) (some ((m : Int) + 1)) = #[UInt8.ofNat (65 + m)] := by decide +kernel
theorem apitem : ∀ m : Nat, m < 16 → Txt.item (Str.ofString "ABCDEFGHIJKLMNOP") (m : Int) = ⟨#[65 + m]⟩ := by decide +kernel
theorem ap_start (v : Int) (hv : v.natAbs < 16 ^ 6) : (0 ≤ if v < 0 then -v else v) ∧ (if v < 0 then -v else v).natAbs < 16 ^ 6 ∧ (#[] : Array UInt8).size ≤ 6 ∧ hx v.natAbs = hx (if v < 0 then -v else v).natAbs ++ List.map (fun x => UInt8.toNat x) [] := by
  split
  · refine ⟨by omega, by omega, by decide, ?_⟩
    rw [List.map_nil, List.append_nil, Int.natAbs_neg]
  · refine ⟨by omega, by omega, by decide, ?_⟩
    rw [List.map_nil, List.append_nil]
theorem ap_turn {v N : Int} {b : Array UInt8} (hv : v.natAbs < 16 ^ 6) (h : 0 ≤ N ∧ N.natAbs < 16 ^ 6 ∧ b.size ≤ 6 ∧ hx v.natAbs = hx N.natAbs ++ b.toList.map (fun x => UInt8.toNat x)) (hN : N ≠ 0) :
    0 ≤ N.fdiv 16 ∧ (N.fdiv 16).natAbs < 16 ^ 6 ∧ (KBy.picked #[65, 66, 67, 68, 69, 70, 71, 72, 73, 74, 75, 76, 77, 78, 79, 80] (some (N.fmod 16)) (some (N.fmod 16 + 1)) ++ b).size ≤ 6 ∧
      hx v.natAbs = hx (N.fdiv 16).natAbs ++ List.map (fun x => UInt8.toNat x) (KBy.picked #[65, 66, 67, 68, 69, 70, 71, 72, 73, 74, 75, 76, 77, 78, 79, 80] (some (N.fmod 16)) (some (N.fmod 16 + 1)) ++ b).toList := by
  obtain ⟨h0, h1, h2, h3⟩ := h
  obtain ⟨e1, e2⟩ := fdm16 N h0
  have hp : 0 < N.natAbs := by omega
  have h4 := hx_step h3 hp
  have hm : N.natAbs % 16 < 16 := Nat.mod_lt _ (by decide)
  rw [e1, e2, apbytes _ hm]
  have h5 : hx v.natAbs = hx ((N.natAbs / 16 : Nat) : Int).natAbs ++ List.map (fun x => UInt8.toNat x) (#[UInt8.ofNat (65 + N.natAbs % 16)] ++ b).toList := by
    rw [h4]
    simp only [Int.natAbs_natCast, Array.toList_append, List.map_append, List.map_cons, List.map_nil, List.cons_append, List.nil_append]
    have : (UInt8.ofNat (65 + N.natAbs % 16)).toNat = 65 + N.natAbs % 16 := by simp [UInt8.toNat_ofNat', Nat.mod_eq_of_lt (show 65 + N.natAbs % 16 < 256 by omega)]
    rw [this]
  refine ⟨by omega, by simp only [Int.natAbs_natCast]; omega, ?_, h5⟩
  have h6 : (hx v.natAbs).length = (hx ((N.natAbs / 16 : Nat) : Int).natAbs).length + (#[UInt8.ofNat (65 + N.natAbs % 16)] ++ b).size := (congrArg List.length h5).trans (by rw [List.length_append, List.length_map, Array.length_toList (xs := #[UInt8.ofNat (65 + N.natAbs % 16)] ++ b)])
  have h7 := hx_len 6 _ hv
  clear h5 h4 h3
  generalize (#[UInt8.ofNat (65 + N.natAbs % 16)] ++ b).size = z at *
  omega
theorem fd_less {N : Int} (h0 : 0 ≤ N) (hN : N ≠ 0) : (N.fdiv 16).natAbs < N.natAbs := by
  rw [(fdm16 N h0).1, Int.natAbs_natCast]
  omega
theorem ap_end2 {v N : Int} {b : Array UInt8} (hz : N = 0) (h : hx v.natAbs = hx N.natAbs ++ b.toList.map (fun x => UInt8.toNat x)) : ((hx v.natAbs).map UInt8.ofNat).toArray = b := by
  subst hz
  rw [h, Int.natAbs_zero, hx_zero, List.nil_append, List.map_map]
  have : (UInt8.ofNat ∘ fun x : UInt8 => x.toNat) = id := by funext x; simp
  rw [this, List.map_id]
end

section
/-- how many there are of a kind that comes first -/
noncomputable def cntLt (x : Int) (ns : List Int) : Nat := ns.countP fun a => decide (a < x)
noncomputable def cntLe (x : Int) (ns : List Int) : Nat := ns.countP fun a => decide (a ≤ x)
noncomputable def PL (x : Int) (a : Int) : Bool := decide (a < x)
noncomputable def PR (x : Int) (a : Int) : Bool := decide (a ≤ x)
noncomputable abbrev BInv (p : Int → Bool) (ns : List Int) (lo hi : Int) : Prop :=
  0 ≤ lo ∧ lo ≤ hi ∧ hi ≤ (ns.length : Int) ∧ (∀ i : Nat, (i : Int) < lo → p (ns.getD i 0) = true) ∧ (∀ i : Nat, hi ≤ (i : Int) → i < ns.length → p (ns.getD i 0) = false)
theorem sorted_getD {ns : List Int} (hs : ns.Pairwise (· ≤ ·)) {i j : Nat} (hij : i ≤ j) (hj : j < ns.length) : ns.getD i 0 ≤ ns.getD j 0 := by
  rcases Nat.lt_or_eq_of_le hij with h | h
  · have hi := Nat.lt_trans h hj
    rw [List.getD_eq_getElem?_getD, List.getD_eq_getElem?_getD, List.getElem?_eq_getElem hi, List.getElem?_eq_getElem hj]
    exact (List.pairwise_iff_getElem.mp hs) i j hi hj h
  · subst h; exact Int.le_refl _
theorem fd2 {lo hi : Int} (h0 : 0 ≤ lo) (h : lo < hi) : lo ≤ (lo + hi).fdiv 2 ∧ (lo + hi).fdiv 2 < hi := by
  rw [Int.fdiv_eq_ediv_of_nonneg _ (by decide)]
  exact ⟨Int.le_ediv_of_mul_le (by decide) (by rw [Int.mul_comm, Int.two_mul]; exact Int.add_le_add_left (Int.le_of_lt h) lo), Int.ediv_lt_of_lt_mul (by decide) (by rw [Int.mul_comm, Int.two_mul]; exact Int.add_lt_add_right h hi)⟩
theorem binv_start (p : Int → Bool) (ns : List Int) : BInv p ns 0 (ns.length : Int) :=
  ⟨Int.le_refl 0, Int.natCast_nonneg _, Int.le_refl _, fun i h => absurd h (Int.not_lt.mpr (Int.natCast_nonneg i)), fun _ h h2 => absurd h2 (Nat.not_lt.mpr (Int.ofNat_le.mp h))⟩
theorem binv_up {p : Int → Bool} {ns : List Int} {lo hi : Int} (mono : ∀ a b, a ≤ b → p b = true → p a = true) (hs : ns.Pairwise (· ≤ ·)) (h : BInv p ns lo hi) (hlt : lo < hi) (hp : p (ns.getD ((lo + hi).fdiv 2).toNat 0) = true) : BInv p ns ((lo + hi).fdiv 2 + 1) hi :=
  have hm := fd2 h.1 hlt
  have h0 := Int.le_trans h.1 hm.1
  ⟨Int.add_nonneg h0 (by decide), Int.add_one_le_of_lt hm.2, h.2.2.1, fun _ hi' => mono _ _ (sorted_getD hs ((Int.le_toNat h0).mpr (Int.le_of_lt_add_one hi')) ((Int.toNat_lt h0).mpr (Int.lt_of_lt_of_le hm.2 h.2.2.1))) hp, h.2.2.2.2⟩
theorem binv_down {p : Int → Bool} {ns : List Int} {lo hi : Int} (mono : ∀ a b, a ≤ b → p b = true → p a = true) (hs : ns.Pairwise (· ≤ ·)) (h : BInv p ns lo hi) (hlt : lo < hi) (hp : p (ns.getD ((lo + hi).fdiv 2).toNat 0) = false) : BInv p ns lo ((lo + hi).fdiv 2) :=
  have hm := fd2 h.1 hlt
  ⟨h.1, hm.1, Int.le_of_lt (Int.lt_of_lt_of_le hm.2 h.2.2.1), h.2.2.2.1, fun _ hi' hl => Bool.eq_false_iff.mpr fun e => Bool.eq_false_iff.mp hp (mono _ _ (sorted_getD hs (Int.toNat_le.mpr hi') hl) e)⟩
theorem count_of {p : Int → Bool} {ns : List Int} : ∀ {k : Nat}, k ≤ ns.length → (∀ i : Nat, i < k → p (ns.getD i 0) = true) → (∀ i : Nat, k ≤ i → i < ns.length → p (ns.getD i 0) = false) → ns.countP p = k := by
  induction ns with
  | nil => intro k h _ _; exact (Nat.le_zero.mp h).symm
  | cons a r ih =>
    intro k h h1 h2
    cases k with
    | zero =>
      rw [List.countP_cons_of_neg (a := a) (Bool.eq_false_iff.mp (h2 0 (Nat.le_refl _) (Nat.succ_pos _)))]
      exact ih (Nat.zero_le _) (fun i h => absurd h (Nat.not_lt_zero i)) fun i _ hl => h2 (i + 1) (Nat.zero_le _) (Nat.succ_lt_succ hl)
    | succ k =>
      rw [List.countP_cons_of_pos (a := a) (h1 0 (Nat.succ_pos _)), ih (Nat.le_of_succ_le_succ h) (fun i hi => h1 (i + 1) (Nat.succ_lt_succ hi)) fun i hi hl => h2 (i + 1) (Nat.succ_le_succ hi) (Nat.succ_lt_succ hl)]
theorem binv_end {p : Int → Bool} {ns : List Int} {lo hi : Int} (h : BInv p ns lo hi) (hge : ¬ lo < hi) : ((ns.countP p : Nat) : Int) = lo := by
  rw [count_of (k := lo.toNat) (Int.toNat_le.mpr (Int.le_trans h.2.1 h.2.2.1)) (fun i hi' => h.2.2.2.1 i (Int.lt_toNat.mp hi')) (fun i hi' hl => h.2.2.2.2 i (Int.le_trans (Int.not_lt.mp hge) (Int.toNat_le.mp hi')) hl)]
  exact Int.toNat_of_nonneg h.1
theorem PL_mono (x : Int) : ∀ a b, a ≤ b → PL x b = true → PL x a = true := fun _ _ h hb => decide_eq_true (Int.lt_of_le_of_lt h (of_decide_eq_true hb))
theorem PR_mono (x : Int) : ∀ a b, a ≤ b → PR x b = true → PR x a = true := fun _ _ h hb => decide_eq_true (Int.le_trans h (of_decide_eq_true hb))
theorem PL_tt {x a : Int} (h : a < x) : PL x a = true := decide_eq_true h
theorem PL_ff {x a : Int} (h : ¬ a < x) : PL x a = false := decide_eq_false h
theorem PR_ff {x a : Int} (h : x < a) : PR x a = false := decide_eq_false (Int.not_le.mpr h)
theorem PR_tt {x a : Int} (h : ¬ x < a) : PR x a = true := decide_eq_true (Int.not_lt.mp h)
theorem fd2_less1 {lo hi : Int} (h0 : 0 ≤ lo) (h : lo < hi) : (hi - ((lo + hi).fdiv 2 + 1)).toNat < (hi - lo).toNat :=
  (Int.toNat_lt_toNat (Int.sub_pos_of_lt h)).mpr (Int.sub_lt_sub_left (Int.lt_add_one_of_le (fd2 h0 h).1) hi)
theorem fd2_less2 {lo hi : Int} (h0 : 0 ≤ lo) (h : lo < hi) : ((lo + hi).fdiv 2 - lo).toNat < (hi - lo).toNat :=
  (Int.toNat_lt_toNat (Int.sub_pos_of_lt h)).mpr (Int.sub_lt_sub_right (fd2 h0 h).2 lo)
end

section
noncomputable abbrev mapOf2 {g h : Heap} {L : Addr} {m : Str → Option Value} (_ : Fr g L h m) : Str → Option Value := m
noncomputable abbrev fst1 {g h : Heap} {L : Addr} {a : Addr × Obj} {r : List (Addr × Obj)} (_ : News g L h (a :: r)) : Addr × Obj := a
noncomputable abbrev tl1 {g h : Heap} {L : Addr} {a : Addr × Obj} {r : List (Addr × Obj)} (_ : News g L h (a :: r)) : List (Addr × Obj) := r
/-- the frame's map with one name laid over -/
noncomputable abbrev ov1 (x : Str) (m : Str → Option Value) (v : Option Value) : Str → Option Value := fun y => if y = x then v else m y
theorem ov1_self (x : Str) (m : Str → Option Value) : m = ov1 x m (m x) := by
  funext y
  show m y = if y = x then m x else m y
  by_cases h : y = x
  · rw [if_pos h, h]
  · rw [if_neg h]
theorem ov1_ov1 (x : Str) (m : Str → Option Value) (v w : Option Value) : (fun y => if y = x then v else ov1 x m w y) = ov1 x m v := by
  funext y
  show (if y = x then v else if y = x then w else m y) = if y = x then v else m y
  by_cases h : y = x
  · rw [if_pos h, if_pos h]
  · rw [if_neg h, if_neg h, if_neg h]

/-- three names laid over, in this order: the counter, a local, the text that grows -/
theorem ov3 (K W' P : Str) (m : Str → Option Value) (kc wc pc vk vw vp : Option Value) (h1 : ¬ K = P) (h2 : ¬ K = W') (h3 : ¬ W' = P) :
    (fun y => if y = P then vp else if y = W' then vw else if y = K then vk else ov1 P (ov1 W' (ov1 K m kc) wc) pc y) = ov1 P (ov1 W' (ov1 K m vk) vw) vp := by
  funext y
  unfold ov1
  split
  · rfl
  · rename_i hp
    split
    · rfl
    · rename_i hw
      split
      · rfl
      · rename_i hk
        rfl
theorem ov3_self (K W' P : Str) (m : Str → Option Value) : m = ov1 P (ov1 W' (ov1 K m (m K)) (m W')) (m P) := by
  funext y
  unfold ov1
  split
  · rename_i h; rw [h]
  · split
    · rename_i h; rw [h]
    · split
      · rename_i h; rw [h]
      · rfl
theorem ints_lt {ns : List Int} {B : Nat} (h : ∀ v ∈ ns, v.natAbs < B) (hB : 0 < B) (k : Nat) : (ns.getD k 0).natAbs < B := by
  rw [List.getD_eq_getElem?_getD]
  by_cases hk : k < ns.length
  · rw [List.getElem?_eq_getElem hk]; exact h _ (List.getElem_mem hk)
  · rw [List.getElem?_eq_none (by omega)]; exact hB
theorem ov1s (a : Str) (M : Str → Option Value) {v : Option Value} (h : M a = v) : M = ov1 a M v := by subst h; exact ov1_self a M
theorem ov2s (a b : Str) (M : Str → Option Value) {v1 v2 : Option Value} (h1 : M a = v1) (h2 : M b = v2) : M = ov1 a (ov1 b M v2) v1 := by
  subst h1; subst h2
  rw [← ov1_self b M, ← ov1_self a M]
theorem ov3s (a b c : Str) (M : Str → Option Value) {v1 v2 v3 : Option Value} (h1 : M a = v1) (h2 : M b = v2) (h3 : M c = v3) : M = ov1 a (ov1 b (ov1 c M v3) v2) v1 := by
  subst h1; subst h2; subst h3
  rw [← ov1_self c M, ← ov1_self b M, ← ov1_self a M]
theorem foldE9 {α : Type} {M : Model} {A : Around} {t : Sem α} {Q : α → Shared → Prop} {E : Value → Shared → Prop} {s : Shared} (h : let Q' := Q; let E' := E; wpAny M A t Q' E' s) : wpAny M A t Q E s := h
theorem foldG9 {G : Prop} (h : let G' := G; G') : G := h
end

local macro_rules | `(tactic| k_mem) => `(tactic| first | (with_reducible assumption) | (refine Mine.mem_of ?_; with_reducible assumption) | fail "k_mem")
local macro_rules | `(tactic| k_room) => `(tactic| ktr_room)
local macro_rules | `(tactic| k_all) => `(tactic| first | (with_reducible first | assumption | exact Mine.alR (by assumption) (Nat.le_refl _) | exact Mine.al0 (by assumption) (Nat.le_refl _) | exact Mine.al1 (by assumption) (Nat.le_refl _) | exact Mine.al2 (by assumption) (Nat.le_refl _) | exact Mine.al3 (by assumption) (Nat.le_refl _) | exact Mine.al4 (by assumption) (Nat.le_refl _) | exact Mine.al5 (by assumption) (Nat.le_refl _) | exact Mine.al6 (by assumption) (Nat.le_refl _) | exact Mine.al7 (by assumption) (Nat.le_refl _) | exact Mine.al8 (by assumption) (Nat.le_refl _) | exact Mine.al9 (by assumption) (Nat.le_refl _) | exact Mine.al10 (by assumption) (Nat.le_refl _) | exact Mine.al11 (by assumption) (Nat.le_refl _) | exact Mine.al12 (by assumption) (Nat.le_refl _)) | (refine' Mine.alR ?H ?L; (case H => with_reducible assumption); (case L => omega)) | (refine' Mine.al0 ?H ?L; (case H => with_reducible assumption); (case L => omega)) | (refine' Mine.al1 ?H ?L; (case H => with_reducible assumption); (case L => omega)) | (refine' Mine.al2 ?H ?L; (case H => with_reducible assumption); (case L => omega)) | (refine' Mine.al3 ?H ?L; (case H => with_reducible assumption); (case L => omega)) | (refine' Mine.al4 ?H ?L; (case H => with_reducible assumption); (case L => omega)) | (refine' Mine.al5 ?H ?L; (case H => with_reducible assumption); (case L => omega)) | (refine' Mine.al6 ?H ?L; (case H => with_reducible assumption); (case L => omega)) | (refine' Mine.al7 ?H ?L; (case H => with_reducible assumption); (case L => omega)) | (refine' Mine.al8 ?H ?L; (case H => with_reducible assumption); (case L => omega)) | (refine' Mine.al9 ?H ?L; (case H => with_reducible assumption); (case L => omega)) | (refine' Mine.al10 ?H ?L; (case H => with_reducible assumption); (case L => omega)) | (refine' Mine.al11 ?H ?L; (case H => with_reducible assumption); (case L => omega)) | (refine' Mine.al12 ?H ?L; (case H => with_reducible assumption); (case L => omega)) | fail "k_all")
local macro_rules | `(tactic| k_ne) => `(tactic| (refine neN ?_; (try dsimp only); (with_reducible first | assumption | (refine Ne.symm ?_; assumption) | exact Nat.ne_of_lt (by assumption) | exact Nat.ne_of_gt (by assumption) | exact Nat.ne_of_lt (Mine.pk0 (by assumption)) | exact Nat.ne_of_gt (Mine.pk0 (by assumption)) | exact Nat.ne_of_lt (Mine.pk1 (by assumption)) | exact Nat.ne_of_gt (Mine.pk1 (by assumption)) | exact Nat.ne_of_lt (Mine.pk2 (by assumption)) | exact Nat.ne_of_gt (Mine.pk2 (by assumption)) | exact Nat.ne_of_lt (Mine.pk3 (by assumption)) | exact Nat.ne_of_gt (Mine.pk3 (by assumption)) | exact Nat.ne_of_lt (Mine.pk4 (by assumption)) | exact Nat.ne_of_gt (Mine.pk4 (by assumption)) | exact Nat.ne_of_lt (Mine.pk5 (by assumption)) | exact Nat.ne_of_gt (Mine.pk5 (by assumption)) | exact Nat.ne_of_lt (Mine.pk6 (by assumption)) | exact Nat.ne_of_gt (Mine.pk6 (by assumption)) | exact Nat.ne_of_lt (Mine.pk7 (by assumption)) | exact Nat.ne_of_gt (Mine.pk7 (by assumption)) | exact Nat.ne_of_lt (Mine.pk8 (by assumption)) | exact Nat.ne_of_gt (Mine.pk8 (by assumption)) | fail "k_ne")))
local macro_rules | `(tactic| walk_at "ite") => `(tactic| (k_here; first | (with_reducible refine PySem.W.ite_neg (by with_reducible assumption) ?_) | (with_reducible refine PySem.W.ite_pos (by decide +kernel) ?_) | (with_reducible refine PySem.W.ite_neg (by decide +kernel) ?_)))
local macro_rules
  | `(tactic| walk_at "exec For Name Name cons nil") => `(tactic| k_extra "exec For Name Name cons nil")
  | `(tactic| walk_at "exec Assign cons ListComp") => `(tactic| k_extra "exec Assign cons ListComp")
  | `(tactic| walk_at "CompSrc") => `(tactic| k_extra "CompSrc")
  | `(tactic| walk_at "CompSrcT") => `(tactic| k_extra "CompSrcT")
  | `(tactic| walk_at "eval ListComp") => `(tactic| k_extra "eval ListComp")

section
local macro_rules | `(tactic| walk_at "setAttr ref") => `(tactic| k_extra "setAttr ref")
theorem news_mach2 {h₀ h : Heap} {L : Addr} {a1 a2 a3 b1 b2 b3 b4 b5 a4 c1 c2 c3 : Addr × Obj} {r : List (Addr × Obj)} (N : News h₀ L h (a1 :: a2 :: a3 :: b1 :: b2 :: b3 :: b4 :: b5 :: a4 :: c1 :: c2 :: c3 :: r)) :
    News h₀ L h (a1 :: a2 :: a3 :: a4 :: ([b1, b2, b3, b4, b5, c1, c2, c3] ++ r)) := news_mach N
namespace reader_new_K
noncomputable def P9 (w : World) (loose : List Str) (mean : ExcName → Option Value) (mg : Str → Option Value) (mb : Str → Option Value) (dp : Nat) (un : Nat) (gd : Option (List Code)) (cn : Str) (cs : Scope) (a : Addr) (ccd : Value) (cl : List (Str × Addr)) (outer : List Env) (A₀ : Around) (base : Heap) (h₀ : Heap) (L : Addr) (m : Str → Option Value) (s : Shared) (Q : Value → Shared → Prop) (E : Value → Shared → Prop) (rest : List (Addr × Obj)) (txt : Str) (t : Tok) : Prop :=
  (hx : txt.length < 1000) → (hr : ∀ p ∈ rest, p.1 ≠ 92) → AskV 20 w loose mean mg mb 97 ((92, tabObj #[]) :: rest) [.str txt t] (fun h₀ L m s Q =>
    ∀ (x d pb la st : Addr) (k1 k2 k3 k4 k5 k6 ti : Tok) (nb : List (Addr × Obj)) (h' : Heap) (tk' : Nat), Fr h₀ L h' m →
      News h₀ L h' ((pb, W.listOf #[] 0) :: (x, instObj 86 d) :: (d, mDict w 1 st pb k1 k2 k3 k4 k5 k6) :: (la, W.listOf #[.int 0 ti] 0) :: (nb ++ rest)) →
      (∀ q ∈ rest, q.1 ≠ pb) → (∀ q ∈ rest, q.1 ≠ x) → (∀ q ∈ rest, q.1 ≠ d) → (∀ q ∈ rest, q.1 ≠ la) → (∀ p ∈ nb, ∀ q ∈ rest, q.1 ≠ p.1) → (∃ ps, (92, tabObj ps) ∈ nb) →
      Mach w loose mean mg mb x d pb la st txt nb → Q (.ref x) { s with heap := h', toks := tk' }) dp un gd cn cs a ccd cl outer A₀ base h₀ L m s Q E
noncomputable def PV9 (v : K9 × (List (Addr × Obj)) × (Str) × (Tok)) : Prop := P9 v.1.1 v.1.2.1 v.1.2.2.1 v.1.2.2.2.1 v.1.2.2.2.2.1 v.1.2.2.2.2.2.1 v.1.2.2.2.2.2.2.1 v.1.2.2.2.2.2.2.2.1 v.1.2.2.2.2.2.2.2.2.1 v.1.2.2.2.2.2.2.2.2.2.1 v.1.2.2.2.2.2.2.2.2.2.2.1 v.1.2.2.2.2.2.2.2.2.2.2.2.1 v.1.2.2.2.2.2.2.2.2.2.2.2.2.1 v.1.2.2.2.2.2.2.2.2.2.2.2.2.2.1 v.1.2.2.2.2.2.2.2.2.2.2.2.2.2.2.1 v.1.2.2.2.2.2.2.2.2.2.2.2.2.2.2.2.1 v.1.2.2.2.2.2.2.2.2.2.2.2.2.2.2.2.2.1 v.1.2.2.2.2.2.2.2.2.2.2.2.2.2.2.2.2.2.1 v.1.2.2.2.2.2.2.2.2.2.2.2.2.2.2.2.2.2.2.1 v.1.2.2.2.2.2.2.2.2.2.2.2.2.2.2.2.2.2.2.2.1 v.1.2.2.2.2.2.2.2.2.2.2.2.2.2.2.2.2.2.2.2.2.1 v.1.2.2.2.2.2.2.2.2.2.2.2.2.2.2.2.2.2.2.2.2.2 v.2.1 v.2.2.1 v.2.2.2
theorem ex9 : ∃ c, PV9 c → ∀ v, PV9 v := sk9 ⟨(Classical.choice ne9, default, default, default)⟩ PV9
noncomputable def c9 : K9 × (List (Addr × Obj)) × (Str) × (Tok) := Classical.choose ex9
noncomputable def w : World := c9.1.1
noncomputable def loose : List Str := c9.1.2.1
noncomputable def mean : ExcName → Option Value := c9.1.2.2.1
noncomputable def mg : Str → Option Value := c9.1.2.2.2.1
noncomputable def mb : Str → Option Value := c9.1.2.2.2.2.1
noncomputable def dp : Nat := c9.1.2.2.2.2.2.1
noncomputable def un : Nat := c9.1.2.2.2.2.2.2.1
noncomputable def gd : Option (List Code) := c9.1.2.2.2.2.2.2.2.1
noncomputable def cn : Str := c9.1.2.2.2.2.2.2.2.2.1
noncomputable def cs : Scope := c9.1.2.2.2.2.2.2.2.2.2.1
noncomputable def a : Addr := c9.1.2.2.2.2.2.2.2.2.2.2.1
noncomputable def ccd : Value := c9.1.2.2.2.2.2.2.2.2.2.2.2.1
noncomputable def cl : List (Str × Addr) := c9.1.2.2.2.2.2.2.2.2.2.2.2.2.1
noncomputable def outer : List Env := c9.1.2.2.2.2.2.2.2.2.2.2.2.2.2.1
noncomputable def A₀ : Around := c9.1.2.2.2.2.2.2.2.2.2.2.2.2.2.2.1
noncomputable def base : Heap := c9.1.2.2.2.2.2.2.2.2.2.2.2.2.2.2.2.1
noncomputable def h₀ : Heap := c9.1.2.2.2.2.2.2.2.2.2.2.2.2.2.2.2.2.1
noncomputable def L : Addr := c9.1.2.2.2.2.2.2.2.2.2.2.2.2.2.2.2.2.2.1
noncomputable def m : Str → Option Value := c9.1.2.2.2.2.2.2.2.2.2.2.2.2.2.2.2.2.2.2.1
noncomputable def s : Shared := c9.1.2.2.2.2.2.2.2.2.2.2.2.2.2.2.2.2.2.2.2.1
noncomputable def Q : Value → Shared → Prop := c9.1.2.2.2.2.2.2.2.2.2.2.2.2.2.2.2.2.2.2.2.2.1
noncomputable def E : Value → Shared → Prop := c9.1.2.2.2.2.2.2.2.2.2.2.2.2.2.2.2.2.2.2.2.2.2
noncomputable def rest : List (Addr × Obj) := c9.2.1
noncomputable def txt : Str := c9.2.2.1
noncomputable def t : Tok := c9.2.2.2
end reader_new_K
open reader_new_K in
set_option maxHeartbeats 4000000 in
set_option maxRecDepth 100000 in
theorem reader_new_at : P9 w loose mean mg mb dp un gd cn cs a ccd cl outer A₀ base h₀ L m s Q E rest txt t := by
  k_with_none
  w_top off
  intro hx hr B F X N T hk hdp hun codeHd hret
  have fill9 : Challenge.rw_sr0027_02 = Challenge.rw_sr0027_02 ∧ hd.heap_39 = hd.heap_39 := by k_fill; exact ⟨rfl, rfl⟩
  (k_with "setAttr ref" => (k_here; kn_here; k_dflt (refine' Mine.set_fn_K ?F ?N ?U ?B ?_; (case F => k_asm); (case N => k_asm); (case U => k_updF); (case B => exact Mine.fread_none); k_whole); intro d' h' tk' F' N' l1; (try dsimp only at N'); (try k_lt l1); (try k_sweep)))
  k_dflt (first | (refine' code_defC ?k1 ?k2 ?k3 ?k4 ?k5 ?kA ?kF ?kK ?k6 ?k7 ?k8 ?k9 ?kB ?kD ?_ ?c2 ?c3 ?c4; (case kA => exact rfl); (case kF => exact rfl); (case kK => first | exact rfl | assumption); (case k1 => k_asm); (case k2 => k_asm); (case k3 => k_asm); (case k4 => k_asm); (case k5 => k_asm); (case k6 => k_is); (case k7 => k_is); (case k8 => ktr_room); (case k9 => first | exact BindsTo.of_eq rfl | exact binds_K (by k_in) rfl (by k_is) rfl rfl rfl | (refine' kp_binds ?kx ?ke; (case kx => k_in); (case ke => exact fun _ => rfl)) | fail "k9"); (case kB => exact rfl); (case kD => decide +kernel); (case c2 => exact rfl); (case c3 => exact rfl); (case c4 => exact rfl); k_whole; intro g' L' h' tk' cells' FG' F' N' Y' B' X' T' l1; (try k_lt l1); k_cells Y'; (try simp only [List.cons_append, List.nil_append] at N'); (try dsimp only); (try k_lift B'); (try k_fold)) | (refine' code_def ?k1 ?k2 ?k3 ?k4 ?k5 ?kA ?kF ?kK ?k6 ?k7 ?k8 ?k9 ?kB ?_ ?c2 ?c3 ?c4 ?c5; (case kA => exact rfl); (case kF => exact rfl); (case kK => first | exact rfl | assumption); (case k1 => k_asm); (case k2 => k_asm); (case k3 => k_asm); (case k4 => k_asm); (case k5 => k_asm); (case k6 => k_is); (case k7 => k_is); (case k8 => ktr_room); (case k9 => first | exact BindsTo.of_eq rfl | exact binds_K (by k_in) rfl (by k_is) rfl rfl rfl | (refine' kp_binds ?kx ?ke; (case kx => k_in); (case ke => exact fun _ => rfl)) | fail "k9"); (case c5 => decide); (case kB => exact locs rfl); (case c2 => exact rfl); (case c3 => exact rfl); (case c4 => exact rfl); k_whole; intro g' L' h' FG' F' N' B' X' T'; (try dsimp only); (try k_lift B'); (try k_fold)))
  refine foldE9 ?_
  intro QQ9 EE9
  k_steps
  (with_reducible rename News h₀ L _ ((_, W.listOf #[] 0) :: _ :: _ :: _ :: _ :: _ :: _ :: _ :: _ :: _) => kN9)
  refine hret _ _ _ _ _ _ _ _ _ _ _ _ [_, _, _, _, _, _, _, _] _ _ ?_ (news_mach2 kN9) ?_ ?_ ?_ ?_ ?_ (by first | exact ⟨_, .head _⟩ | exact ⟨_, .tail _ (.head _)⟩ | exact ⟨_, .tail _ (.tail _ (.head _))⟩ | exact ⟨_, .tail _ (.tail _ (.tail _ (.head _)))⟩ | exact ⟨_, .tail _ (.tail _ (.tail _ (.tail _ (.head _))))⟩ | exact ⟨_, .tail _ (.tail _ (.tail _ (.tail _ (.tail _ (.head _)))))⟩ | exact ⟨_, .tail _ (.tail _ (.tail _ (.tail _ (.tail _ (.tail _ (.head _))))))⟩ | exact ⟨_, .tail _ (.tail _ (.tail _ (.tail _ (.tail _ (.tail _ (.tail _ (.head _)))))))⟩) ?_
  · k_asm
  · k_all
  · k_all
  · k_all
  · k_all
  · intro p hp
    simp only [List.mem_cons, List.not_mem_nil, or_false] at hp
    rcases hp with rfl | rfl | rfl | rfl | rfl | rfl | rfl | rfl
    all_goals first | k_all | exact hr
  refine ⟨?_, ?_, ?_, ?_, ?_, ?_, ?_, ?_, ?_, _, _, _, _, _, _, _, _, List.Mem.tail _ (List.Mem.head _), List.Mem.tail _ (List.Mem.tail _ (List.Mem.tail _ (List.Mem.head _))), List.Mem.head _, ?_⟩
  · intro p hp
    simp only [List.mem_cons, List.not_mem_nil, or_false] at hp
    rcases hp with rfl | rfl | rfl | rfl | rfl | rfl | rfl | rfl <;> k_ne
  · intro p hp
    simp only [List.mem_cons, List.not_mem_nil, or_false] at hp
    rcases hp with rfl | rfl | rfl | rfl | rfl | rfl | rfl | rfl <;> k_ne
  · intro p hp
    simp only [List.mem_cons, List.not_mem_nil, or_false] at hp
    rcases hp with rfl | rfl | rfl | rfl | rfl | rfl | rfl | rfl <;> k_ne
  · k_ne
  · k_ne
  · k_ne
  · k_ne
  · k_ne
  · k_ne
  intro rest2 hled hla i ti t1 n hi
  clear hret kN9
  k_with_none
  w_top off
  intro dp un gd cn cs a ccd cl outer A₀ base h₀ L m s Q E B F X N T hk hdp hun codeHd hret
  have N := news_more N hled
  have hAll := all_more hla hled
  simp only [List.cons_append, List.nil_append] at N hAll
  k_dflt ((refine' code_nest ?k1 ?k2 ?k3 ?k4 ?k5 ?kA ?kF ?kK ?k6 ?k7 ?k8 ?k9 ?kB ?_ ?c2 ?c3 ?c4 ?c5; (case kA => exact rfl); (case kF => exact rfl); (case kK => assumption); (case k1 => k_asm); (case k2 => k_asm); (case k3 => k_asm); (case k4 => k_asm); (case k5 => k_asm); (case k6 => k_mem); (case k7 => exact codeRec_news (by k_asm) (by k_mem) (by assumption) (by assumption)); (case k8 => k_room); (case k9 => exact BindsTo.of_eq rfl); (case c5 => decide); (case kB => exact locs rfl); (case c2 => exact rfl); (case c3 => exact rfl); (case c4 => exact rfl); k_whole; intro g' L' h' FG' F' N' B' X' T'; (try dsimp only); (try k_lift B'); (try k_fold)))
  refine foldE9 ?_
  intro QQ9 EE9
  k_steps
  (with_reducible rename News h₀ L _ ((_, W.listOf #[Value.int (_ + _) _] _) :: _ :: _) => kN9)
  have e1 := slice_one txt i hi
  have e2 : (((Txt.slice txt (some (i : Int)) (some ((i : Int) + 1))).length : Nat) : Int) = (((sg txt).drop i).take 1).length := by rw [e1]; rfl
  have kN8 : News h₀ L _ ((_, W.listOf #[.int ((i : Int) + ((Txt.slice txt (some (i : Int)) (some ((i : Int) + 1))).length : Nat)) _] n) :: rest2) := fun p hp => kN9 p (by
    rcases List.mem_cons.mp hp with rfl | hp
    · exact .head _
    · exact .tail _ (.tail _ (.tail _ (.tail _ (.tail _ (.tail _ (.tail _ (.tail _ (.tail _ hp)))))))))
  rw [e2] at kN8
  show Q (.str (Txt.slice txt (some (i : Int)) (some ((i : Int) + 1))) _) _
  rw [e1]
  exact hret _ _ _ _ (by k_asm) kN8

theorem reader_new (w : World) (loose : List Str) (mean : ExcName → Option Value) (mg mb : Str → Option Value) (rest : List (Addr × Obj)) (txt : Str) (t : Tok) (hx : txt.length < 1000) (hr : ∀ p ∈ rest, p.1 ≠ 92) :
    Asks 20 w loose mean mg mb 97 ((92, tabObj #[]) :: rest) [.str txt t] (fun h₀ L m s Q =>
    ∀ (x d pb la st : Addr) (k1 k2 k3 k4 k5 k6 ti : Tok) (nb : List (Addr × Obj)) (h' : Heap) (tk' : Nat), Fr h₀ L h' m →
      News h₀ L h' ((pb, W.listOf #[] 0) :: (x, instObj 86 d) :: (d, mDict w 1 st pb k1 k2 k3 k4 k5 k6) :: (la, W.listOf #[.int 0 ti] 0) :: (nb ++ rest)) →
      (∀ q ∈ rest, q.1 ≠ pb) → (∀ q ∈ rest, q.1 ≠ x) → (∀ q ∈ rest, q.1 ≠ d) → (∀ q ∈ rest, q.1 ≠ la) → (∀ p ∈ nb, ∀ q ∈ rest, q.1 ≠ p.1) → (∃ ps, (92, tabObj ps) ∈ nb) →
      Mach w loose mean mg mb x d pb la st txt nb → Q (.ref x) { s with heap := h', toks := tk' }) :=
  fun dp un gd cn cs a ccd cl outer A₀ base h₀ L m s Q E => Classical.choose_spec reader_new_K.ex9 reader_new_at ((w, loose, mean, mg, mb, dp, un, gd, cn, cs, a, ccd, cl, outer, A₀, base, h₀, L, m, s, Q, E), rest, txt, t) hx hr
end

section
namespace read_char_spec_K
noncomputable def P9 (w : World) (loose : List Str) (mean : ExcName → Option Value) (mg : Str → Option Value) (mb : Str → Option Value) (dp : Nat) (un : Nat) (gd : Option (List Code)) (cn : Str) (cs : Scope) (a : Addr) (ccd : Value) (cl : List (Str × Addr)) (outer : List Env) (A₀ : Around) (base : Heap) (h₀ : Heap) (L : Addr) (m : Str → Option Value) (s : Shared) (Q : Value → Shared → Prop) (E : Value → Shared → Prop) (rest : List (Addr × Obj)) (txt : Str) (x : Addr) (d : Addr) (pb : Addr) (la : Addr) (st : Addr) (k1 : Tok) (k2 : Tok) (k3 : Tok) (k4 : Tok) (k5 : Tok) (k6 : Tok) (ti : Tok) (q : List Value) (nq : Nat) (nl : Nat) (i : Nat) (line : Int) : Prop :=
  (hi : i ≤ txt.length) → (hx : txt.length < 1000) → (hM : Mach w loose mean mg mb x d pb la st txt rest) → AskV 12 w loose mean mg mb 69 ((pb, W.listOf q.toArray nq) :: (x, instObj 86 d) :: (d, mDict w line st pb k1 k2 k3 k4 k5 k6) :: (la, W.listOf #[.int (i : Int) ti] nl) :: rest) [.ref x] (fun h₀ L m s Q => ∀ (k2' ti' t : Tok) (h' : Heap) (tk' : Nat), Fr h₀ L h' m →
      News h₀ L h' ((pb, W.listOf q.toArray nq) :: (x, instObj 86 d) :: (d, mDict w (line + nlOf (((sg txt).drop i).take 1)) st pb k1 k2' k3 k4 k5 k6) :: (la, W.listOf #[.int ((i + (((sg txt).drop i).take 1).length : Nat) : Int) ti'] nl) :: rest) →
        Q (.str ⟨(((sg txt).drop i).take 1).toArray⟩ t) { s with heap := h', toks := tk' }) dp un gd cn cs a ccd cl outer A₀ base h₀ L m s Q E
noncomputable def PV9 (v : K9 × (List (Addr × Obj)) × (Str) × (Addr) × (Addr) × (Addr) × (Addr) × (Addr) × (Tok) × (Tok) × (Tok) × (Tok) × (Tok) × (Tok) × (Tok) × (List Value) × (Nat) × (Nat) × (Nat) × (Int)) : Prop := P9 v.1.1 v.1.2.1 v.1.2.2.1 v.1.2.2.2.1 v.1.2.2.2.2.1 v.1.2.2.2.2.2.1 v.1.2.2.2.2.2.2.1 v.1.2.2.2.2.2.2.2.1 v.1.2.2.2.2.2.2.2.2.1 v.1.2.2.2.2.2.2.2.2.2.1 v.1.2.2.2.2.2.2.2.2.2.2.1 v.1.2.2.2.2.2.2.2.2.2.2.2.1 v.1.2.2.2.2.2.2.2.2.2.2.2.2.1 v.1.2.2.2.2.2.2.2.2.2.2.2.2.2.1 v.1.2.2.2.2.2.2.2.2.2.2.2.2.2.2.1 v.1.2.2.2.2.2.2.2.2.2.2.2.2.2.2.2.1 v.1.2.2.2.2.2.2.2.2.2.2.2.2.2.2.2.2.1 v.1.2.2.2.2.2.2.2.2.2.2.2.2.2.2.2.2.2.1 v.1.2.2.2.2.2.2.2.2.2.2.2.2.2.2.2.2.2.2.1 v.1.2.2.2.2.2.2.2.2.2.2.2.2.2.2.2.2.2.2.2.1 v.1.2.2.2.2.2.2.2.2.2.2.2.2.2.2.2.2.2.2.2.2.1 v.1.2.2.2.2.2.2.2.2.2.2.2.2.2.2.2.2.2.2.2.2.2 v.2.1 v.2.2.1 v.2.2.2.1 v.2.2.2.2.1 v.2.2.2.2.2.1 v.2.2.2.2.2.2.1 v.2.2.2.2.2.2.2.1 v.2.2.2.2.2.2.2.2.1 v.2.2.2.2.2.2.2.2.2.1 v.2.2.2.2.2.2.2.2.2.2.1 v.2.2.2.2.2.2.2.2.2.2.2.1 v.2.2.2.2.2.2.2.2.2.2.2.2.1 v.2.2.2.2.2.2.2.2.2.2.2.2.2.1 v.2.2.2.2.2.2.2.2.2.2.2.2.2.2.1 v.2.2.2.2.2.2.2.2.2.2.2.2.2.2.2.1 v.2.2.2.2.2.2.2.2.2.2.2.2.2.2.2.2.1 v.2.2.2.2.2.2.2.2.2.2.2.2.2.2.2.2.2.1 v.2.2.2.2.2.2.2.2.2.2.2.2.2.2.2.2.2.2.1 v.2.2.2.2.2.2.2.2.2.2.2.2.2.2.2.2.2.2.2
theorem ex9 : ∃ c, PV9 c → ∀ v, PV9 v := sk9 ⟨(Classical.choice ne9, default, default, default, default, default, default, default, default, default, default, default, default, default, default, default, default, default, default, default)⟩ PV9
noncomputable def c9 : K9 × (List (Addr × Obj)) × (Str) × (Addr) × (Addr) × (Addr) × (Addr) × (Addr) × (Tok) × (Tok) × (Tok) × (Tok) × (Tok) × (Tok) × (Tok) × (List Value) × (Nat) × (Nat) × (Nat) × (Int) := Classical.choose ex9
noncomputable def w : World := c9.1.1
noncomputable def loose : List Str := c9.1.2.1
noncomputable def mean : ExcName → Option Value := c9.1.2.2.1
noncomputable def mg : Str → Option Value := c9.1.2.2.2.1
noncomputable def mb : Str → Option Value := c9.1.2.2.2.2.1
noncomputable def dp : Nat := c9.1.2.2.2.2.2.1
noncomputable def un : Nat := c9.1.2.2.2.2.2.2.1
noncomputable def a : Addr := c9.1.2.2.2.2.2.2.2.2.2.2.1
noncomputable def h₀ : Heap := c9.1.2.2.2.2.2.2.2.2.2.2.2.2.2.2.2.2.1
noncomputable def L : Addr := c9.1.2.2.2.2.2.2.2.2.2.2.2.2.2.2.2.2.2.1
noncomputable def m : Str → Option Value := c9.1.2.2.2.2.2.2.2.2.2.2.2.2.2.2.2.2.2.2.1
noncomputable def s : Shared := c9.1.2.2.2.2.2.2.2.2.2.2.2.2.2.2.2.2.2.2.2.1
noncomputable def Q : Value → Shared → Prop := c9.1.2.2.2.2.2.2.2.2.2.2.2.2.2.2.2.2.2.2.2.2.1
noncomputable def E : Value → Shared → Prop := c9.1.2.2.2.2.2.2.2.2.2.2.2.2.2.2.2.2.2.2.2.2.2
noncomputable def rest : List (Addr × Obj) := c9.2.1
noncomputable def txt : Str := c9.2.2.1
noncomputable def x : Addr := c9.2.2.2.1
noncomputable def d : Addr := c9.2.2.2.2.1
noncomputable def pb : Addr := c9.2.2.2.2.2.1
noncomputable def la : Addr := c9.2.2.2.2.2.2.1
noncomputable def st : Addr := c9.2.2.2.2.2.2.2.1
noncomputable def k1 : Tok := c9.2.2.2.2.2.2.2.2.1
noncomputable def k2 : Tok := c9.2.2.2.2.2.2.2.2.2.1
noncomputable def k3 : Tok := c9.2.2.2.2.2.2.2.2.2.2.1
noncomputable def k4 : Tok := c9.2.2.2.2.2.2.2.2.2.2.2.1
noncomputable def k5 : Tok := c9.2.2.2.2.2.2.2.2.2.2.2.2.1
noncomputable def k6 : Tok := c9.2.2.2.2.2.2.2.2.2.2.2.2.2.1
noncomputable def ti : Tok := c9.2.2.2.2.2.2.2.2.2.2.2.2.2.2.1
noncomputable def q : List Value := c9.2.2.2.2.2.2.2.2.2.2.2.2.2.2.2.1
noncomputable def nq : Nat := c9.2.2.2.2.2.2.2.2.2.2.2.2.2.2.2.2.1
noncomputable def nl : Nat := c9.2.2.2.2.2.2.2.2.2.2.2.2.2.2.2.2.2.1
noncomputable def i : Nat := c9.2.2.2.2.2.2.2.2.2.2.2.2.2.2.2.2.2.2.1
noncomputable def line : Int := c9.2.2.2.2.2.2.2.2.2.2.2.2.2.2.2.2.2.2.2
end read_char_spec_K
open read_char_spec_K in
set_option maxHeartbeats 4000000 in
set_option maxRecDepth 100000 in
theorem read_char_spec_at : P9 w loose mean mg mb dp un (c9.1.2.2.2.2.2.2.2.1) (c9.1.2.2.2.2.2.2.2.2.1) (c9.1.2.2.2.2.2.2.2.2.2.1) a (c9.1.2.2.2.2.2.2.2.2.2.2.2.1) (c9.1.2.2.2.2.2.2.2.2.2.2.2.2.1) (c9.1.2.2.2.2.2.2.2.2.2.2.2.2.2.1) (c9.1.2.2.2.2.2.2.2.2.2.2.2.2.2.2.1) (c9.1.2.2.2.2.2.2.2.2.2.2.2.2.2.2.2.1) h₀ L m s Q E rest txt x d pb la st k1 k2 k3 k4 k5 k6 ti q nq nl i line := by
  k_with_none
  w_top off
  intro hi hx hM B F X N T hk hdp hun codeHd hret
  have fill9 : Challenge.rw_sr0027_02 = Challenge.rw_sr0027_02 ∧ hd.heap_39 = hd.heap_39 := by k_fill; exact ⟨rfl, rfl⟩
  k_dflt (first | (refine' code_defC ?k1 ?k2 ?k3 ?k4 ?k5 ?kA ?kF ?kK ?k6 ?k7 ?k8 ?k9 ?kB ?kD ?_ ?c2 ?c3 ?c4; (case kA => exact rfl); (case kF => exact rfl); (case kK => first | exact rfl | assumption); (case k1 => k_asm); (case k2 => k_asm); (case k3 => k_asm); (case k4 => k_asm); (case k5 => k_asm); (case k6 => k_is); (case k7 => k_is); (case k8 => ktr_room); (case k9 => first | exact BindsTo.of_eq rfl | exact binds_K (by k_in) rfl (by k_is) rfl rfl rfl | (refine' kp_binds ?kx ?ke; (case kx => k_in); (case ke => exact fun _ => rfl)) | fail "k9"); (case kB => exact rfl); (case kD => decide +kernel); (case c2 => exact rfl); (case c3 => exact rfl); (case c4 => exact rfl); k_whole; intro g' L' h' tk' cells' FG' F' N' Y' B' X' T' l1; (try k_lt l1); k_cells Y'; (try simp only [List.cons_append, List.nil_append] at N'); (try dsimp only); (try k_lift B'); (try k_fold)) | (refine' code_def ?k1 ?k2 ?k3 ?k4 ?k5 ?kA ?kF ?kK ?k6 ?k7 ?k8 ?k9 ?kB ?_ ?c2 ?c3 ?c4 ?c5; (case kA => exact rfl); (case kF => exact rfl); (case kK => first | exact rfl | assumption); (case k1 => k_asm); (case k2 => k_asm); (case k3 => k_asm); (case k4 => k_asm); (case k5 => k_asm); (case k6 => k_is); (case k7 => k_is); (case k8 => ktr_room); (case k9 => first | exact BindsTo.of_eq rfl | exact binds_K (by k_in) rfl (by k_is) rfl rfl rfl | (refine' kp_binds ?kx ?ke; (case kx => k_in); (case ke => exact fun _ => rfl)) | fail "k9"); (case c5 => decide); (case kB => exact locs rfl); (case c2 => exact rfl); (case c3 => exact rfl); (case c4 => exact rfl); k_whole; intro g' L' h' FG' F' N' B' X' T'; (try dsimp only); (try k_lift B'); (try k_fold)))
  have hnd := hM.nd
  have hnpb := hM.npb
  have hnla := hM.nla
  have e1 := neN hM.xd
  have e2 := neN hM.xpb
  have e3 := neN hM.xla
  have e4 := neN hM.dpb
  have e5 := neN hM.dla
  have e6 := neN hM.pbla
  obtain ⟨sd, f, fd, t, oc, od, fd2, sl, hstm, hfm, hsdm, hro⟩ := hM.str
  (k_with "getMethod ref" => (refine' Mine.meth_fn ?a ?b ?_; (case a => exact News.get (by k_asm) (by k_mem)); (case b => exact News.get (by k_asm) (by k_mem))))
  (k_with "call ref" => ((with_reducible show wpAny _ _ (call (Value.ref f) [Value.int 1 _]) _ _ _); k_dflt (refine' wpAny_call (hro _ Mine.sub3 hM.offla i ti _ nl hi _ _ _ _ _ _ _ _ _ _ _ _ _ _ _ _ _ ?B ?F ?X ?N ?T ?K ?dp ?un ?cd ?ret); (case B => k_asm); (case F => k_asm); (case X => k_asm); (case N => exact Mine.news_4 (by k_asm)); (case T => k_asm); (case K => first | exact rfl | assumption); (case dp => ktr_room); (case un => ktr_units); (case cd => assumption)); intro t2 t3 h' tk' F9 N9; replace N9 := Mine.news_4b N9; (try dsimp only); (try k_sweep); (try k_fold)))
  k_steps
  · (with_reducible rename (_ == _) = true => hb)
    have hn : nlOf (((sg txt).drop i).take 1) = 1 := nlOf_tt hb
    rw [hn] at hret
    exact hret _ _ _ _ _ (by k_asm) (by k_asm)
  · (with_reducible rename (_ == _) = false => hb)
    have hn : nlOf (((sg txt).drop i).take 1) = 0 := nlOf_ff hb
    rw [hn, Int.add_zero] at hret
    exact hret _ _ _ _ _ (by k_asm) (by k_asm)

theorem read_char_spec (w : World) (loose : List Str) (mean : ExcName → Option Value) (mg mb : Str → Option Value) (rest : List (Addr × Obj)) (txt : Str) (x d pb la st : Addr) (k1 k2 k3 k4 k5 k6 ti : Tok) (q : List Value) (nq nl i : Nat) (line : Int) (hi : i ≤ txt.length) (hx : txt.length < 1000) (hM : Mach w loose mean mg mb x d pb la st txt rest) :
    Asks 12 w loose mean mg mb 69 ((pb, W.listOf q.toArray nq) :: (x, instObj 86 d) :: (d, mDict w line st pb k1 k2 k3 k4 k5 k6) :: (la, W.listOf #[.int (i : Int) ti] nl) :: rest) [.ref x] (fun h₀ L m s Q => ∀ (k2' ti' t : Tok) (h' : Heap) (tk' : Nat), Fr h₀ L h' m →
      News h₀ L h' ((pb, W.listOf q.toArray nq) :: (x, instObj 86 d) :: (d, mDict w (line + nlOf (((sg txt).drop i).take 1)) st pb k1 k2' k3 k4 k5 k6) :: (la, W.listOf #[.int ((i + (((sg txt).drop i).take 1).length : Nat) : Int) ti'] nl) :: rest) →
        Q (.str ⟨(((sg txt).drop i).take 1).toArray⟩ t) { s with heap := h', toks := tk' }) :=
  fun dp un gd cn cs a ccd cl outer A₀ base h₀ L m s Q E => Classical.choose_spec read_char_spec_K.ex9 read_char_spec_at ((w, loose, mean, mg, mb, dp, un, gd, cn, cs, a, ccd, cl, outer, A₀, base, h₀, L, m, s, Q, E), rest, txt, x, d, pb, la, st, k1, k2, k3, k4, k5, k6, ti, q, nq, nl, i, line) hi hx hM
end

section
theorem news_rot2 {h₀ h : Heap} {L : Addr} {a b m1 m2 m3 m4 : Addr × Obj} {r : List (Addr × Obj)} (N : News h₀ L h (a :: b :: m1 :: m2 :: m3 :: m4 :: r)) : News h₀ L h (m1 :: m2 :: m3 :: m4 :: a :: b :: r) := fun p hp => N p (by
  simp only [List.mem_cons] at hp ⊢
  rcases hp with h | h | h | h | h | h | h <;> simp [h])
theorem news_rot2b {h₀ h : Heap} {L : Addr} {a b m1 m2 m3 m4 : Addr × Obj} {r : List (Addr × Obj)} (N : News h₀ L h (m1 :: m2 :: m3 :: m4 :: a :: b :: r)) : News h₀ L h (a :: b :: m1 :: m2 :: m3 :: m4 :: r) := fun p hp => N p (by
  simp only [List.mem_cons] at hp ⊢
  rcases hp with h | h | h | h | h | h | h <;> simp [h])
theorem news_drop1 {h₀ h : Heap} {L : Addr} {a : Addr × Obj} {r : List (Addr × Obj)} (N : News h₀ L h (a :: r)) : News h₀ L h r := fun p hp => N p (.tail _ hp)
theorem news_kept {h₀ h h' : Heap} {L : Addr} {l : List (Addr × Obj)} (N : News h₀ L h l) (k : ∀ p ∈ l, h.get? p.1 = some p.2 → h'.get? p.1 = some p.2) : News h₀ L h' l := fun p hp => ⟨k p hp (N p hp).1, (N p hp).2⟩
/-- what is known of two new ones: they are none of the machine's -/
noncomputable abbrev Off (a d pb la : Addr) : Prop := a ≠ d ∧ a ≠ pb ∧ a ≠ la
theorem Mach.two {w : World} {loose : List Str} {mean : ExcName → Option Value} {mg mb : Str → Option Value} {x d pb la st : Addr} {txt : Str} {rest : List (Addr × Obj)} {a b : Addr} {o1 o2 : Obj}
    (M : Mach w loose mean mg mb x d pb la st txt rest) (ha : Off a d pb la) (hb : Off b d pb la) : Mach w loose mean mg mb x d pb la st txt ((a, o1) :: (b, o2) :: rest) :=
  M.more (fun _ hp => .tail _ (.tail _ hp)) (List.forall_mem_cons.mpr ⟨ha.1, List.forall_mem_cons.mpr ⟨hb.1, M.nd⟩⟩) (List.forall_mem_cons.mpr ⟨ha.2.1, List.forall_mem_cons.mpr ⟨hb.2.1, M.npb⟩⟩) (List.forall_mem_cons.mpr ⟨ha.2.2, List.forall_mem_cons.mpr ⟨hb.2.2, M.nla⟩⟩)
set_option maxHeartbeats 4000000 in
set_option maxRecDepth 100000 in
theorem next_spec (w : World) (loose : List Str) (mean : ExcName → Option Value) (mg mb : Str → Option Value) (rest : List (Addr × Obj)) (txt : Str) (x d pb la st : Addr) (k1 k2 k3 k4 k5 k6 ti : Tok) (q : List Value) (nq nl i : Nat) (line : Int) (it q2 : Addr) (ts : Tok) (hi : i ≤ txt.length) (hx : txt.length < 1000) (hM : Mach w loose mean mg mb x d pb la st txt rest) (h1 : Off it d pb la) (h2 : Off q2 d pb la) (hne : it ≠ q2)
    (hr1 : ∀ p ∈ rest, p.1 ≠ it) (h3 : it ≠ x)
    {dp un : Nat} {gd : Option (List Code)} {cn : Str} {cs : Scope} {a : Addr} {ccd : Value} {cl : List (Str × Addr)} {outer : List Env} {A₀ : Around} {base h₀ : Heap} {L : Addr} {m : Str → Option Value} {s : Shared} {Q : Option Value → Shared → Prop} {E : Value → Shared → Prop}
    (B : Below A₀ base outer h₀) (F : Fr h₀ L s.heap m) (X : (hd.heap_39 w.params).In h₀) (N : News h₀ L s.heap ((it, citObj q2 ts) :: (q2, methodObj (.ref 69) (.ref x)) :: (pb, W.listOf q.toArray nq) :: (x, instObj 86 d) :: (d, mDict w line st pb k1 k2 k3 k4 k5 k6) :: (la, W.listOf #[.int (i : Int) ti] nl) :: rest)) (T : Top topProg loose mean mg mb h₀) (hk : cs.kind = .function)
    (hdp : dp + 13 < recursionLimit) (hun : un + 130 < cLine) (hcd : CodeHd base 96 92)
    (hsome : ∀ c tail, (sg txt).drop i = c :: tail → ∀ (k2' ti' t : Tok) (h' : Heap) (tk' : Nat), Fr h₀ L h' m →
      News h₀ L h' ((it, citObj q2 ts) :: (q2, methodObj (.ref 69) (.ref x)) :: (pb, W.listOf q.toArray nq) :: (x, instObj 86 d) :: (d, mDict w (line + nlOf [c]) st pb k1 k2' k3 k4 k5 k6) :: (la, W.listOf #[.int ((i + 1 : Nat) : Int) ti'] nl) :: rest) →
      Q (some (.str ⟨#[c]⟩ t)) { s with heap := h', toks := tk' })
    (hnone : (sg txt).drop i = [] → ∀ (k2' ti' : Tok) (h' : Heap) (tk' : Nat), Fr h₀ L h' m →
      News h₀ L h' ((q2, methodObj (.ref 69) (.ref x)) :: (pb, W.listOf q.toArray nq) :: (x, instObj 86 d) :: (d, mDict w line st pb k1 k2' k3 k4 k5 k6) :: (la, W.listOf #[.int (i : Int) ti'] nl) :: rest) →
      Q none { s with heap := h', toks := tk' }) :
    wpAny (model Challenge.rw_sr0027_02.row.prog w) (ktrTop dp un gd cn cs L a ccd cl outer) (pyNext (.ref it)) Q E s := by
  have fill9 : Challenge.rw_sr0027_02 = Challenge.rw_sr0027_02 ∧ hd.heap_39 = hd.heap_39 := by k_fill; exact ⟨rfl, rfl⟩
  obtain ⟨fd, hK⟩ : ∃ fd, (hd.heap_39 w.params).lookup 69 = some ({ cls := .type "function", data := .func fd } : Obj) := ⟨_, by k_is⟩
  have hfn := F.keep _ _ (X 69 _ hK)
  have hM2 := hM.two (o1 := citObj q2 ts) (o2 := methodObj (.ref 69) (.ref x)) h1 h2
  refine citer_next (fa := 69) (x := x) (q := q2) (N.get (.head _)) (N.get (.tail _ (.head _))) rfl hfn ?_
  refine codeAny_mono (R := fun r s' => match r with | .ok (.ret v) => (∃ c tc, v = .str c tc ∧ s'.heap.get? it = some (citObj q2 ts) ∧ (c.cps ≠ #[] → Q (some (.str c tc)) s') ∧ (c.cps = #[] → s'.heap.get? q2 = some (methodObj (.ref 69) (.ref x)) ∧ s'.heap.get? 69 = some { cls := .type "function", data := .func fd } ∧ ∀ h', Heap.ExtBut it s'.heap h' → Q none { s' with heap := h' })) | .ok _ => False | .error e => False) ?_ ?_
  · refine read_char_spec w loose mean mg mb _ txt x d pb la st k1 k2 k3 k4 k5 k6 ti q nq nl i line hi hx hM2 dp (un + 1) gd cn cs a ccd cl outer A₀ base h₀ L m s _ (fun _ _ => False) B F X (news_rot2 N) T hk (by omega) (by omega) hcd ?_
    intro k2' ti' t h' tk' F' N'
    have N9 := news_rot2b N'
    refine ⟨_, _, rfl, N9.get (.head _), fun hc => ?_, fun hc => ⟨N9.get (.tail _ (.head _)), F'.keep _ _ (X 69 _ hK), fun h'' ext => ?_⟩⟩
    · cases e : (sg txt).drop i with
      | nil => rw [e] at hc; exact absurd rfl hc
      | cons c tail =>
        rw [e] at N9
        exact hsome c tail e _ _ _ _ _ F' N9
    · cases e : (sg txt).drop i with
      | cons c tail => rw [e] at hc; exact absurd hc (by simp)
      | nil =>
        rw [e] at N9
        have N8 := news_drop1 N9
        have hnl : nlOf (List.take 1 []) = 0 := rfl
        rw [hnl, Int.add_zero] at N8
        have hLit : L ≠ it := Ne.symm (N9 _ (.head _)).2.1
        refine hnone e _ _ _ _ ⟨F'.ns.at' fun o eo => ext L o hLit eo, fun b o eo => ext b o (fun z => ?_) (F'.keep b o eo), F'.above⟩ (news_kept N8 fun p hp eo => ext _ _ ?_ eo)
        · subst z
          rw [(N9 _ (.head _)).2.2] at eo; cases eo
        · simp only [List.mem_cons] at hp
          rcases hp with rfl | rfl | rfl | rfl | rfl | hp
          · exact Ne.symm hne
          · exact Ne.symm h1.2.1
          · exact Ne.symm h3
          · exact Ne.symm h1.1
          · exact Ne.symm h1.2.2
          · exact hr1 p hp
  · intro r s' hr
    match r, hr with
    | .ok (.ret v), hr =>
      obtain ⟨c, tc, rfl, a1, a2, a3⟩ := hr
      exact ⟨c, tc, rfl, a1, a2, a3⟩
end

section
/-- the state of the scan: the frame, the ledger, the place j, the line -/
noncomputable def ScanSt (w : World) (g : Heap) (L : Addr) (m : Str → Option Value) (s0 : Shared) (x d pb la st it' q2 : Addr) (ts k1 k3 k4 k5 k6 : Tok) (nq nl : Nat) (rest : List (Addr × Obj)) (tok : List Nat) (j : Nat) (line' : Int) (s' : Shared) : Prop :=
  ∃ (h' : Heap) (tk' : Nat) (k2' ti' tt : Tok) (cv : Option Value), s' = { s0 with heap := h', toks := tk' } ∧ Fr g L h' (ovl m (some (.str ⟨tok.toArray⟩ tt)) cv) ∧
    News g L h' ((it', citObj q2 ts) :: (q2, methodObj (.ref 69) (.ref x)) :: (pb, W.listOf #[] nq) :: (x, instObj 86 d) :: (d, mDict w line' st pb k1 k2' k3 k4 k5 k6) :: (la, W.listOf #[.int (j : Int) ti'] nl) :: rest)
theorem ScanSt.start {w : World} {g h' : Heap} {L : Addr} {m : Str → Option Value} {s0 : Shared} {x d pb la st it' q2 : Addr} {ts k1 k2' k3 k4 k5 k6 ti' tt : Tok} {nq nl : Nat} {rest : List (Addr × Obj)} {j : Nat} {line' : Int} {tk' : Nat}
    (F : Fr g L h' m) (N : News g L h' ((it', citObj q2 ts) :: (q2, methodObj (.ref 69) (.ref x)) :: (pb, W.listOf #[] nq) :: (x, instObj 86 d) :: (d, mDict w line' st pb k1 k2' k3 k4 k5 k6) :: (la, W.listOf #[.int (j : Int) ti'] nl) :: rest)) (ht : m (Str.ofString "token") = some (.str (Str.ofString "") tt)) :
    ScanSt w g L m s0 x d pb la st it' q2 ts k1 k3 k4 k5 k6 nq nl rest [] j line' { s0 with heap := h', toks := tk' } :=
  ⟨h', tk', k2', ti', tt, m (Str.ofString "ch"), rfl, Fr.cast' F ((ovl_self m).trans (by rw [ht]; rfl)), N⟩
set_option maxHeartbeats 4000000 in
set_option maxRecDepth 100000 in
theorem read_char_c (w : World) (loose : List Str) (mean : ExcName → Option Value) (mg mb : Str → Option Value) (rest : List (Addr × Obj)) (txt : Str) (x d pb la st : Addr) (k1 k2 k3 k4 k5 k6 ti : Tok) (q : List Value) (nq nl i : Nat) (line : Int) (c : Nat) (tl : List Nat) (hdj : (sg txt).drop i = c :: tl) (hx : txt.length < 1000) (hM : Mach w loose mean mg mb x d pb la st txt rest) : Asks 12 w loose mean mg mb 69 ((pb, W.listOf q.toArray nq) :: (x, instObj 86 d) :: (d, mDict w line st pb k1 k2 k3 k4 k5 k6) :: (la, W.listOf #[.int (i : Int) ti] nl) :: rest) [.ref x] (fun h₀ L m s Q => ∀ (k2' ti' t : Tok) (h' : Heap) (tk' : Nat), Fr h₀ L h' m →
      News h₀ L h' ((pb, W.listOf q.toArray nq) :: (x, instObj 86 d) :: (d, mDict w (line + nlOf [c]) st pb k1 k2' k3 k4 k5 k6) :: (la, W.listOf #[.int ((i + 1 : Nat) : Int) ti'] nl) :: rest) →
        Q (.str ⟨#[c]⟩ t) { s with heap := h', toks := tk' }) := by
  have hi : i ≤ txt.length := by
    have h1 := congrArg List.length hdj
    simp only [List.length_drop, List.length_cons] at h1
    have hil : (sg txt).length = txt.length := by simp [sg, Str.length]
    omega
  have h := read_char_spec w loose mean mg mb rest txt x d pb la st k1 k2 k3 k4 k5 k6 ti q nq nl i line hi hx hM
  k_with_none
  w_top off
  intro dp un gd cn cs a ccd cl outer A₀ base h₀ L m s Q E B F X N T hk hdp hun codeHd hret
  refine h dp un gd cn cs a ccd cl outer A₀ base h₀ L m s Q E B F X N T hk hdp hun codeHd ?_
  intro k2' ti' t h' tk' F' N'
  rw [hdj] at N' ⊢
  exact hret k2' ti' t h' tk' F' N'
/-- the same in a frame of get_token's -/
theorem rc_rule (w : World) (loose : List Str) (mean : ExcName → Option Value) (mg mb : Str → Option Value) (rest : List (Addr × Obj)) (txt : Str) (x d pb la st : Addr) (k1 k2 k3 k4 k5 k6 ti : Tok) (q : List Value) (nq nl i : Nat) (line : Int) (it q2 : Addr) (ts : Tok) (hx : txt.length < 1000) (hM : Mach w loose mean mg mb x d pb la st txt ((it, citObj q2 ts) :: (q2, methodObj (.ref 69) (.ref x)) :: rest))
    {dp un : Nat} {gd : Option (List Code)} {cn : Str} {cs : Scope} {a : Addr} {ccd : Value} {cl : List (Str × Addr)} {outer : List Env} {A₀ : Around} {base h₀ : Heap} {L : Addr} {m : Str → Option Value} {s : Shared} {Q E : Value → Shared → Prop}
    (B : Below A₀ base outer h₀) (F : Fr h₀ L s.heap m) (X : (hd.heap_39 w.params).In h₀) (N : News h₀ L s.heap ((it, citObj q2 ts) :: (q2, methodObj (.ref 69) (.ref x)) :: (pb, W.listOf q.toArray nq) :: (x, instObj 86 d) :: (d, mDict w line st pb k1 k2 k3 k4 k5 k6) :: (la, W.listOf #[.int (i : Int) ti] nl) :: rest)) (T : Top topProg loose mean mg mb h₀) (hk : cs.kind = .function)
    (hdp : dp + 12 < recursionLimit) (hun : un + 120 < cLine) (hcd : CodeHd base 96 92) {c : Nat} {tl : List Nat} (hdj : (sg txt).drop i = c :: tl)
    (hret : ∀ (k2' ti' t : Tok) (h' : Heap) (tk' : Nat), Fr h₀ L h' m →
      News h₀ L h' ((it, citObj q2 ts) :: (q2, methodObj (.ref 69) (.ref x)) :: (pb, W.listOf q.toArray nq) :: (x, instObj 86 d) :: (d, mDict w (line + nlOf [c]) st pb k1 k2' k3 k4 k5 k6) :: (la, W.listOf #[.int ((i + 1 : Nat) : Int) ti'] nl) :: rest) →
        Q (.str ⟨#[c]⟩ t) { s with heap := h', toks := tk' }) :
    wpAny (model Challenge.rw_sr0027_02.row.prog w) (ktrTop dp un gd cn cs L a ccd cl outer) (call (.ref 69) [.ref x]) Q E s :=
  wpAny_call (read_char_c w loose mean mg mb _ txt x d pb la st k1 k2 k3 k4 k5 k6 ti q nq nl i line c tl hdj hx hM dp un gd cn cs a ccd cl outer A₀ base h₀ L m s Q E B F X (news_rot2 N) T hk hdp (by omega) hcd fun k2' ti' t h' tk' F' N' => hret k2' ti' t h' tk' F' (news_rot2b N'))
/-- a bare word, a backslash ahead of each letter -/
noncomputable abbrev esc (word : List Nat) : List Nat := word.flatMap fun c => [92, c]
set_option maxHeartbeats 4000000 in
set_option maxRecDepth 100000 in
theorem esc_len (a : List Nat) : (esc a).length = 2 * a.length := by
  induction a with
  | nil => rfl
  | cons c r ih =>
    have h : esc (c :: r) = [92, c] ++ esc r := rfl
    rw [h, List.length_append, ih, List.length_cons, List.length_cons, List.length_cons, List.length_nil]
    omega

namespace get_token_page_K
noncomputable def P9 (w : World) (loose : List Str) (mean : ExcName → Option Value) (mg : Str → Option Value) (mb : Str → Option Value) (dp : Nat) (un : Nat) (gd : Option (List Code)) (cn : Str) (cs : Scope) (a : Addr) (ccd : Value) (cl : List (Str × Addr)) (outer : List Env) (A₀ : Around) (base : Heap) (h₀ : Heap) (L : Addr) (m : Str → Option Value) (s : Shared) (Q : Value → Shared → Prop) (E : Value → Shared → Prop) (rest : List (Addr × Obj)) (txt : Str) (x : Addr) (d : Addr) (pb : Addr) (la : Addr) (st : Addr) (k1 : Tok) (k2 : Tok) (k3 : Tok) (k4 : Tok) (k5 : Tok) (k6 : Tok) (ti : Tok) (nq : Nat) (nl : Nat) (i : Nat) (line : Int) : Prop :=
  (ws : List Nat) → (tt0 : List Nat) → (res : List Nat) → (p0 : Nat) → (hws : ws = [] ∨ ws = [10]) → (hT : (tt0 = [] ∧ res = [] ∧ p0 = i + ws.length) ∨ (∃ word tail : List Nat, (∀ c ∈ word, 65 ≤ c ∧ c ≤ 81) ∧ tt0 = 34 :: (word ++ 34 :: tail) ∧ res = word ∧ p0 = i + ws.length + 1 + word.length + 1) ∨
      (∃ (c0 : Nat) (word tail : List Nat), (65 ≤ c0 ∧ c0 ≤ 81) ∧ (∀ c ∈ word, 65 ≤ c ∧ c ≤ 81) ∧ tt0 = 92 :: c0 :: (esc word ++ 9 :: tail) ∧ res = c0 :: word ∧ p0 = i + ws.length + 2 + (esc word).length + 1)) → (hdrop : (sg txt).drop i = ws ++ tt0) → (hi : i ≤ txt.length) → (hx : txt.length < 1000) → (hM : Mach w loose mean mg mb x d pb la st txt rest) → AskV 16 w loose mean mg mb 76 ((pb, W.listOf #[] nq) :: (x, instObj 86 d) :: (d, mDict w line st pb k1 k2 k3 k4 k5 k6) :: (la, W.listOf #[.int (i : Int) ti] nl) :: rest) [.ref x] (fun h₀ L m s Q => ∀ (k2' ti' t : Tok) (h' : Heap) (tk' : Nat), Fr h₀ L h' m →
      News h₀ L h' ((pb, W.listOf #[] nq) :: (x, instObj 86 d) :: (d, mDict w (line + nlOf ws) st pb k1 k2' k3 k4 k5 k6) :: (la, W.listOf #[.int ((p0 : Nat) : Int) ti'] nl) :: rest) →
        Q (.str ⟨res.toArray⟩ t) { s with heap := h', toks := tk' }) dp un gd cn cs a ccd cl outer A₀ base h₀ L m s Q E
noncomputable def PV9 (v : K9 × (List (Addr × Obj)) × (Str) × (Addr) × (Addr) × (Addr) × (Addr) × (Addr) × (Tok) × (Tok) × (Tok) × (Tok) × (Tok) × (Tok) × (Tok) × (Nat) × (Nat) × (Nat) × (Int)) : Prop := P9 v.1.1 v.1.2.1 v.1.2.2.1 v.1.2.2.2.1 v.1.2.2.2.2.1 v.1.2.2.2.2.2.1 v.1.2.2.2.2.2.2.1 v.1.2.2.2.2.2.2.2.1 v.1.2.2.2.2.2.2.2.2.1 v.1.2.2.2.2.2.2.2.2.2.1 v.1.2.2.2.2.2.2.2.2.2.2.1 v.1.2.2.2.2.2.2.2.2.2.2.2.1 v.1.2.2.2.2.2.2.2.2.2.2.2.2.1 v.1.2.2.2.2.2.2.2.2.2.2.2.2.2.1 v.1.2.2.2.2.2.2.2.2.2.2.2.2.2.2.1 v.1.2.2.2.2.2.2.2.2.2.2.2.2.2.2.2.1 v.1.2.2.2.2.2.2.2.2.2.2.2.2.2.2.2.2.1 v.1.2.2.2.2.2.2.2.2.2.2.2.2.2.2.2.2.2.1 v.1.2.2.2.2.2.2.2.2.2.2.2.2.2.2.2.2.2.2.1 v.1.2.2.2.2.2.2.2.2.2.2.2.2.2.2.2.2.2.2.2.1 v.1.2.2.2.2.2.2.2.2.2.2.2.2.2.2.2.2.2.2.2.2.1 v.1.2.2.2.2.2.2.2.2.2.2.2.2.2.2.2.2.2.2.2.2.2 v.2.1 v.2.2.1 v.2.2.2.1 v.2.2.2.2.1 v.2.2.2.2.2.1 v.2.2.2.2.2.2.1 v.2.2.2.2.2.2.2.1 v.2.2.2.2.2.2.2.2.1 v.2.2.2.2.2.2.2.2.2.1 v.2.2.2.2.2.2.2.2.2.2.1 v.2.2.2.2.2.2.2.2.2.2.2.1 v.2.2.2.2.2.2.2.2.2.2.2.2.1 v.2.2.2.2.2.2.2.2.2.2.2.2.2.1 v.2.2.2.2.2.2.2.2.2.2.2.2.2.2.1 v.2.2.2.2.2.2.2.2.2.2.2.2.2.2.2.1 v.2.2.2.2.2.2.2.2.2.2.2.2.2.2.2.2.1 v.2.2.2.2.2.2.2.2.2.2.2.2.2.2.2.2.2.1 v.2.2.2.2.2.2.2.2.2.2.2.2.2.2.2.2.2.2
theorem ex9 : ∃ c, PV9 c → ∀ v, PV9 v := sk9 ⟨(Classical.choice ne9, default, default, default, default, default, default, default, default, default, default, default, default, default, default, default, default, default, default)⟩ PV9
noncomputable def c9 : K9 × (List (Addr × Obj)) × (Str) × (Addr) × (Addr) × (Addr) × (Addr) × (Addr) × (Tok) × (Tok) × (Tok) × (Tok) × (Tok) × (Tok) × (Tok) × (Nat) × (Nat) × (Nat) × (Int) := Classical.choose ex9
noncomputable def w : World := c9.1.1
noncomputable def loose : List Str := c9.1.2.1
noncomputable def mean : ExcName → Option Value := c9.1.2.2.1
noncomputable def mg : Str → Option Value := c9.1.2.2.2.1
noncomputable def mb : Str → Option Value := c9.1.2.2.2.2.1
noncomputable def dp : Nat := c9.1.2.2.2.2.2.1
noncomputable def un : Nat := c9.1.2.2.2.2.2.2.1
noncomputable def a : Addr := c9.1.2.2.2.2.2.2.2.2.2.2.1
noncomputable def h₀ : Heap := c9.1.2.2.2.2.2.2.2.2.2.2.2.2.2.2.2.2.1
noncomputable def L : Addr := c9.1.2.2.2.2.2.2.2.2.2.2.2.2.2.2.2.2.2.1
noncomputable def m : Str → Option Value := c9.1.2.2.2.2.2.2.2.2.2.2.2.2.2.2.2.2.2.2.1
noncomputable def s : Shared := c9.1.2.2.2.2.2.2.2.2.2.2.2.2.2.2.2.2.2.2.2.1
noncomputable def Q : Value → Shared → Prop := c9.1.2.2.2.2.2.2.2.2.2.2.2.2.2.2.2.2.2.2.2.2.1
noncomputable def E : Value → Shared → Prop := c9.1.2.2.2.2.2.2.2.2.2.2.2.2.2.2.2.2.2.2.2.2.2
noncomputable def rest : List (Addr × Obj) := c9.2.1
noncomputable def txt : Str := c9.2.2.1
noncomputable def x : Addr := c9.2.2.2.1
noncomputable def d : Addr := c9.2.2.2.2.1
noncomputable def pb : Addr := c9.2.2.2.2.2.1
noncomputable def la : Addr := c9.2.2.2.2.2.2.1
noncomputable def st : Addr := c9.2.2.2.2.2.2.2.1
noncomputable def k1 : Tok := c9.2.2.2.2.2.2.2.2.1
noncomputable def k2 : Tok := c9.2.2.2.2.2.2.2.2.2.1
noncomputable def k3 : Tok := c9.2.2.2.2.2.2.2.2.2.2.1
noncomputable def k4 : Tok := c9.2.2.2.2.2.2.2.2.2.2.2.1
noncomputable def k5 : Tok := c9.2.2.2.2.2.2.2.2.2.2.2.2.1
noncomputable def k6 : Tok := c9.2.2.2.2.2.2.2.2.2.2.2.2.2.1
noncomputable def ti : Tok := c9.2.2.2.2.2.2.2.2.2.2.2.2.2.2.1
noncomputable def nq : Nat := c9.2.2.2.2.2.2.2.2.2.2.2.2.2.2.2.1
noncomputable def nl : Nat := c9.2.2.2.2.2.2.2.2.2.2.2.2.2.2.2.2.1
noncomputable def i : Nat := c9.2.2.2.2.2.2.2.2.2.2.2.2.2.2.2.2.2.1
noncomputable def line : Int := c9.2.2.2.2.2.2.2.2.2.2.2.2.2.2.2.2.2.2
end get_token_page_K
open get_token_page_K in
set_option maxHeartbeats 8000000 in
set_option maxRecDepth 100000 in
theorem get_token_page_at : P9 w loose mean mg mb dp un (c9.1.2.2.2.2.2.2.2.1) (c9.1.2.2.2.2.2.2.2.2.1) (c9.1.2.2.2.2.2.2.2.2.2.1) a (c9.1.2.2.2.2.2.2.2.2.2.2.2.1) (c9.1.2.2.2.2.2.2.2.2.2.2.2.2.1) (c9.1.2.2.2.2.2.2.2.2.2.2.2.2.2.1) (c9.1.2.2.2.2.2.2.2.2.2.2.2.2.2.2.1) (c9.1.2.2.2.2.2.2.2.2.2.2.2.2.2.2.2.1) h₀ L m s Q E rest txt x d pb la st k1 k2 k3 k4 k5 k6 ti nq nl i line := by
  k_with_none
  w_top off
  intro ws tt0 res p0 hws hT hdrop hi hx hM B F X N T hk hdp hun codeHd hret
  have fill9 : Challenge.rw_sr0027_02 = Challenge.rw_sr0027_02 ∧ hd.heap_39 = hd.heap_39 := by k_fill; exact ⟨rfl, rfl⟩
  k_dflt (refine' code_def ?k1 ?k2 ?k3 ?k4 ?k5 ?kA ?kF ?kK ?k6 ?k7 ?k8 ?k9 ?kB ?_ ?c2 ?c3 ?c4 ?c5; (case kA => exact rfl); (case kF => exact rfl); (case kK => first | exact rfl | assumption); (case k1 => k_asm); (case k2 => k_asm); (case k3 => k_asm); (case k4 => k_asm); (case k5 => k_asm); (case k6 => k_is); (case k7 => k_is); (case k8 => ktr_room); (case k9 => first | exact BindsTo.of_eq rfl | exact binds_K (by k_in) rfl (by k_is) rfl rfl rfl); (case c5 => decide); (case kB => exact locs rfl); (case c2 => exact rfl); (case c3 => exact rfl); (case c4 => exact rfl))
  intro g1 L1 hh1 FG1 F1 N1 B1 X1 T1
  (try dsimp only); (try k_fold)
  have hnd := hM.nd
  have hnpb := hM.npb
  have hnla := hM.nla
  have e1 := neN hM.xd
  have e2 := neN hM.xpb
  have e3 := neN hM.xla
  have e4 := neN hM.dpb
  have e5 := neN hM.dla
  have e6 := neN hM.pbla
  (k_with "call builtin:iter" => (k_dflt (refine' Mine.citer_make_K ?F ?N ?m ?_; (case F => k_asm); (case N => k_asm); (case m => k_mem); k_whole); intro it' h' F' N' l1; (try k_lt l1); (try k_sweep)))
  k_steps
  (with_reducible rename Fr g1 L1 _ _ => kF)
  (with_reducible rename News g1 L1 _ ((it', _) :: (_, _) :: _) => kN)
  obtain ⟨QQ, TT, o2, o3, kN⟩ : ∃ (QQ : Addr) (TT : Tok), Off QQ d pb la ∧ it' ≠ QQ ∧ News g1 L1 _ ((it', citObj QQ TT) :: (QQ, methodObj (.ref 69) (.ref x)) :: _) := ⟨_, _, by exact ⟨neN (by omega), neN (by omega), neN (by omega)⟩, neN (by omega), kN⟩
  obtain ⟨m9, t9, kF⟩ : ∃ (m9 : Str → Option Value) (t9 : Tok), Fr g1 L1 _ (ov1 (Str.ofString "self") (ov1 (Str.ofString "fiter") (ov1 (Str.ofString "token") m9 (some (.str (Str.ofString "") t9))) (some (.ref it'))) (some (.ref x))) := ⟨_, _, Fr.cast' kF (ov3s _ _ _ _ rfl rfl rfl)⟩
  have o1 : Off it' d pb la := ⟨neN (by omega), neN (by omega), neN (by omega)⟩
  have o4 : it' ≠ x := neN (by omega)
  have o5 : ∀ p ∈ rest, p.1 ≠ it' := by k_all
  have hil : (sg txt).length = txt.length := by simp [sg, Str.length]
  have hM2 := hM.two (o1 := citObj QQ TT) (o2 := methodObj (.ref 69) (.ref x)) o1 o2
  (k_with "call ref" => ((with_reducible show wpAny _ _ (call (Value.ref 69) _) _ _ _); k_dflt (refine' rc_rule w loose mean mg mb _ txt x d pb la st k1 _ k3 k4 k5 k6 _ [] nq nl _ _ it' _ _ hx hM2 (by k_asm) (by k_asm) (by k_asm) (by k_asm) (by k_asm) (by first | exact rfl | assumption) (by ktr_room) (by ktr_units) (by assumption) (by assumption) ?_); intro k2n tin tn h' tk' F9 N9; (try dsimp only); (try k_sweep); (try k_fold)))
  refine mfor it' (fun k s' => ∃ j line', ScanSt w g1 L1 (ov1 (Str.ofString "self") (ov1 (Str.ofString "fiter") (ov1 (Str.ofString "token") m9 (some (.str (Str.ofString "") t9))) (some (.ref it'))) (some (.ref x))) s x d pb la st it' QQ TT k1 k3 k4 k5 k6 nq nl rest [] j line' s' ∧ ((k = 2 ∧ j = i ∧ line' = line ∧ ws = [10]) ∨ (k = 1 ∧ j = i + ws.length ∧ line' = line + nlOf ws))) ?_ ?_
  · k_dflt (refine' ld ?q1 ?q2 ?_; (case q1 => exact kF); (case q2 => exact rfl))
    refine citer_iter (kN.get (.head _)) ⟨rfl, ?_⟩
    rcases hws with rfl | rfl
    · exact ⟨1, i, line, ScanSt.start kF kN rfl, .inr ⟨rfl, rfl, (Int.add_zero _).symm⟩⟩
    · exact ⟨2, i, line, ScanSt.start kF kN rfl, .inl ⟨rfl, rfl, rfl, rfl⟩⟩
  · intro k s' hJ0_2
    refine foldG9 ?_
    intro GG
    obtain ⟨j, line', ⟨h', tk', k2', ti', tt, cv, rfl, kF', kN'⟩, hc⟩ := hJ0_2
    dsimp only [GG]
    clear GG
    have hj : j ≤ txt.length := by
      have := congrArg List.length hdrop
      simp only [List.length_drop, List.length_append] at this
      rcases hc with ⟨_, rfl, _⟩ | ⟨_, rfl, _⟩ <;> omega
    k_dflt (refine' next_spec w loose mean mg mb rest txt x d pb la st k1 k2' k3 k4 k5 k6 ti' [] nq nl j line' it' _ _ hj hx hM o1 o2 o3 o5 o4 ?B ?F ?X ?N ?T ?K ?dp ?un ?cd ?some ?none; (case B => k_asm); (case F => exact kF'); (case X => k_asm); (case N => exact kN'); (case T => k_asm); (case K => exact rfl); (case dp => ktr_room); (case un => ktr_units); (case cd => assumption))
    case none =>
      intro he k2n tin h'' tk'' kFn kNn
      rcases hc with ⟨_, rfl, _, rfl⟩ | ⟨_, rfl, rfl⟩
      · rw [hdrop] at he; cases he
      · rw [← List.drop_drop, hdrop, List.drop_left] at he
        subst he
        rcases hT with ⟨_, rfl, rfl⟩ | ⟨_, _, _, hz, _⟩ | ⟨_, _, _, _, _, hz, _⟩
        · refine owitTurn_none ?_
          k_steps
          (with_reducible rename News h₀ L _ ((_, _) :: (pb, _) :: _) => kN5)
          exact hret _ _ _ _ _ (by k_asm) (news_drop1 kN5)
        · cases hz
        · cases hz
    case some =>
      intro c tl he k2'' ti'' t2 h'' tk'' kF'' kN''
      refine owitTurn_some ?_
      rcases hc with ⟨rfl, rfl, rfl, rfl⟩ | ⟨rfl, rfl, rfl⟩
      · have hc10 : c = 10 := by
          rw [hdrop] at he; injection he with e _; exact e.symm
        subst hc10
        k_steps
        (with_reducible rename Fr g1 L1 _ _ => kF3)
        exact ⟨⟨1, by decide, _, _, ⟨_, _, _, _, _, _, rfl, Fr.cast' kF3 (ovl_ch _ _ _ _), by k_asm⟩, .inr ⟨rfl, rfl, rfl⟩⟩⟩
      · rw [← List.drop_drop, hdrop, List.drop_left] at he
        rcases hT with ⟨rfl, rfl, rfl⟩ | ⟨word, tail, hw, rfl, hres, rfl⟩ | ⟨c0, word, tail, hw0, hw, rfl, rfl, rfl⟩
        · cases he
        · have hres := hres.symm
          subst hres
          obtain rfl : c = 34 := (List.cons.inj he).1.symm
          k_steps
          (with_reducible rename Fr g1 L1 _ _ => kF3)
          (with_reducible rename News g1 L1 _ ((it', _) :: (_, _) :: _) => kN3)
          refine mfor it' (fun k s' => ∃ a b, word = a ++ b ∧ k = b.length + 1 ∧ ScanSt w g1 L1 (ov1 (Str.ofString "self") (ov1 (Str.ofString "fiter") (ov1 (Str.ofString "token") m9 (some (.str (Str.ofString "") t9))) (some (.ref it'))) (some (.ref x))) s x d pb la st it' QQ TT k1 k3 k4 k5 k6 nq nl rest a (i + ws.length + 1 + a.length) (line + nlOf ws) s') ?_ ?_
          · k_dflt (refine' ld ?q1 ?q2 ?_; (case q1 => exact kF3); (case q2 => exact rfl))
            have e0 : nlOf [34] = 0 := rfl
            rw [e0, Int.add_zero] at kN3
            exact citer_iter (kN3.get (.head _)) ⟨rfl, _, [], word, rfl, rfl, _, _, _, _, _, _, rfl, Fr.cast' kF3 (ovl_ch _ _ _ _), kN3⟩
          · clear kF3 kN3
            intro k s' hJ1_2
            refine foldG9 ?_
            intro GG
            obtain ⟨a, b, hab, rfl, h', tk', k2', ti', tt, cv, rfl, kF3, kN3⟩ := hJ1_2
            dsimp only [GG]
            clear GG
            try dsimp only at kF3 kN3
            have hdj : (sg txt).drop (i + ws.length + 1 + a.length) = b ++ 34 :: tail := by
              have h1 : (sg txt).drop (i + ws.length) = 34 :: (word ++ 34 :: tail) := by rw [← List.drop_drop, hdrop, List.drop_left]
              rw [← List.drop_drop, ← List.drop_drop, h1, List.drop_one, List.tail_cons, hab, List.append_assoc, List.drop_left]
            have hj : i + ws.length + 1 + a.length ≤ txt.length := by
              have := congrArg List.length hdj
              simp only [List.length_drop, List.length_append, List.length_cons] at this
              omega
            k_dflt (refine' next_spec w loose mean mg mb rest txt x d pb la st k1 k2' k3 k4 k5 k6 ti' [] nq nl _ (line + nlOf ws) it' _ _ hj hx hM o1 o2 o3 o5 o4 ?B ?F ?X ?N ?T ?K ?dp ?un ?cd ?some ?none; (case B => k_asm); (case F => exact kF3); (case X => k_asm); (case N => exact kN3); (case T => k_asm); (case K => exact rfl); (case dp => ktr_room); (case un => ktr_units); (case cd => assumption))
            case none =>
              intro he
              exfalso
              rw [hdj] at he
              cases b <;> cases he
            case some =>
              intro c tl he k2'' ti'' t2 h'' tk'' kF4 kN4
              refine owitTurn_some ?_
              rw [hdj] at he
              cases b with
              | nil =>
                injection he with e _
                subst e
                have e0 : nlOf [34] = 0 := rfl
                rw [e0, Int.add_zero] at kN4
                rw [List.append_nil] at hab
                subst hab
                k_steps
                (with_reducible rename News h₀ L _ ((it', _) :: (_, _) :: _) => kN5)
                exact hret _ _ _ _ _ (by k_asm) (news_drop1 (news_drop1 kN5))
              | cons c' b' =>
                injection he with e _
                subst e
                have hcw := hw c' (by rw [hab]; simp)
                have hq1 := no_quote hcw
                have hq2 := no_back hcw
                have e0 : nlOf [c'] = 0 := nlOf_ne (by omega)
                rw [e0, Int.add_zero] at kN4
                k_steps
                (with_reducible rename Fr g1 L1 _ _ => kF5)
                (with_reducible rename News g1 L1 _ ((it', _) :: (_, _) :: _) => kN5)
                have e9 : i + ws.length + 1 + a.length + 1 = i + ws.length + 1 + (a ++ [c']).length := by simp only [List.length_append, List.length_cons, List.length_nil]; omega
                rw [e9] at kN5
                exact ⟨⟨_, Nat.lt_succ_self _, a ++ [c'], b', by rw [hab]; simp, rfl, _, _, _, _, _, _, rfl, Fr.cast' kF5 ((ovl_tokch _ _ _ _ _).trans (by rw [str_snoc])), kN5⟩⟩
        · obtain rfl : c = 92 := (List.cons.inj he).1.symm
          have e0 : nlOf [92] = 0 := rfl
          rw [e0, Int.add_zero] at kN''
          have h1 : (sg txt).drop (i + ws.length) = 92 :: c0 :: (esc word ++ 9 :: tail) := by rw [← List.drop_drop, hdrop, List.drop_left]
          have h2 : (sg txt).drop (i + ws.length + 1) = c0 :: (esc word ++ 9 :: tail) := by rw [← List.drop_drop, h1]; rfl
          k_steps
          (with_reducible rename Fr g1 L1 _ _ => kF3)
          (with_reducible rename News g1 L1 _ ((it', _) :: (_, _) :: _) => kN3)
          have e0 : nlOf [c0] = 0 := nlOf_ne (by omega)
          rw [e0, Int.add_zero] at kN3
          clear h1 h2
          refine mfor it' (fun k s' => ∃ a b, word = a ++ b ∧ k = b.length + 1 ∧ ScanSt w g1 L1 (ov1 (Str.ofString "self") (ov1 (Str.ofString "fiter") (ov1 (Str.ofString "token") m9 (some (.str (Str.ofString "") t9))) (some (.ref it'))) (some (.ref x))) s x d pb la st it' QQ TT k1 k3 k4 k5 k6 nq nl rest (c0 :: a) (i + ws.length + 2 + (esc a).length) (line + nlOf ws) s') ?_ ?_
          · k_dflt (refine' ld ?q1 ?q2 ?_; (case q1 => exact kF3); (case q2 => exact rfl))
            exact citer_iter (kN3.get (.head _)) ⟨rfl, _, [], word, rfl, rfl, _, _, _, _, _, _, rfl, Fr.cast' kF3 ((ovl_tokch2 _ _ _ _ _ _).trans (by rw [str_snoc]; rfl)), kN3⟩
          · clear kF3 kN3
            intro k s' hJ2_2
            refine foldG9 ?_
            intro GG
            obtain ⟨a, b, hab, rfl, h', tk', k2', ti', tt, cv, rfl, kF3, kN3⟩ := hJ2_2
            dsimp only [GG]
            clear GG
            try dsimp only at kF3 kN3
            have hdj : (sg txt).drop (i + ws.length + 2 + (esc a).length) = esc b ++ 9 :: tail := by
              have h1 : (sg txt).drop (i + ws.length) = 92 :: c0 :: (esc word ++ 9 :: tail) := by rw [← List.drop_drop, hdrop, List.drop_left]
              rw [← List.drop_drop, ← List.drop_drop, h1]
              show (esc word ++ 9 :: tail).drop _ = _
              rw [hab]
              simp only [esc, List.flatMap_append, List.append_assoc]
              rw [List.drop_left]
            have hj : i + ws.length + 2 + (esc a).length ≤ txt.length := by
              have := congrArg List.length hdj
              simp only [List.length_drop, List.length_append, List.length_cons] at this
              omega
            k_dflt (refine' next_spec w loose mean mg mb rest txt x d pb la st k1 k2' k3 k4 k5 k6 ti' [] nq nl _ (line + nlOf ws) it' _ _ hj hx hM o1 o2 o3 o5 o4 ?B ?F ?X ?N ?T ?K ?dp ?un ?cd ?some ?none; (case B => k_asm); (case F => exact kF3); (case X => k_asm); (case N => exact kN3); (case T => k_asm); (case K => exact rfl); (case dp => ktr_room); (case un => ktr_units); (case cd => assumption))
            case none =>
              intro he
              exfalso
              rw [hdj] at he
              cases b <;> cases he
            case some =>
              intro c tl he k2'' ti'' t2 h'' tk'' kF4 kN4
              refine owitTurn_some ?_
              rw [hdj] at he
              cases b with
              | nil =>
                injection he with e _
                subst e
                have e1 : nlOf [9] = 0 := rfl
                rw [e1, Int.add_zero] at kN4
                rw [List.append_nil] at hab
                subst hab
                k_steps
                (with_reducible rename News h₀ L _ ((it', _) :: (_, _) :: _) => kN5)
                exact hret _ _ _ _ _ (by k_asm) (news_drop1 (news_drop1 kN5))
              | cons c' b' =>
                injection he with e _
                subst e
                have hcw := hw c' (by rw [hab]; simp)
                have e1 : nlOf [92] = 0 := rfl
                rw [e1, Int.add_zero] at kN4
                have hal : a.length + 10 ≤ 1100 := by
                  have := esc_len a
                  omega
                have h3 : (sg txt).drop (i + ws.length + 2 + (esc a).length + 1) = c' :: (esc b' ++ 9 :: tail) := by rw [← List.drop_drop, hdj]; rfl
                k_steps
                (with_reducible rename Fr g1 L1 _ _ => kF5)
                (with_reducible rename News g1 L1 _ ((it', _) :: (_, _) :: _) => kN5)
                have e2 : nlOf [c'] = 0 := nlOf_ne (by omega)
                rw [e2, Int.add_zero] at kN5
                have e9 : i + ws.length + 2 + (esc a).length + 1 + 1 = i + ws.length + 2 + (esc (a ++ [c'])).length := by simp only [esc, List.flatMap_append, List.flatMap_cons, List.flatMap_nil, List.length_append, List.length_cons, List.length_nil]; omega
                rw [e9] at kN5
                exact ⟨⟨_, Nat.lt_succ_self _, a ++ [c'], b', by rw [hab]; simp, rfl, _, _, _, _, _, _, rfl, Fr.cast' kF5 ((ovl_tokch2 _ _ _ _ _ _).trans (by rw [str_snoc]; rfl)), kN5⟩⟩
theorem get_token_page (w : World) (loose : List Str) (mean : ExcName → Option Value) (mg mb : Str → Option Value) (rest : List (Addr × Obj)) (txt : Str) (x d pb la st : Addr) (k1 k2 k3 k4 k5 k6 ti : Tok) (nq nl i : Nat) (line : Int) (ws tt0 res : List Nat) (p0 : Nat) (hws : ws = [] ∨ ws = [10]) (hT : (tt0 = [] ∧ res = [] ∧ p0 = i + ws.length) ∨ (∃ word tail : List Nat, (∀ c ∈ word, 65 ≤ c ∧ c ≤ 81) ∧ tt0 = 34 :: (word ++ 34 :: tail) ∧ res = word ∧ p0 = i + ws.length + 1 + word.length + 1) ∨
      (∃ (c0 : Nat) (word tail : List Nat), (65 ≤ c0 ∧ c0 ≤ 81) ∧ (∀ c ∈ word, 65 ≤ c ∧ c ≤ 81) ∧ tt0 = 92 :: c0 :: (esc word ++ 9 :: tail) ∧ res = c0 :: word ∧ p0 = i + ws.length + 2 + (esc word).length + 1)) (hdrop : (sg txt).drop i = ws ++ tt0) (hi : i ≤ txt.length) (hx : txt.length < 1000) (hM : Mach w loose mean mg mb x d pb la st txt rest) :
    Asks 16 w loose mean mg mb 76 ((pb, W.listOf #[] nq) :: (x, instObj 86 d) :: (d, mDict w line st pb k1 k2 k3 k4 k5 k6) :: (la, W.listOf #[.int (i : Int) ti] nl) :: rest) [.ref x] (fun h₀ L m s Q => ∀ (k2' ti' t : Tok) (h' : Heap) (tk' : Nat), Fr h₀ L h' m →
      News h₀ L h' ((pb, W.listOf #[] nq) :: (x, instObj 86 d) :: (d, mDict w (line + nlOf ws) st pb k1 k2' k3 k4 k5 k6) :: (la, W.listOf #[.int ((p0 : Nat) : Int) ti'] nl) :: rest) →
        Q (.str ⟨res.toArray⟩ t) { s with heap := h', toks := tk' }) :=
  fun dp un gd cn cs a ccd cl outer A₀ base h₀ L m s Q E => Classical.choose_spec get_token_page_K.ex9 get_token_page_at ((w, loose, mean, mg, mb, dp, un, gd, cn, cs, a, ccd, cl, outer, A₀, base, h₀, L, m, s, Q, E), rest, txt, x, d, pb, la, st, k1, k2, k3, k4, k5, k6, ti, nq, nl, i, line) ws tt0 res p0 hws hT hdrop hi hx hM
theorem get_token_quoted (w : World) (loose : List Str) (mean : ExcName → Option Value) (mg mb : Str → Option Value) (rest : List (Addr × Obj)) (txt : Str) (x d pb la st : Addr) (k1 k2 k3 k4 k5 k6 ti : Tok) (nq nl i : Nat) (line : Int) (ws word tail : List Nat) (hws : ws = [] ∨ ws = [10]) (hw : ∀ c ∈ word, 65 ≤ c ∧ c ≤ 81) (hdrop : (sg txt).drop i = ws ++ 34 :: (word ++ 34 :: tail))
    (hi : i ≤ txt.length) (hx : txt.length < 1000) (hM : Mach w loose mean mg mb x d pb la st txt rest) : Asks 16 w loose mean mg mb 76 ((pb, W.listOf #[] nq) :: (x, instObj 86 d) :: (d, mDict w line st pb k1 k2 k3 k4 k5 k6) :: (la, W.listOf #[.int (i : Int) ti] nl) :: rest) [.ref x] (fun h₀ L m s Q => ∀ (k2' ti' t : Tok) (h' : Heap) (tk' : Nat), Fr h₀ L h' m →
      News h₀ L h' ((pb, W.listOf #[] nq) :: (x, instObj 86 d) :: (d, mDict w (line + nlOf ws) st pb k1 k2' k3 k4 k5 k6) :: (la, W.listOf #[.int ((i + ws.length + 1 + word.length + 1 : Nat) : Int) ti'] nl) :: rest) →
        Q (.str ⟨word.toArray⟩ t) { s with heap := h', toks := tk' }) :=
  get_token_page w loose mean mg mb rest txt x d pb la st k1 k2 k3 k4 k5 k6 ti nq nl i line ws _ word _ hws (.inr (.inl ⟨word, tail, hw, rfl, rfl, rfl⟩)) hdrop hi hx hM
theorem get_token_bare (w : World) (loose : List Str) (mean : ExcName → Option Value) (mg mb : Str → Option Value) (rest : List (Addr × Obj)) (txt : Str) (x d pb la st : Addr) (k1 k2 k3 k4 k5 k6 ti : Tok) (nq nl i : Nat) (line : Int) (ws word tail : List Nat) (c0 : Nat) (hws : ws = [] ∨ ws = [10]) (hw0 : 65 ≤ c0 ∧ c0 ≤ 81) (hw : ∀ c ∈ word, 65 ≤ c ∧ c ≤ 81) (hdrop : (sg txt).drop i = ws ++ 92 :: c0 :: (esc word ++ 9 :: tail))
    (hi : i ≤ txt.length) (hx : txt.length < 1000) (hM : Mach w loose mean mg mb x d pb la st txt rest) : Asks 16 w loose mean mg mb 76 ((pb, W.listOf #[] nq) :: (x, instObj 86 d) :: (d, mDict w line st pb k1 k2 k3 k4 k5 k6) :: (la, W.listOf #[.int (i : Int) ti] nl) :: rest) [.ref x] (fun h₀ L m s Q => ∀ (k2' ti' t : Tok) (h' : Heap) (tk' : Nat), Fr h₀ L h' m →
      News h₀ L h' ((pb, W.listOf #[] nq) :: (x, instObj 86 d) :: (d, mDict w (line + nlOf ws) st pb k1 k2' k3 k4 k5 k6) :: (la, W.listOf #[.int ((i + ws.length + 2 + (esc word).length + 1 : Nat) : Int) ti'] nl) :: rest) →
        Q (.str ⟨(c0 :: word).toArray⟩ t) { s with heap := h', toks := tk' }) :=
  get_token_page w loose mean mg mb rest txt x d pb la st k1 k2 k3 k4 k5 k6 ti nq nl i line ws _ (c0 :: word) _ hws (.inr (.inr ⟨c0, word, tail, hw0, hw, rfl, rfl, rfl⟩)) hdrop hi hx hM
theorem get_token_end (w : World) (loose : List Str) (mean : ExcName → Option Value) (mg mb : Str → Option Value) (rest : List (Addr × Obj)) (txt : Str) (x d pb la st : Addr) (k1 k2 k3 k4 k5 k6 ti : Tok) (nq nl i : Nat) (line : Int) (ws : List Nat) (hws : ws = [] ∨ ws = [10]) (hdrop : (sg txt).drop i = ws)
    (hi : i ≤ txt.length) (hx : txt.length < 1000) (hM : Mach w loose mean mg mb x d pb la st txt rest) : Asks 16 w loose mean mg mb 76 ((pb, W.listOf #[] nq) :: (x, instObj 86 d) :: (d, mDict w line st pb k1 k2 k3 k4 k5 k6) :: (la, W.listOf #[.int (i : Int) ti] nl) :: rest) [.ref x] (fun h₀ L m s Q => ∀ (k2' ti' t : Tok) (h' : Heap) (tk' : Nat), Fr h₀ L h' m →
      News h₀ L h' ((pb, W.listOf #[] nq) :: (x, instObj 86 d) :: (d, mDict w (line + nlOf ws) st pb k1 k2' k3 k4 k5 k6) :: (la, W.listOf #[.int ((i + ws.length : Nat) : Int) ti'] nl) :: rest) →
        Q (.str ⟨([] : List Nat).toArray⟩ t) { s with heap := h', toks := tk' }) :=
  get_token_page w loose mean mg mb rest txt x d pb la st k1 k2 k3 k4 k5 k6 ti nq nl i line ws [] [] _ hws (.inl ⟨rfl, rfl, rfl⟩) (by rw [List.append_nil]; exact hdrop) hi hx hM
end

section
set_option maxHeartbeats 4000000 in
set_option maxRecDepth 100000 in
theorem seq0 (v : Value) (q : List Value) : seqIndex? 0 (v :: q).toArray.size = some 0 := by simp [seqIndex?]
set_option maxHeartbeats 4000000 in
set_option maxRecDepth 100000 in
theorem get_token_pop (w : World) (loose : List Str) (mean : ExcName → Option Value) (mg mb : Str → Option Value) (rest : List (Addr × Obj)) (txt : Str) (x d pb la st : Addr) (k1 k2 k3 k4 k5 k6 ti : Tok) (q : List Value) (nq nl i : Nat) (line : Int) (v : Value) (hq : q.length < 1000) (hM : Mach w loose mean mg mb x d pb la st txt rest) : Asks 16 w loose mean mg mb 76 ((pb, W.listOf (v :: q).toArray nq) :: (x, instObj 86 d) :: (d, mDict w line st pb k1 k2 k3 k4 k5 k6) :: (la, W.listOf #[.int (i : Int) ti] nl) :: rest) [.ref x] (fun h₀ L m s Q => ∀ (h' : Heap) (tk' : Nat), Fr h₀ L h' m → News h₀ L h' ((pb, W.listOf q.toArray (nq + 1)) :: (x, instObj 86 d) :: (d, mDict w line st pb k1 k2 k3 k4 k5 k6) :: (la, W.listOf #[.int (i : Int) ti] nl) :: rest) → Q v { s with heap := h', toks := tk' }) := by
  k_with_none
  w_top off
  intro dp un gd cn cs a ccd cl outer A₀ base h₀ L m s Q E B F X N T hk hdp hun codeHd hret
  have fill9 : Challenge.rw_sr0027_02 = Challenge.rw_sr0027_02 ∧ hd.heap_39 = hd.heap_39 := by k_fill; exact ⟨rfl, rfl⟩
  k_dflt (first | (refine' code_defC ?k1 ?k2 ?k3 ?k4 ?k5 ?kA ?kF ?kK ?k6 ?k7 ?k8 ?k9 ?kB ?kD ?_ ?c2 ?c3 ?c4; (case kA => exact rfl); (case kF => exact rfl); (case kK => first | exact rfl | assumption); (case k1 => k_asm); (case k2 => k_asm); (case k3 => k_asm); (case k4 => k_asm); (case k5 => k_asm); (case k6 => k_is); (case k7 => k_is); (case k8 => ktr_room); (case k9 => first | exact BindsTo.of_eq rfl | exact binds_K (by k_in) rfl (by k_is) rfl rfl rfl | (refine' kp_binds ?kx ?ke; (case kx => k_in); (case ke => exact fun _ => rfl)) | fail "k9"); (case kB => exact rfl); (case kD => decide +kernel); (case c2 => exact rfl); (case c3 => exact rfl); (case c4 => exact rfl); k_whole; intro g' L' h' tk' cells' FG' F' N' Y' B' X' T' l1; (try k_lt l1); k_cells Y'; (try simp only [List.cons_append, List.nil_append] at N'); (try dsimp only); (try k_lift B'); (try k_fold)) | (refine' code_def ?k1 ?k2 ?k3 ?k4 ?k5 ?kA ?kF ?kK ?k6 ?k7 ?k8 ?k9 ?kB ?_ ?c2 ?c3 ?c4 ?c5; (case kA => exact rfl); (case kF => exact rfl); (case kK => first | exact rfl | assumption); (case k1 => k_asm); (case k2 => k_asm); (case k3 => k_asm); (case k4 => k_asm); (case k5 => k_asm); (case k6 => k_is); (case k7 => k_is); (case k8 => ktr_room); (case k9 => first | exact BindsTo.of_eq rfl | exact binds_K (by k_in) rfl (by k_is) rfl rfl rfl | (refine' kp_binds ?kx ?ke; (case kx => k_in); (case ke => exact fun _ => rfl)) | fail "k9"); (case c5 => decide); (case kB => exact locs rfl); (case c2 => exact rfl); (case c3 => exact rfl); (case c4 => exact rfl); k_whole; intro g' L' h' FG' F' N' B' X' T'; (try dsimp only); (try k_lift B'); (try k_fold)))
  have hnd := hM.nd
  have hnpb := hM.npb
  have hnla := hM.nla
  have e1 := neN hM.xd
  have e2 := neN hM.xpb
  have e3 := neN hM.xla
  have e4 := neN hM.dpb
  have e5 := neN hM.dla
  have e6 := neN hM.pbla
  (k_with "call builtin:list.pop" => (k_dflt (refine' kl_popAt (by k_asm) (by k_asm) (by decide) (Mine.seq0 v q) rfl ?U ?z ?_; (case U => k_upd); (case z => (simp only [List.length_cons]; rw [sizeLine_eq]; omega)); k_whole); intro h' F' N'; (try k_sweep)))
  k_steps
  exact hret _ _ (by k_asm) (by k_asm)
set_option maxHeartbeats 4000000 in
set_option maxRecDepth 100000 in
theorem push_token_spec (w : World) (loose : List Str) (mean : ExcName → Option Value) (mg mb : Str → Option Value) (rest : List (Addr × Obj)) (txt : Str) (x d pb la st : Addr) (k1 k2 k3 k4 k5 k6 ti : Tok) (q : List Value) (nq nl i : Nat) (line : Int) (v : Str) (tv : Tok) (hq : q.length < 1000) (hM : Mach w loose mean mg mb x d pb la st txt rest) : Asks 16 w loose mean mg mb 83 ((pb, W.listOf q.toArray nq) :: (x, instObj 86 d) :: (d, mDict w line st pb k1 k2 k3 k4 k5 k6) :: (la, W.listOf #[.int (i : Int) ti] nl) :: rest) [.ref x, .str v tv] (fun h₀ L m s Q => ∀ (h' : Heap) (tk' : Nat), Fr h₀ L h' m → News h₀ L h' ((pb, W.listOf (q ++ [Value.str v tv]).toArray (nq + 1)) :: (x, instObj 86 d) :: (d, mDict w line st pb k1 k2 k3 k4 k5 k6) :: (la, W.listOf #[.int (i : Int) ti] nl) :: rest) → Q .none { s with heap := h', toks := tk' }) := by
  k_with_none
  w_top off
  intro dp un gd cn cs a ccd cl outer A₀ base h₀ L m s Q E B F X N T hk hdp hun codeHd hret
  have fill9 : Challenge.rw_sr0027_02 = Challenge.rw_sr0027_02 ∧ hd.heap_39 = hd.heap_39 := by k_fill; exact ⟨rfl, rfl⟩
  k_dflt (first | (refine' code_defC ?k1 ?k2 ?k3 ?k4 ?k5 ?kA ?kF ?kK ?k6 ?k7 ?k8 ?k9 ?kB ?kD ?_ ?c2 ?c3 ?c4; (case kA => exact rfl); (case kF => exact rfl); (case kK => first | exact rfl | assumption); (case k1 => k_asm); (case k2 => k_asm); (case k3 => k_asm); (case k4 => k_asm); (case k5 => k_asm); (case k6 => k_is); (case k7 => k_is); (case k8 => ktr_room); (case k9 => first | exact BindsTo.of_eq rfl | exact binds_K (by k_in) rfl (by k_is) rfl rfl rfl | (refine' kp_binds ?kx ?ke; (case kx => k_in); (case ke => exact fun _ => rfl)) | fail "k9"); (case kB => exact rfl); (case kD => decide +kernel); (case c2 => exact rfl); (case c3 => exact rfl); (case c4 => exact rfl); k_whole; intro g' L' h' tk' cells' FG' F' N' Y' B' X' T' l1; (try k_lt l1); k_cells Y'; (try simp only [List.cons_append, List.nil_append] at N'); (try dsimp only); (try k_lift B'); (try k_fold)) | (refine' code_def ?k1 ?k2 ?k3 ?k4 ?k5 ?kA ?kF ?kK ?k6 ?k7 ?k8 ?k9 ?kB ?_ ?c2 ?c3 ?c4 ?c5; (case kA => exact rfl); (case kF => exact rfl); (case kK => first | exact rfl | assumption); (case k1 => k_asm); (case k2 => k_asm); (case k3 => k_asm); (case k4 => k_asm); (case k5 => k_asm); (case k6 => k_is); (case k7 => k_is); (case k8 => ktr_room); (case k9 => first | exact BindsTo.of_eq rfl | exact binds_K (by k_in) rfl (by k_is) rfl rfl rfl | (refine' kp_binds ?kx ?ke; (case kx => k_in); (case ke => exact fun _ => rfl)) | fail "k9"); (case c5 => decide); (case kB => exact locs rfl); (case c2 => exact rfl); (case c3 => exact rfl); (case c4 => exact rfl); k_whole; intro g' L' h' FG' F' N' B' X' T'; (try dsimp only); (try k_lift B'); (try k_fold)))
  have hnd := hM.nd
  have hnpb := hM.npb
  have hnla := hM.nla
  have e1 := neN hM.xd
  have e2 := neN hM.xpb
  have e3 := neN hM.xla
  have e4 := neN hM.dpb
  have e5 := neN hM.dla
  have e6 := neN hM.pbla
  k_steps
  (with_reducible rename News h₀ L _ ((pb, _) :: _) => kN5)
  rw [List.push_toArray] at kN5
  exact hret _ _ (by k_asm) kN5
end

section
namespace int2ap_spec_K
noncomputable def P9 (w : World) (loose : List Str) (mean : ExcName → Option Value) (mg : Str → Option Value) (mb : Str → Option Value) (dp : Nat) (un : Nat) (gd : Option (List Code)) (cn : Str) (cs : Scope) (a : Addr) (ccd : Value) (cl : List (Str × Addr)) (outer : List Env) (A₀ : Around) (base : Heap) (h₀ : Heap) (L : Addr) (m : Str → Option Value) (s : Shared) (Q : Value → Shared → Prop) (E : Value → Shared → Prop) (rest : List (Addr × Obj)) (v : Int) (tv : Tok) : Prop :=
  (hv : v.natAbs < 16 ^ 6) → AskV 10 w loose mean mg mb 48 rest [.int v tv] (fun h₀ L m s Q => ∀ (h' : Heap) (tk' : Nat) (t : Tok), Fr h₀ L h' m → News h₀ L h' rest → Q (.bytes ((hx v.natAbs).map UInt8.ofNat).toArray t) { s with heap := h', toks := tk' }) dp un gd cn cs a ccd cl outer A₀ base h₀ L m s Q E
noncomputable def PV9 (v : K9 × (List (Addr × Obj)) × (Int) × (Tok)) : Prop := P9 v.1.1 v.1.2.1 v.1.2.2.1 v.1.2.2.2.1 v.1.2.2.2.2.1 v.1.2.2.2.2.2.1 v.1.2.2.2.2.2.2.1 v.1.2.2.2.2.2.2.2.1 v.1.2.2.2.2.2.2.2.2.1 v.1.2.2.2.2.2.2.2.2.2.1 v.1.2.2.2.2.2.2.2.2.2.2.1 v.1.2.2.2.2.2.2.2.2.2.2.2.1 v.1.2.2.2.2.2.2.2.2.2.2.2.2.1 v.1.2.2.2.2.2.2.2.2.2.2.2.2.2.1 v.1.2.2.2.2.2.2.2.2.2.2.2.2.2.2.1 v.1.2.2.2.2.2.2.2.2.2.2.2.2.2.2.2.1 v.1.2.2.2.2.2.2.2.2.2.2.2.2.2.2.2.2.1 v.1.2.2.2.2.2.2.2.2.2.2.2.2.2.2.2.2.2.1 v.1.2.2.2.2.2.2.2.2.2.2.2.2.2.2.2.2.2.2.1 v.1.2.2.2.2.2.2.2.2.2.2.2.2.2.2.2.2.2.2.2.1 v.1.2.2.2.2.2.2.2.2.2.2.2.2.2.2.2.2.2.2.2.2.1 v.1.2.2.2.2.2.2.2.2.2.2.2.2.2.2.2.2.2.2.2.2.2 v.2.1 v.2.2.1 v.2.2.2
theorem ex9 : ∃ c, PV9 c → ∀ v, PV9 v := sk9 ⟨(Classical.choice ne9, default, default, default)⟩ PV9
noncomputable def c9 : K9 × (List (Addr × Obj)) × (Int) × (Tok) := Classical.choose ex9
noncomputable def w : World := c9.1.1
noncomputable def loose : List Str := c9.1.2.1
noncomputable def mean : ExcName → Option Value := c9.1.2.2.1
noncomputable def mg : Str → Option Value := c9.1.2.2.2.1
noncomputable def mb : Str → Option Value := c9.1.2.2.2.2.1
noncomputable def h₀ : Heap := c9.1.2.2.2.2.2.2.2.2.2.2.2.2.2.2.2.2.1
noncomputable def L : Addr := c9.1.2.2.2.2.2.2.2.2.2.2.2.2.2.2.2.2.2.1
noncomputable def m : Str → Option Value := c9.1.2.2.2.2.2.2.2.2.2.2.2.2.2.2.2.2.2.2.1
noncomputable def s : Shared := c9.1.2.2.2.2.2.2.2.2.2.2.2.2.2.2.2.2.2.2.2.1
noncomputable def Q : Value → Shared → Prop := c9.1.2.2.2.2.2.2.2.2.2.2.2.2.2.2.2.2.2.2.2.2.1
noncomputable def E : Value → Shared → Prop := c9.1.2.2.2.2.2.2.2.2.2.2.2.2.2.2.2.2.2.2.2.2.2
noncomputable def rest : List (Addr × Obj) := c9.2.1
noncomputable def v : Int := c9.2.2.1
noncomputable def tv : Tok := c9.2.2.2
end int2ap_spec_K
open int2ap_spec_K in
set_option maxHeartbeats 4000000 in
set_option maxRecDepth 100000 in
theorem int2ap_spec_at : P9 w loose mean mg mb (c9.1.2.2.2.2.2.1) (c9.1.2.2.2.2.2.2.1) (c9.1.2.2.2.2.2.2.2.1) (c9.1.2.2.2.2.2.2.2.2.1) (c9.1.2.2.2.2.2.2.2.2.2.1) (c9.1.2.2.2.2.2.2.2.2.2.2.1) (c9.1.2.2.2.2.2.2.2.2.2.2.2.1) (c9.1.2.2.2.2.2.2.2.2.2.2.2.2.1) (c9.1.2.2.2.2.2.2.2.2.2.2.2.2.2.1) (c9.1.2.2.2.2.2.2.2.2.2.2.2.2.2.2.1) (c9.1.2.2.2.2.2.2.2.2.2.2.2.2.2.2.2.1) h₀ L m s Q E rest v tv := by
  k_with_none
  w_top off
  intro hv B F X N T hk hdp hun codeHd hret
  have fill9 : Challenge.rw_sr0027_02 = Challenge.rw_sr0027_02 ∧ hd.heap_39 = hd.heap_39 := by k_fill; exact ⟨rfl, rfl⟩
  k_dflt (first | (refine' code_defC ?k1 ?k2 ?k3 ?k4 ?k5 ?kA ?kF ?kK ?k6 ?k7 ?k8 ?k9 ?kB ?kD ?_ ?c2 ?c3 ?c4; (case kA => exact rfl); (case kF => exact rfl); (case kK => first | exact rfl | assumption); (case k1 => k_asm); (case k2 => k_asm); (case k3 => k_asm); (case k4 => k_asm); (case k5 => k_asm); (case k6 => k_is); (case k7 => k_is); (case k8 => ktr_room); (case k9 => first | exact BindsTo.of_eq rfl | exact binds_K (by k_in) rfl (by k_is) rfl rfl rfl | (refine' kp_binds ?kx ?ke; (case kx => k_in); (case ke => exact fun _ => rfl)) | fail "k9"); (case kB => exact rfl); (case kD => decide +kernel); (case c2 => exact rfl); (case c3 => exact rfl); (case c4 => exact rfl); k_whole; intro g' L' h' tk' cells' FG' F' N' Y' B' X' T' l1; (try k_lt l1); k_cells Y'; (try simp only [List.cons_append, List.nil_append] at N'); (try dsimp only); (try k_lift B'); (try k_fold)) | (refine' code_def ?k1 ?k2 ?k3 ?k4 ?k5 ?kA ?kF ?kK ?k6 ?k7 ?k8 ?k9 ?kB ?_ ?c2 ?c3 ?c4 ?c5; (case kA => exact rfl); (case kF => exact rfl); (case kK => first | exact rfl | assumption); (case k1 => k_asm); (case k2 => k_asm); (case k3 => k_asm); (case k4 => k_asm); (case k5 => k_asm); (case k6 => k_is); (case k7 => k_is); (case k8 => ktr_room); (case k9 => first | exact BindsTo.of_eq rfl | exact binds_K (by k_in) rfl (by k_is) rfl rfl rfl | (refine' kp_binds ?kx ?ke; (case kx => k_in); (case ke => exact fun _ => rfl)) | fail "k9"); (case c5 => decide); (case kB => exact locs rfl); (case c2 => exact rfl); (case c3 => exact rfl); (case c4 => exact rfl); k_whole; intro g' L' h' FG' F' N' B' X' T'; (try dsimp only); (try k_lift B'); (try k_fold)))
  (k_with "exec While Name cons nil" => k_while (fun (_ : List Int) num val => 0 ≤ num ∧ num.natAbs < 16 ^ 6 ∧ val.size ≤ 6 ∧ hx v.natAbs = hx num.natAbs ++ val.toList.map (fun x => UInt8.toNat x)) (fun (_ : List Int) num _ => num.natAbs) "num" "val")
  (k_with "state" => first | exact ap_start v hv | exact ap_turn hv ⟨by assumption, by assumption, by assumption, by assumption⟩ (by assumption))
  (k_with "subscriptTail" => ((with_reducible show wpAny _ _ (subscriptTail _ (Expr.Slice _ _ none _) (Value.bytes _ _) (Value.ref _)) _ _ _); (with_reducible rename Fr _ _ _ _ => sF); (with_reducible rename News _ _ _ _ => sN); (refine KBc.slice_K (s := ⟨_, _, _, _, _⟩) sF sN rfl (by constructor) (by constructor) (by decide) ?_); intro _ _ _ _ _ _))
  (k_with "binaryOp Add bytes bytes" => (refine KBy.add_bytes (Nat.le_trans (Nat.add_le_add (KBc.size_picked_le _ _ _) (by assumption)) (by decide)) ?_; intro _ _))
  (k_with "measure" => exact fd_less (by assumption) (by omega))
  k_steps
  rw [ap_end2 (by assumption) (by assumption)] at hret
  exact hret _ _ _ (by k_asm) (by k_asm)

theorem int2ap_spec (w : World) (loose : List Str) (mean : ExcName → Option Value) (mg mb : Str → Option Value) (rest : List (Addr × Obj)) (v : Int) (tv : Tok) (hv : v.natAbs < 16 ^ 6) :
    Asks 10 w loose mean mg mb 48 rest [.int v tv] (fun h₀ L m s Q => ∀ (h' : Heap) (tk' : Nat) (t : Tok), Fr h₀ L h' m → News h₀ L h' rest → Q (.bytes ((hx v.natAbs).map UInt8.ofNat).toArray t) { s with heap := h', toks := tk' }) :=
  fun dp un gd cn cs a ccd cl outer A₀ base h₀ L m s Q E => Classical.choose_spec int2ap_spec_K.ex9 int2ap_spec_at ((w, loose, mean, mg, mb, dp, un, gd, cn, cs, a, ccd, cl, outer, A₀, base, h₀, L, m, s, Q, E), rest, v, tv) hv
end

section
namespace bisect_left_spec_K
noncomputable def P9 (w : World) (loose : List Str) (mean : ExcName → Option Value) (mg : Str → Option Value) (mb : Str → Option Value) (dp : Nat) (un : Nat) (gd : Option (List Code)) (cn : Str) (cs : Scope) (a : Addr) (ccd : Value) (cl : List (Str × Addr)) (outer : List Env) (A₀ : Around) (base : Heap) (h₀ : Heap) (L : Addr) (m : Str → Option Value) (s : Shared) (Q : Value → Shared → Prop) (E : Value → Shared → Prop) (rest : List (Addr × Obj)) (l : Addr) (ns : List Int) (its : List Value) (n : Nat) (x : Int) (tx : Tok) (t0 : Tok) : Prop :=
  (hi : IntsAre its ns) → (hl : ns.length < 64) → (hs : ns.Pairwise (· ≤ ·)) → AskV 10 w loose mean mg mb 41 ((l, W.listOf its.toArray n) :: rest) [.ref l, .int x tx] (fun h₀ L m s Q => ∀ (h' : Heap) (tk' : Nat) (t : Tok), Fr h₀ L h' m → News h₀ L h' ((l, W.listOf its.toArray n) :: rest) → Q (.int (cntLt x ns : Nat) t) { s with heap := h', toks := tk' }) dp un gd cn cs a ccd cl outer A₀ base h₀ L m s Q E
noncomputable def PV9 (v : K9 × (List (Addr × Obj)) × (Addr) × (List Int) × (List Value) × (Nat) × (Int) × (Tok) × (Tok)) : Prop := P9 v.1.1 v.1.2.1 v.1.2.2.1 v.1.2.2.2.1 v.1.2.2.2.2.1 v.1.2.2.2.2.2.1 v.1.2.2.2.2.2.2.1 v.1.2.2.2.2.2.2.2.1 v.1.2.2.2.2.2.2.2.2.1 v.1.2.2.2.2.2.2.2.2.2.1 v.1.2.2.2.2.2.2.2.2.2.2.1 v.1.2.2.2.2.2.2.2.2.2.2.2.1 v.1.2.2.2.2.2.2.2.2.2.2.2.2.1 v.1.2.2.2.2.2.2.2.2.2.2.2.2.2.1 v.1.2.2.2.2.2.2.2.2.2.2.2.2.2.2.1 v.1.2.2.2.2.2.2.2.2.2.2.2.2.2.2.2.1 v.1.2.2.2.2.2.2.2.2.2.2.2.2.2.2.2.2.1 v.1.2.2.2.2.2.2.2.2.2.2.2.2.2.2.2.2.2.1 v.1.2.2.2.2.2.2.2.2.2.2.2.2.2.2.2.2.2.2.1 v.1.2.2.2.2.2.2.2.2.2.2.2.2.2.2.2.2.2.2.2.1 v.1.2.2.2.2.2.2.2.2.2.2.2.2.2.2.2.2.2.2.2.2.1 v.1.2.2.2.2.2.2.2.2.2.2.2.2.2.2.2.2.2.2.2.2.2 v.2.1 v.2.2.1 v.2.2.2.1 v.2.2.2.2.1 v.2.2.2.2.2.1 v.2.2.2.2.2.2.1 v.2.2.2.2.2.2.2.1 v.2.2.2.2.2.2.2.2
theorem ex9 : ∃ c, PV9 c → ∀ v, PV9 v := sk9 ⟨(Classical.choice ne9, default, default, default, default, default, default, default, default)⟩ PV9
noncomputable def c9 : K9 × (List (Addr × Obj)) × (Addr) × (List Int) × (List Value) × (Nat) × (Int) × (Tok) × (Tok) := Classical.choose ex9
noncomputable def w : World := c9.1.1
noncomputable def loose : List Str := c9.1.2.1
noncomputable def mean : ExcName → Option Value := c9.1.2.2.1
noncomputable def mg : Str → Option Value := c9.1.2.2.2.1
noncomputable def mb : Str → Option Value := c9.1.2.2.2.2.1
noncomputable def h₀ : Heap := c9.1.2.2.2.2.2.2.2.2.2.2.2.2.2.2.2.2.1
noncomputable def L : Addr := c9.1.2.2.2.2.2.2.2.2.2.2.2.2.2.2.2.2.2.1
noncomputable def m : Str → Option Value := c9.1.2.2.2.2.2.2.2.2.2.2.2.2.2.2.2.2.2.2.1
noncomputable def s : Shared := c9.1.2.2.2.2.2.2.2.2.2.2.2.2.2.2.2.2.2.2.2.1
noncomputable def Q : Value → Shared → Prop := c9.1.2.2.2.2.2.2.2.2.2.2.2.2.2.2.2.2.2.2.2.2.1
noncomputable def E : Value → Shared → Prop := c9.1.2.2.2.2.2.2.2.2.2.2.2.2.2.2.2.2.2.2.2.2.2
noncomputable def rest : List (Addr × Obj) := c9.2.1
noncomputable def l : Addr := c9.2.2.1
noncomputable def ns : List Int := c9.2.2.2.1
noncomputable def its : List Value := c9.2.2.2.2.1
noncomputable def n : Nat := c9.2.2.2.2.2.1
noncomputable def x : Int := c9.2.2.2.2.2.2.1
noncomputable def tx : Tok := c9.2.2.2.2.2.2.2.1
noncomputable def t0 : Tok := c9.2.2.2.2.2.2.2.2
end bisect_left_spec_K
open bisect_left_spec_K in
set_option maxHeartbeats 4000000 in
set_option maxRecDepth 100000 in
theorem bisect_left_spec_at : P9 w loose mean mg mb (c9.1.2.2.2.2.2.1) (c9.1.2.2.2.2.2.2.1) (c9.1.2.2.2.2.2.2.2.1) (c9.1.2.2.2.2.2.2.2.2.1) (c9.1.2.2.2.2.2.2.2.2.2.1) (c9.1.2.2.2.2.2.2.2.2.2.2.1) (c9.1.2.2.2.2.2.2.2.2.2.2.2.1) (c9.1.2.2.2.2.2.2.2.2.2.2.2.2.1) (c9.1.2.2.2.2.2.2.2.2.2.2.2.2.2.1) (c9.1.2.2.2.2.2.2.2.2.2.2.2.2.2.2.1) (c9.1.2.2.2.2.2.2.2.2.2.2.2.2.2.2.2.1) h₀ L m s Q E rest l ns its n x tx t0 := by
  k_with_none
  w_top off
  intro hi hl hs B F X N T hk hdp hun codeHd hret
  have fill9 : Challenge.rw_sr0027_02 = Challenge.rw_sr0027_02 ∧ hd.heap_39 = hd.heap_39 := by k_fill; exact ⟨rfl, rfl⟩
  k_dflt (first | (refine' code_defC ?k1 ?k2 ?k3 ?k4 ?k5 ?kA ?kF ?kK ?k6 ?k7 ?k8 ?k9 ?kB ?kD ?_ ?c2 ?c3 ?c4; (case kA => exact rfl); (case kF => exact rfl); (case kK => first | exact rfl | assumption); (case k1 => k_asm); (case k2 => k_asm); (case k3 => k_asm); (case k4 => k_asm); (case k5 => k_asm); (case k6 => k_is); (case k7 => k_is); (case k8 => ktr_room); (case k9 => first | exact BindsTo.of_eq rfl | exact binds_K (by k_in) rfl (by k_is) rfl rfl rfl | (refine' kp_binds ?kx ?ke; (case kx => k_in); (case ke => exact fun _ => rfl)) | fail "k9"); (case kB => exact rfl); (case kD => decide +kernel); (case c2 => exact rfl); (case c3 => exact rfl); (case c4 => exact rfl); k_whole; intro g' L' h' tk' cells' FG' F' N' Y' B' X' T' l1; (try k_lt l1); k_cells Y'; (try simp only [List.cons_append, List.nil_append] at N'); (try dsimp only); (try k_lift B'); (try k_fold)) | (refine' code_def ?k1 ?k2 ?k3 ?k4 ?k5 ?kA ?kF ?kK ?k6 ?k7 ?k8 ?k9 ?kB ?_ ?c2 ?c3 ?c4 ?c5; (case kA => exact rfl); (case kF => exact rfl); (case kK => first | exact rfl | assumption); (case k1 => k_asm); (case k2 => k_asm); (case k3 => k_asm); (case k4 => k_asm); (case k5 => k_asm); (case k6 => k_is); (case k7 => k_is); (case k8 => ktr_room); (case k9 => first | exact BindsTo.of_eq rfl | exact binds_K (by k_in) rfl (by k_is) rfl rfl rfl | (refine' kp_binds ?kx ?ke; (case kx => k_in); (case ke => exact fun _ => rfl)) | fail "k9"); (case c5 => decide); (case kB => exact locs rfl); (case c2 => exact rfl); (case c3 => exact rfl); (case c4 => exact rfl); k_whole; intro g' L' h' FG' F' N' B' X' T'; (try dsimp only); (try k_lift B'); (try k_fold)))
  (k_with "exec While Compare cons nil" => k_while (fun (_ : List Int) lo hi => BInv (PL x) ns lo hi) (fun (_ : List Int) lo hi => (hi - lo).toNat) "lo" "hi")
  (k_with "state" => first | exact binv_start _ _ | exact binv_up (PL_mono x) hs ⟨by assumption, by assumption, by assumption, by assumption, by assumption⟩ (by assumption) (PL_tt (by assumption)) | exact binv_down (PL_mono x) hs ⟨by assumption, by assumption, by assumption, by assumption, by assumption⟩ (by assumption) (PL_ff (by assumption)))
  (k_with "measure" => first | exact fd2_less1 (by assumption) (by assumption) | exact fd2_less2 (by assumption) (by assumption))
  k_steps
  have e := binv_end (p := PL x) (ns := ns) ⟨by assumption, by assumption, by assumption, by assumption, by assumption⟩ (by assumption)
  rw [show ((cntLt x ns : Nat) : Int) = _ from e] at hret
  exact hret _ _ _ (by k_asm) (by k_asm)

theorem bisect_left_spec (w : World) (loose : List Str) (mean : ExcName → Option Value) (mg mb : Str → Option Value) (rest : List (Addr × Obj)) (l : Addr) (ns : List Int) (its : List Value) (n : Nat) (x : Int) (tx t0 : Tok) (hi : IntsAre its ns) (hl : ns.length < 64) (hs : ns.Pairwise (· ≤ ·)) :
    Asks 10 w loose mean mg mb 41 ((l, W.listOf its.toArray n) :: rest) [.ref l, .int x tx] (fun h₀ L m s Q => ∀ (h' : Heap) (tk' : Nat) (t : Tok), Fr h₀ L h' m → News h₀ L h' ((l, W.listOf its.toArray n) :: rest) → Q (.int (cntLt x ns : Nat) t) { s with heap := h', toks := tk' }) :=
  fun dp un gd cn cs a ccd cl outer A₀ base h₀ L m s Q E => Classical.choose_spec bisect_left_spec_K.ex9 bisect_left_spec_at ((w, loose, mean, mg, mb, dp, un, gd, cn, cs, a, ccd, cl, outer, A₀, base, h₀, L, m, s, Q, E), rest, l, ns, its, n, x, tx, t0) hi hl hs
end

section
namespace bisect_right_spec_K
noncomputable def P9 (w : World) (loose : List Str) (mean : ExcName → Option Value) (mg : Str → Option Value) (mb : Str → Option Value) (dp : Nat) (un : Nat) (gd : Option (List Code)) (cn : Str) (cs : Scope) (a : Addr) (ccd : Value) (cl : List (Str × Addr)) (outer : List Env) (A₀ : Around) (base : Heap) (h₀ : Heap) (L : Addr) (m : Str → Option Value) (s : Shared) (Q : Value → Shared → Prop) (E : Value → Shared → Prop) (rest : List (Addr × Obj)) (l : Addr) (ns : List Int) (its : List Value) (n : Nat) (x : Int) (tx : Tok) (t0 : Tok) : Prop :=
  (hi : IntsAre its ns) → (hl : ns.length < 64) → (hs : ns.Pairwise (· ≤ ·)) → AskV 10 w loose mean mg mb 32 ((l, W.listOf its.toArray n) :: rest) [.ref l, .int x tx, .int 0 t0, .none] (fun h₀ L m s Q => ∀ (h' : Heap) (tk' : Nat) (t : Tok), Fr h₀ L h' m → News h₀ L h' ((l, W.listOf its.toArray n) :: rest) → Q (.int (cntLe x ns : Nat) t) { s with heap := h', toks := tk' }) dp un gd cn cs a ccd cl outer A₀ base h₀ L m s Q E
noncomputable def PV9 (v : K9 × (List (Addr × Obj)) × (Addr) × (List Int) × (List Value) × (Nat) × (Int) × (Tok) × (Tok)) : Prop := P9 v.1.1 v.1.2.1 v.1.2.2.1 v.1.2.2.2.1 v.1.2.2.2.2.1 v.1.2.2.2.2.2.1 v.1.2.2.2.2.2.2.1 v.1.2.2.2.2.2.2.2.1 v.1.2.2.2.2.2.2.2.2.1 v.1.2.2.2.2.2.2.2.2.2.1 v.1.2.2.2.2.2.2.2.2.2.2.1 v.1.2.2.2.2.2.2.2.2.2.2.2.1 v.1.2.2.2.2.2.2.2.2.2.2.2.2.1 v.1.2.2.2.2.2.2.2.2.2.2.2.2.2.1 v.1.2.2.2.2.2.2.2.2.2.2.2.2.2.2.1 v.1.2.2.2.2.2.2.2.2.2.2.2.2.2.2.2.1 v.1.2.2.2.2.2.2.2.2.2.2.2.2.2.2.2.2.1 v.1.2.2.2.2.2.2.2.2.2.2.2.2.2.2.2.2.2.1 v.1.2.2.2.2.2.2.2.2.2.2.2.2.2.2.2.2.2.2.1 v.1.2.2.2.2.2.2.2.2.2.2.2.2.2.2.2.2.2.2.2.1 v.1.2.2.2.2.2.2.2.2.2.2.2.2.2.2.2.2.2.2.2.2.1 v.1.2.2.2.2.2.2.2.2.2.2.2.2.2.2.2.2.2.2.2.2.2 v.2.1 v.2.2.1 v.2.2.2.1 v.2.2.2.2.1 v.2.2.2.2.2.1 v.2.2.2.2.2.2.1 v.2.2.2.2.2.2.2.1 v.2.2.2.2.2.2.2.2
theorem ex9 : ∃ c, PV9 c → ∀ v, PV9 v := sk9 ⟨(Classical.choice ne9, default, default, default, default, default, default, default, default)⟩ PV9
noncomputable def c9 : K9 × (List (Addr × Obj)) × (Addr) × (List Int) × (List Value) × (Nat) × (Int) × (Tok) × (Tok) := Classical.choose ex9
noncomputable def w : World := c9.1.1
noncomputable def loose : List Str := c9.1.2.1
noncomputable def mean : ExcName → Option Value := c9.1.2.2.1
noncomputable def mg : Str → Option Value := c9.1.2.2.2.1
noncomputable def mb : Str → Option Value := c9.1.2.2.2.2.1
noncomputable def h₀ : Heap := c9.1.2.2.2.2.2.2.2.2.2.2.2.2.2.2.2.2.1
noncomputable def L : Addr := c9.1.2.2.2.2.2.2.2.2.2.2.2.2.2.2.2.2.2.1
noncomputable def m : Str → Option Value := c9.1.2.2.2.2.2.2.2.2.2.2.2.2.2.2.2.2.2.2.1
noncomputable def s : Shared := c9.1.2.2.2.2.2.2.2.2.2.2.2.2.2.2.2.2.2.2.2.1
noncomputable def Q : Value → Shared → Prop := c9.1.2.2.2.2.2.2.2.2.2.2.2.2.2.2.2.2.2.2.2.2.1
noncomputable def E : Value → Shared → Prop := c9.1.2.2.2.2.2.2.2.2.2.2.2.2.2.2.2.2.2.2.2.2.2
noncomputable def rest : List (Addr × Obj) := c9.2.1
noncomputable def l : Addr := c9.2.2.1
noncomputable def ns : List Int := c9.2.2.2.1
noncomputable def its : List Value := c9.2.2.2.2.1
noncomputable def n : Nat := c9.2.2.2.2.2.1
noncomputable def x : Int := c9.2.2.2.2.2.2.1
noncomputable def tx : Tok := c9.2.2.2.2.2.2.2.1
noncomputable def t0 : Tok := c9.2.2.2.2.2.2.2.2
end bisect_right_spec_K
open bisect_right_spec_K in
set_option maxHeartbeats 4000000 in
set_option maxRecDepth 100000 in
theorem bisect_right_spec_at : P9 w loose mean mg mb (c9.1.2.2.2.2.2.1) (c9.1.2.2.2.2.2.2.1) (c9.1.2.2.2.2.2.2.2.1) (c9.1.2.2.2.2.2.2.2.2.1) (c9.1.2.2.2.2.2.2.2.2.2.1) (c9.1.2.2.2.2.2.2.2.2.2.2.1) (c9.1.2.2.2.2.2.2.2.2.2.2.2.1) (c9.1.2.2.2.2.2.2.2.2.2.2.2.2.1) (c9.1.2.2.2.2.2.2.2.2.2.2.2.2.2.1) (c9.1.2.2.2.2.2.2.2.2.2.2.2.2.2.2.1) (c9.1.2.2.2.2.2.2.2.2.2.2.2.2.2.2.2.1) h₀ L m s Q E rest l ns its n x tx t0 := by
  k_with_none
  w_top off
  intro hi hl hs B F X N T hk hdp hun codeHd hret
  have fill9 : Challenge.rw_sr0027_02 = Challenge.rw_sr0027_02 ∧ hd.heap_39 = hd.heap_39 := by k_fill; exact ⟨rfl, rfl⟩
  k_dflt (first | (refine' code_defC ?k1 ?k2 ?k3 ?k4 ?k5 ?kA ?kF ?kK ?k6 ?k7 ?k8 ?k9 ?kB ?kD ?_ ?c2 ?c3 ?c4; (case kA => exact rfl); (case kF => exact rfl); (case kK => first | exact rfl | assumption); (case k1 => k_asm); (case k2 => k_asm); (case k3 => k_asm); (case k4 => k_asm); (case k5 => k_asm); (case k6 => k_is); (case k7 => k_is); (case k8 => ktr_room); (case k9 => first | exact BindsTo.of_eq rfl | exact binds_K (by k_in) rfl (by k_is) rfl rfl rfl | (refine' kp_binds ?kx ?ke; (case kx => k_in); (case ke => exact fun _ => rfl)) | fail "k9"); (case kB => exact rfl); (case kD => decide +kernel); (case c2 => exact rfl); (case c3 => exact rfl); (case c4 => exact rfl); k_whole; intro g' L' h' tk' cells' FG' F' N' Y' B' X' T' l1; (try k_lt l1); k_cells Y'; (try simp only [List.cons_append, List.nil_append] at N'); (try dsimp only); (try k_lift B'); (try k_fold)) | (refine' code_def ?k1 ?k2 ?k3 ?k4 ?k5 ?kA ?kF ?kK ?k6 ?k7 ?k8 ?k9 ?kB ?_ ?c2 ?c3 ?c4 ?c5; (case kA => exact rfl); (case kF => exact rfl); (case kK => first | exact rfl | assumption); (case k1 => k_asm); (case k2 => k_asm); (case k3 => k_asm); (case k4 => k_asm); (case k5 => k_asm); (case k6 => k_is); (case k7 => k_is); (case k8 => ktr_room); (case k9 => first | exact BindsTo.of_eq rfl | exact binds_K (by k_in) rfl (by k_is) rfl rfl rfl | (refine' kp_binds ?kx ?ke; (case kx => k_in); (case ke => exact fun _ => rfl)) | fail "k9"); (case c5 => decide); (case kB => exact locs rfl); (case c2 => exact rfl); (case c3 => exact rfl); (case c4 => exact rfl); k_whole; intro g' L' h' FG' F' N' B' X' T'; (try dsimp only); (try k_lift B'); (try k_fold)))
  (k_with "exec While Compare cons nil" => k_while (fun (_ : List Int) lo hi => BInv (PR x) ns lo hi) (fun (_ : List Int) lo hi => (hi - lo).toNat) "lo" "hi")
  (k_with "state" => first | exact binv_start _ _ | exact binv_up (PR_mono x) hs ⟨by assumption, by assumption, by assumption, by assumption, by assumption⟩ (by assumption) (PR_tt (by assumption)) | exact binv_down (PR_mono x) hs ⟨by assumption, by assumption, by assumption, by assumption, by assumption⟩ (by assumption) (PR_ff (by assumption)))
  (k_with "measure" => first | exact fd2_less1 (by assumption) (by assumption) | exact fd2_less2 (by assumption) (by assumption))
  k_steps
  have e := binv_end (p := PR x) (ns := ns) ⟨by assumption, by assumption, by assumption, by assumption, by assumption⟩ (by assumption)
  rw [show ((cntLe x ns : Nat) : Int) = _ from e] at hret
  exact hret _ _ _ (by k_asm) (by k_asm)

theorem bisect_right_spec (w : World) (loose : List Str) (mean : ExcName → Option Value) (mg mb : Str → Option Value) (rest : List (Addr × Obj)) (l : Addr) (ns : List Int) (its : List Value) (n : Nat) (x : Int) (tx t0 : Tok) (hi : IntsAre its ns) (hl : ns.length < 64) (hs : ns.Pairwise (· ≤ ·)) :
    Asks 10 w loose mean mg mb 32 ((l, W.listOf its.toArray n) :: rest) [.ref l, .int x tx, .int 0 t0, .none] (fun h₀ L m s Q => ∀ (h' : Heap) (tk' : Nat) (t : Tok), Fr h₀ L h' m → News h₀ L h' ((l, W.listOf its.toArray n) :: rest) → Q (.int (cntLe x ns : Nat) t) { s with heap := h', toks := tk' }) :=
  fun dp un gd cn cs a ccd cl outer A₀ base h₀ L m s Q E => Classical.choose_spec bisect_right_spec_K.ex9 bisect_right_spec_at ((w, loose, mean, mg, mb, dp, un, gd, cn, cs, a, ccd, cl, outer, A₀, base, h₀, L, m, s, Q, E), rest, l, ns, its, n, x, tx, t0) hi hl hs
end

section
namespace bisect_right2_spec_K
noncomputable def P9 (w : World) (loose : List Str) (mean : ExcName → Option Value) (mg : Str → Option Value) (mb : Str → Option Value) (dp : Nat) (un : Nat) (gd : Option (List Code)) (cn : Str) (cs : Scope) (a : Addr) (ccd : Value) (cl : List (Str × Addr)) (outer : List Env) (A₀ : Around) (base : Heap) (h₀ : Heap) (L : Addr) (m : Str → Option Value) (s : Shared) (Q : Value → Shared → Prop) (E : Value → Shared → Prop) (rest : List (Addr × Obj)) (l : Addr) (ns : List Int) (its : List Value) (n : Nat) (x : Int) (tx : Tok) (t0 : Tok) : Prop :=
  (hi : IntsAre its ns) → (hl : ns.length < 64) → (hs : ns.Pairwise (· ≤ ·)) → AskV 10 w loose mean mg mb 32 ((l, W.listOf its.toArray n) :: rest) [.ref l, .int x tx] (fun h₀ L m s Q => ∀ (h' : Heap) (tk' : Nat) (t : Tok), Fr h₀ L h' m → News h₀ L h' ((l, W.listOf its.toArray n) :: rest) → Q (.int (cntLe x ns : Nat) t) { s with heap := h', toks := tk' }) dp un gd cn cs a ccd cl outer A₀ base h₀ L m s Q E
noncomputable def PV9 (v : K9 × (List (Addr × Obj)) × (Addr) × (List Int) × (List Value) × (Nat) × (Int) × (Tok) × (Tok)) : Prop := P9 v.1.1 v.1.2.1 v.1.2.2.1 v.1.2.2.2.1 v.1.2.2.2.2.1 v.1.2.2.2.2.2.1 v.1.2.2.2.2.2.2.1 v.1.2.2.2.2.2.2.2.1 v.1.2.2.2.2.2.2.2.2.1 v.1.2.2.2.2.2.2.2.2.2.1 v.1.2.2.2.2.2.2.2.2.2.2.1 v.1.2.2.2.2.2.2.2.2.2.2.2.1 v.1.2.2.2.2.2.2.2.2.2.2.2.2.1 v.1.2.2.2.2.2.2.2.2.2.2.2.2.2.1 v.1.2.2.2.2.2.2.2.2.2.2.2.2.2.2.1 v.1.2.2.2.2.2.2.2.2.2.2.2.2.2.2.2.1 v.1.2.2.2.2.2.2.2.2.2.2.2.2.2.2.2.2.1 v.1.2.2.2.2.2.2.2.2.2.2.2.2.2.2.2.2.2.1 v.1.2.2.2.2.2.2.2.2.2.2.2.2.2.2.2.2.2.2.1 v.1.2.2.2.2.2.2.2.2.2.2.2.2.2.2.2.2.2.2.2.1 v.1.2.2.2.2.2.2.2.2.2.2.2.2.2.2.2.2.2.2.2.2.1 v.1.2.2.2.2.2.2.2.2.2.2.2.2.2.2.2.2.2.2.2.2.2 v.2.1 v.2.2.1 v.2.2.2.1 v.2.2.2.2.1 v.2.2.2.2.2.1 v.2.2.2.2.2.2.1 v.2.2.2.2.2.2.2.1 v.2.2.2.2.2.2.2.2
theorem ex9 : ∃ c, PV9 c → ∀ v, PV9 v := sk9 ⟨(Classical.choice ne9, default, default, default, default, default, default, default, default)⟩ PV9
noncomputable def c9 : K9 × (List (Addr × Obj)) × (Addr) × (List Int) × (List Value) × (Nat) × (Int) × (Tok) × (Tok) := Classical.choose ex9
noncomputable def w : World := c9.1.1
noncomputable def loose : List Str := c9.1.2.1
noncomputable def mean : ExcName → Option Value := c9.1.2.2.1
noncomputable def mg : Str → Option Value := c9.1.2.2.2.1
noncomputable def mb : Str → Option Value := c9.1.2.2.2.2.1
noncomputable def h₀ : Heap := c9.1.2.2.2.2.2.2.2.2.2.2.2.2.2.2.2.2.1
noncomputable def L : Addr := c9.1.2.2.2.2.2.2.2.2.2.2.2.2.2.2.2.2.2.1
noncomputable def m : Str → Option Value := c9.1.2.2.2.2.2.2.2.2.2.2.2.2.2.2.2.2.2.2.1
noncomputable def s : Shared := c9.1.2.2.2.2.2.2.2.2.2.2.2.2.2.2.2.2.2.2.2.1
noncomputable def Q : Value → Shared → Prop := c9.1.2.2.2.2.2.2.2.2.2.2.2.2.2.2.2.2.2.2.2.2.1
noncomputable def E : Value → Shared → Prop := c9.1.2.2.2.2.2.2.2.2.2.2.2.2.2.2.2.2.2.2.2.2.2
noncomputable def rest : List (Addr × Obj) := c9.2.1
noncomputable def l : Addr := c9.2.2.1
noncomputable def ns : List Int := c9.2.2.2.1
noncomputable def its : List Value := c9.2.2.2.2.1
noncomputable def n : Nat := c9.2.2.2.2.2.1
noncomputable def x : Int := c9.2.2.2.2.2.2.1
noncomputable def tx : Tok := c9.2.2.2.2.2.2.2.1
noncomputable def t0 : Tok := c9.2.2.2.2.2.2.2.2
end bisect_right2_spec_K
open bisect_right2_spec_K in
set_option maxHeartbeats 4000000 in
set_option maxRecDepth 100000 in
theorem bisect_right2_spec_at : P9 w loose mean mg mb (c9.1.2.2.2.2.2.1) (c9.1.2.2.2.2.2.2.1) (c9.1.2.2.2.2.2.2.2.1) (c9.1.2.2.2.2.2.2.2.2.1) (c9.1.2.2.2.2.2.2.2.2.2.1) (c9.1.2.2.2.2.2.2.2.2.2.2.1) (c9.1.2.2.2.2.2.2.2.2.2.2.2.1) (c9.1.2.2.2.2.2.2.2.2.2.2.2.2.1) (c9.1.2.2.2.2.2.2.2.2.2.2.2.2.2.1) (c9.1.2.2.2.2.2.2.2.2.2.2.2.2.2.2.1) (c9.1.2.2.2.2.2.2.2.2.2.2.2.2.2.2.2.1) h₀ L m s Q E rest l ns its n x tx t0 := by
  k_with_none
  w_top off
  intro hi hl hs B F X N T hk hdp hun codeHd hret
  have fill9 : Challenge.rw_sr0027_02 = Challenge.rw_sr0027_02 ∧ hd.heap_39 = hd.heap_39 := by k_fill; exact ⟨rfl, rfl⟩
  k_dflt (first | (refine' code_defC ?k1 ?k2 ?k3 ?k4 ?k5 ?kA ?kF ?kK ?k6 ?k7 ?k8 ?k9 ?kB ?kD ?_ ?c2 ?c3 ?c4; (case kA => exact rfl); (case kF => exact rfl); (case kK => first | exact rfl | assumption); (case k1 => k_asm); (case k2 => k_asm); (case k3 => k_asm); (case k4 => k_asm); (case k5 => k_asm); (case k6 => k_is); (case k7 => k_is); (case k8 => ktr_room); (case k9 => first | exact BindsTo.of_eq rfl | exact binds_K (by k_in) rfl (by k_is) rfl rfl rfl | (refine' kp_binds ?kx ?ke; (case kx => k_in); (case ke => exact fun _ => rfl)) | fail "k9"); (case kB => exact rfl); (case kD => decide +kernel); (case c2 => exact rfl); (case c3 => exact rfl); (case c4 => exact rfl); k_whole; intro g' L' h' tk' cells' FG' F' N' Y' B' X' T' l1; (try k_lt l1); k_cells Y'; (try simp only [List.cons_append, List.nil_append] at N'); (try dsimp only); (try k_lift B'); (try k_fold)) | (refine' code_def ?k1 ?k2 ?k3 ?k4 ?k5 ?kA ?kF ?kK ?k6 ?k7 ?k8 ?k9 ?kB ?_ ?c2 ?c3 ?c4 ?c5; (case kA => exact rfl); (case kF => exact rfl); (case kK => first | exact rfl | assumption); (case k1 => k_asm); (case k2 => k_asm); (case k3 => k_asm); (case k4 => k_asm); (case k5 => k_asm); (case k6 => k_is); (case k7 => k_is); (case k8 => ktr_room); (case k9 => first | exact BindsTo.of_eq rfl | exact binds_K (by k_in) rfl (by k_is) rfl rfl rfl | (refine' kp_binds ?kx ?ke; (case kx => k_in); (case ke => exact fun _ => rfl)) | fail "k9"); (case c5 => decide); (case kB => exact locs rfl); (case c2 => exact rfl); (case c3 => exact rfl); (case c4 => exact rfl); k_whole; intro g' L' h' FG' F' N' B' X' T'; (try dsimp only); (try k_lift B'); (try k_fold)))
  (k_with "exec While Compare cons nil" => k_while (fun (_ : List Int) lo hi => BInv (PR x) ns lo hi) (fun (_ : List Int) lo hi => (hi - lo).toNat) "lo" "hi")
  (k_with "state" => first | exact binv_start _ _ | exact binv_up (PR_mono x) hs ⟨by assumption, by assumption, by assumption, by assumption, by assumption⟩ (by assumption) (PR_tt (by assumption)) | exact binv_down (PR_mono x) hs ⟨by assumption, by assumption, by assumption, by assumption, by assumption⟩ (by assumption) (PR_ff (by assumption)))
  (k_with "measure" => first | exact fd2_less1 (by assumption) (by assumption) | exact fd2_less2 (by assumption) (by assumption))
  k_steps
  have e := binv_end (p := PR x) (ns := ns) ⟨by assumption, by assumption, by assumption, by assumption, by assumption⟩ (by assumption)
  rw [show ((cntLe x ns : Nat) : Int) = _ from e] at hret
  exact hret _ _ _ (by k_asm) (by k_asm)

theorem bisect_right2_spec (w : World) (loose : List Str) (mean : ExcName → Option Value) (mg mb : Str → Option Value) (rest : List (Addr × Obj)) (l : Addr) (ns : List Int) (its : List Value) (n : Nat) (x : Int) (tx t0 : Tok) (hi : IntsAre its ns) (hl : ns.length < 64) (hs : ns.Pairwise (· ≤ ·)) :
    Asks 10 w loose mean mg mb 32 ((l, W.listOf its.toArray n) :: rest) [.ref l, .int x tx] (fun h₀ L m s Q => ∀ (h' : Heap) (tk' : Nat) (t : Tok), Fr h₀ L h' m → News h₀ L h' ((l, W.listOf its.toArray n) :: rest) → Q (.int (cntLe x ns : Nat) t) { s with heap := h', toks := tk' }) :=
  fun dp un gd cn cs a ccd cl outer A₀ base h₀ L m s Q E => Classical.choose_spec bisect_right2_spec_K.ex9 bisect_right2_spec_at ((w, loose, mean, mg, mb, dp, un, gd, cn, cs, a, ccd, cl, outer, A₀, base, h₀, L, m, s, Q, E), rest, l, ns, its, n, x, tx, t0) hi hl hs
end

section
set_option maxHeartbeats 4000000 in
set_option maxRecDepth 100000 in
theorem insort_right_spec (w : World) (loose : List Str) (mean : ExcName → Option Value) (mg mb : Str → Option Value) (rest : List (Addr × Obj)) (l : Addr) (ns : List Int) (its : List Value) (n : Nat) (x : Int) (tx : Tok) (hi : IntsAre its ns) (hl : ns.length < 63) (hs : ns.Pairwise (· ≤ ·)) (hr : ∀ p ∈ rest, p.1 ≠ l) :
    Asks 12 w loose mean mg mb 23 ((l, W.listOf its.toArray n) :: rest) [.ref l, .int x tx] (fun h₀ L m s Q => ∀ (h' : Heap) (tk' : Nat) (its' : List Value), IntsAre its' (insR x ns) → Fr h₀ L h' m → News h₀ L h' ((l, W.listOf its'.toArray (n + 1)) :: rest) → Q .none { s with heap := h', toks := tk' }) := by
  k_with_none
  w_top off
  intro dp un gd cn cs a ccd cl outer A₀ base h₀ L m s Q E B F X N T hk hdp hun codeHd hret
  have fill9 : Challenge.rw_sr0027_02 = Challenge.rw_sr0027_02 ∧ hd.heap_39 = hd.heap_39 := by k_fill; exact ⟨rfl, rfl⟩
  k_dflt (first | (refine' code_defC ?k1 ?k2 ?k3 ?k4 ?k5 ?kA ?kF ?kK ?k6 ?k7 ?k8 ?k9 ?kB ?kD ?_ ?c2 ?c3 ?c4; (case kA => exact rfl); (case kF => exact rfl); (case kK => first | exact rfl | assumption); (case k1 => k_asm); (case k2 => k_asm); (case k3 => k_asm); (case k4 => k_asm); (case k5 => k_asm); (case k6 => k_is); (case k7 => k_is); (case k8 => ktr_room); (case k9 => first | exact BindsTo.of_eq rfl | exact binds_K (by k_in) rfl (by k_is) rfl rfl rfl | (refine' kp_binds ?kx ?ke; (case kx => k_in); (case ke => exact fun _ => rfl)) | fail "k9"); (case kB => exact rfl); (case kD => decide +kernel); (case c2 => exact rfl); (case c3 => exact rfl); (case c4 => exact rfl); k_whole; intro g' L' h' tk' cells' FG' F' N' Y' B' X' T' l1; (try k_lt l1); k_cells Y'; (try simp only [List.cons_append, List.nil_append] at N'); (try dsimp only); (try k_lift B'); (try k_fold)) | (refine' code_def ?k1 ?k2 ?k3 ?k4 ?k5 ?kA ?kF ?kK ?k6 ?k7 ?k8 ?k9 ?kB ?_ ?c2 ?c3 ?c4 ?c5; (case kA => exact rfl); (case kF => exact rfl); (case kK => first | exact rfl | assumption); (case k1 => k_asm); (case k2 => k_asm); (case k3 => k_asm); (case k4 => k_asm); (case k5 => k_asm); (case k6 => k_is); (case k7 => k_is); (case k8 => ktr_room); (case k9 => first | exact BindsTo.of_eq rfl | exact binds_K (by k_in) rfl (by k_is) rfl rfl rfl | (refine' kp_binds ?kx ?ke; (case kx => k_in); (case ke => exact fun _ => rfl)) | fail "k9"); (case c5 => decide); (case kB => exact locs rfl); (case c2 => exact rfl); (case c3 => exact rfl); (case c4 => exact rfl); k_whole; intro g' L' h' FG' F' N' B' X' T'; (try dsimp only); (try k_lift B'); (try k_fold)))
  have hcl : ns.countP (fun a => decide (a ≤ x)) ≤ its.length := by rw [hi.length]; exact List.countP_le_length
  (k_with "call ref" => ((with_reducible show wpAny _ _ (call (Value.ref 32) _) _ _ _); k_dflt (refine' wpAny_call (bisect_right_spec w loose mean mg mb _ l ns its n x _ _ hi (by omega) hs _ _ _ _ _ _ _ _ _ _ _ _ _ _ _ _ _ (by k_asm) (by k_asm) (by k_asm) (by k_asm) (by k_asm) (by first | exact rfl | assumption) (by ktr_room) (by ktr_units) (by assumption) ?_)); intro h' tk' t9 F9 N9; (try dsimp only); (try k_sweep); (try k_fold)))
  (k_with "call builtin:list.insert" => (k_dflt (refine' ins_K (k := ns.countP fun a => decide (a ≤ x)) (by k_asm) (by k_asm) rfl hcl ?U (by rw [hi.length]; omega) ?_; (case U => k_upd)); intro h' F' N'; (try k_sweep)))
  k_steps
  exact hret _ _ _ (ints_ins hi _ x _) (by k_asm) (by k_asm)
end

section
open PySem PySem.W PyProof.Rows PySem.Builtin
theorem utf8At_ascii (b : Array UInt8) (p : Nat) (h : (b.getD p 0).toNat < 128) : _codecs.utf8Decoder.find true b p = .char (b.getD p 0).toNat (p + 1) := by
  unfold _codecs.utf8Decoder
  dsimp only
  unfold Bytes.utf8At
  dsimp only
  rw [if_pos h]
theorem forIn_go {β : Type} (F : Nat → β → Sem (ForInStep β)) (S : Nat → β) (N : Nat) (hF : ∀ x i, i < N → F x (S i) = pure (.yield (S (i + 1)))) : ∀ (l : List Nat) (k : Nat), k + l.length ≤ N → forIn l (S k) F = pure (S (k + l.length))
  | [], k, _ => rfl
  | a :: l, k, h => by
    rw [List.forIn_cons, hF a k (by simp only [List.length_cons] at h; omega)]
    show forIn l (S (k + 1)) F = _
    rw [forIn_go F S N hF l (k + 1) (by simp only [List.length_cons] at h; omega)]
    congr 2
    simp only [List.length_cons]; omega
noncomputable def decS (b : Array UInt8) (i : Nat) : Array Nat := ((b.toList.take i).map UInt8.toNat).toArray
theorem decS_step (b : Array UInt8) (i : Nat) (h : i < b.size) : decS b i ++ [(b.getD i 0).toNat].toArray = decS b (i + 1) := by
  unfold decS
  rw [List.take_succ_eq_append_getElem (by simpa using h), List.map_append]
  simp [Array.getD, h]
theorem dec_ascii (b : Array UInt8) (h : ∀ i < b.size, (b.getD i 0).toNat < 128) (hs : b.size < 1000) (id : String) : _codecs.runDecoder id _codecs.utf8Decoder none true b 0 [] = pure ((b.toList.map UInt8.toNat).toArray, b.size) := by
  unfold _codecs.runDecoder
  dsimp only
  rw [Std.Legacy.Range.forIn_eq_forIn_range']
  refine (congrArg (fun z => z >>= _) (forIn_go _ (fun i => (i, decS b i, ({} : _codecs.Faults))) b.size ?_ _ 0 ?_)).trans ?_
  · intro x i hi
    have h1 : (decS b i).size ≤ i := by unfold decS; simp; omega
    dsimp only
    rw [if_neg (by rw [sizeLine_eq]; omega), if_neg (by omega), utf8At_ascii b i (h i hi)]
    dsimp only [_codecs.Found.char]
    rw [decS_step b i hi]
  · simp
  · have e : decS b b.size = (b.toList.map UInt8.toNat).toArray := by unfold decS; rw [show b.size = b.toList.length by simp, List.take_length]
    simp only [Std.Legacy.Range.size, List.length_range']
    simp
    rw [e]
theorem decode_empty {prog : Program} {w : World} {A : Around} {E : Value → Shared → Prop} {s : Shared} {t : Tok} {Q : Value → Shared → Prop} (h : ∀ t' k, Q (.str ⟨#[]⟩ t') { s with toks := k }) :
    wpAny (model prog w) A (call (.builtin "bytes.decode") [.bytes #[] t]) Q E s := by
  have e : Builtin.«bytes.decode» ⟨[.bytes #[] t], []⟩ = (rule s!"{s!"{Bytes.Kind.bytes.name}.decode"}.empty" >>= fun _ => mkStr ⟨#[]⟩ >>= fun v => ret v) := by kernel_rfl
  have hm : Meets (Builtin.«bytes.decode» ⟨[.bytes #[] t], []⟩) (fun _ R s => ∀ t' k, R (.ok (.ret (.str ⟨#[]⟩ t'))) { s with toks := k }) := by
    refine .of_wp fun prog w A R s hS => ?_
    rw [e]
    exact wpAny_bind (wpAny_rule (wpAny_bind (wpAny_mkStr (wpAny_pure ⟨_, rfl, hS _ _⟩) (by decide))))
  exact call_meets FB.slot_bytes_decode (typeIs_bytes _ _ _) FB.entry_bytes_decode (FB.args_bytes_decode_1 _) hm h
theorem toNat_ofNat {c : Nat} (h : c < 128) : (UInt8.ofNat c).toNat = c := by
  simp [UInt8.toNat_ofNat']; omega
theorem decode_any {prog : Program} {w : World} {A : Around} {E : Value → Shared → Prop} {s : Shared} {t : Tok} {Q : Value → Shared → Prop} (l : List Nat) (hc : ∀ c ∈ l, c < 128) (hl : l.length < 1000) (h : ∀ t' k, Q (.str ⟨l.toArray⟩ t') { s with toks := k }) :
    wpAny (model prog w) A (call (.builtin "bytes.decode") [.bytes (l.map UInt8.ofNat).toArray t]) Q E s := by
  cases l with
  | nil => exact decode_empty h
  | cons c cs =>
    refine KBd.decode (x := ⟨(c :: cs).toArray⟩) (n := ((c :: cs).map UInt8.ofNat).toArray.size) (fun id => ?_) ?_ h
    · have e2 : (((c :: cs).map UInt8.ofNat).toArray.toList.map UInt8.toNat) = c :: cs := by
        show ((c :: cs).map UInt8.ofNat).map UInt8.toNat = c :: cs
        rw [List.map_map]
        conv => rhs; rw [← List.map_id (c :: cs)]
        exact List.map_congr_left fun a ha => toNat_ofNat (hc a ha)
      have := dec_ascii ((c :: cs).map UInt8.ofNat).toArray (fun i hi => ?_) (by simpa using hl) id
      · rw [e2] at this
        exact this
      · rw [Array.getD_eq_getD_getElem?]
        have hi' : i < (c :: cs).length := by simpa using hi
        rw [Array.getElem?_eq_getElem hi]
        show (((c :: cs).map UInt8.ofNat)[i]'(by simpa using hi')).toNat < 128
        rw [List.getElem_map, toNat_ofNat (hc _ (List.getElem_mem hi'))]
        exact hc _ (List.getElem_mem hi')
    · show (c :: cs).toArray.size ≤ _
      simp only [List.size_toArray]; omega
end

section
theorem strs_signs (x : Str) : ∀ (l : List Nat) (vs : List Value), vs.length = l.length → (∀ (j : Nat) (v : Value), vs[j]? = some v → ∃ (c : Nat) (u : Tok), l[j]? = some c ∧ v = Value.str ⟨#[c]⟩ u) → StrsAre vs (l.map fun c => (⟨#[c]⟩ : Str))
  | [], [], _, _ => .nil
  | c :: l, v :: vs, hl, h => by
    obtain ⟨c', u, hc, rfl⟩ := h 0 v rfl
    cases hc
    exact .cons _ _ (strs_signs x l vs (by simpa using hl) fun j v hv => h (j + 1) v hv)
theorem kls_list {prog : Program} {w : World} {A : Around} {E : Value → Shared → Prop} {s : Shared} {h₀ : Heap} {L : Addr} {m : Str → Option Value} {news : List (Addr × Obj)} {Q : Value → Shared → Prop} {l : List Nat} {t : Tok}
    (hh : A.handled = none) (F : Fr h₀ L s.heap m) (N : News h₀ L s.heap news) (hz : l.length ≤ 1000)
    (h : ∀ D us c h' tk, Fr h₀ L h' m → News h₀ L h' ((D, W.listOf (List.toArray us) c) :: news) → (∀ p ∈ news, p.1 < D) → StrsAre us (l.map fun c => (⟨#[c]⟩ : Str)) → Q (.ref D) { s with heap := h', toks := tk }) :
    wpAny (model prog w) A (call (.type "list") [.str ⟨l.toArray⟩ t]) Q E s := by
  refine call_list_str hh ⟨l.toArray⟩ t (hn := by rw [sizeLine_eq]; simp; omega) fun h' tk acc c hk hD hI => ?_
  have hD' : h'.get? s.heap.objs.size = some (W.listOf (List.toArray acc.toList) c) := by
    rw [Array.toArray_toList]
    exact hD
  exact h _ acc.toList c h' tk (F.keeps hk) (news_pushed F N hk hD' rfl) (fun p hp => Heap.lt_size (N p hp).1) (strs_signs ⟨l.toArray⟩ l _ (by rw [Array.length_toList]; simpa using hI.1) fun j v hj => by
    obtain ⟨c, u, hc, e⟩ := hI.2 j v (by rw [← hj, Array.getElem?_toList])
    exact ⟨c, u, by simpa using hc, e⟩)

/-- a word's letters with a stroke between -/
noncomputable def jw : List Nat → List Nat
  | [] => []
  | c :: r => c :: r.flatMap fun d => [92, d]
theorem jw_fold (r : List Nat) (a : Array Nat) : (r.map fun c => (⟨#[c]⟩ : Str)).foldl (fun acc p => acc ++ (Str.ofString "\\").cps ++ p.cps) a = a ++ (r.flatMap fun d => [92, d]).toArray := by
  induction r generalizing a with
  | nil => simp
  | cons c r ih =>
    rw [List.map_cons, List.foldl_cons, ih]
    have : (Str.ofString "\\").cps = #[92] := by decide +kernel
    rw [this]
    simp [List.flatMap_cons]
theorem join_jw (l : List Nat) : Txt.join (Str.ofString "\\") (l.map fun c => (⟨#[c]⟩ : Str)) = ⟨(jw l).toArray⟩ := by
  show (⟨((l.map fun c => (⟨#[c]⟩ : Str)).drop 1).foldl _ ((l.map fun c => (⟨#[c]⟩ : Str)).headD Str.empty).cps⟩ : Str) = _
  cases l with
  | nil => rfl
  | cons c r =>
    congr 1
    show (r.map fun c => (⟨#[c]⟩ : Str)).foldl _ #[c] = _
    rw [jw_fold]
    unfold jw
    simp
theorem fm_len (r : List Nat) : (r.flatMap fun d => [92, d]).length = 2 * r.length := by
  induction r with
  | nil => rfl
  | cons c r ih => rw [List.flatMap_cons, List.length_append, ih]; simp only [List.length_cons, List.length_nil]; omega
theorem jw_len (l : List Nat) : (jw l).length ≤ 2 * l.length := by
  cases l with
  | nil => exact Nat.le_refl _
  | cons c r => unfold jw; rw [List.length_cons, fm_len, List.length_cons]; omega
theorem sum_ones (l : List Nat) : ((l.map fun c => (⟨#[c]⟩ : Str)).map (·.length)).sum = l.length := by
  induction l with
  | nil => rfl
  | cons c r ih => rw [List.map_cons, List.map_cons, List.sum_cons, ih, List.length_cons]; show 1 + _ = _; omega
theorem kls_join {prog : Program} {w : World} {A : Around} {E : Value → Shared → Prop} {s : Shared} {Q : Value → Shared → Prop} {D : Addr} {us : List Value} {l : List Nat} {t : Tok} (hl : s.heap.IsList D us.toArray) (hi : StrsAre us (l.map fun c => (⟨#[c]⟩ : Str))) (hz : l.length ≤ 1000)
    (h : ∀ t' k, Q (.str ⟨(jw l).toArray⟩ t') { s with toks := k }) : wpAny (model prog w) A (call (.builtin "str.join") [.str (Str.ofString "\\") t, .ref D]) Q E s := by
  refine join_listW hl hi (by decide +kernel) (by rw [sum_ones, List.length_map]; omega) ?_
  rw [join_jw]
  exact h
end

section
section
open LCg
variable {prog : Program} {w : World} {A : Around} {s : Shared} {h₀ : Heap} {L : Addr} {m : Str → Option Value} {env : Env}
theorem compEnd_mono {s₁ : Shared} {I : Addr} {oI : Obj} {C : Addr} {oC : Obj} {D : Addr} {oD : Obj} {S : List (Addr × Obj) → Prop} {r r' : Value → List (Addr × Obj) → Prop} {y : Value} {s₂ : Shared}
    (h : CompEnd h₀ L m s₁ I oI C oC D oD S r y s₂) (hr : ∀ y n, r y n → r' y n) : CompEnd h₀ L m s₁ I oI C oC D oD S r' y s₂ :=
  let ⟨h', tk, n', e, F, N, o, hS, x⟩ := h
  ⟨h', tk, n', e, F, N, o, hS, hr _ _ x⟩
/-- a comprehension by an invariant: J turn list ledger -/
theorem restInv {elt : Expr} {x : Str} {scope : Scope} {cl : List (Str × Addr)} {S : List (Addr × Obj) → Prop} {P : Nat → Value → Prop} {Fin : List Value → List (Addr × Obj) → Prop} {n : Nat} (J : Nat → List Value → List (Addr × Obj) → Prop) {news : List (Addr × Obj)}
    (start : J 0 [] news)
    (step : ∀ i v ys news I oI C oC D m₂ h tk (E' : Value → Shared → Prop), i < n → P i v → J i ys news → NsObj oC m₂ → m₂ x = some v → Fr h₀ L h m → News h₀ L h ((I, oI) :: (C, oC) :: (D, lst ys) :: news) → Off3 I C D news → ((@Ne Nat I C) ∧ (@Ne Nat I D) ∧ (@Ne Nat C D)) →
      wpAny (model prog w) A (eval elt (compEnvC scope cl C env)) (CompEnd h₀ L m { s with heap := h, toks := tk } I oI C oC D (lst ys) S (fun y news' => Halt (J (i + 1) (ys ++ [y]) news'))) E' { s with heap := h, toks := tk })
    (fin : ∀ ys news, J n ys news → Fin ys news) : CompRest prog w A h₀ L m env elt x scope cl s S P Fin n 0 [] news := by
  have key : ∀ k i ys news, i + k = n → J i ys news → CompRest prog w A h₀ L m env elt x scope cl s S P Fin k i ys news := by
    intro k
    induction k with
    | zero => intro i ys news hk hJ; obtain rfl : i = n := by omega
              exact CompRest.zero (fin _ _ hJ)
    | succ k ih =>
      intro i ys news hk hJ
      refine CompRest.succ ?_
      intro v I oI C oC D m₂ h tk E' hP hC hx F N off ne
      exact wpAny_mono (step i v ys news I oI C oC D m₂ h tk E' (by omega) hP hJ hC hx F N off ne) (fun y s₂ h₂ => compEnd_mono h₂ fun y n' hj => ih (i + 1) _ _ (by omega) hj.h) fun _ _ e => e
  exact key n 0 [] news (by omega) start
open LCt in
/-- the same with a test -/
theorem restInvT {ct elt : Expr} {x : Str} {scope : Scope} {cl : List (Str × Addr)} {S : List (Addr × Obj) → Prop} {P : Nat → Value → Prop} {Fin : List Value → List (Addr × Obj) → Prop} {n : Nat} (J : Nat → List Value → List (Addr × Obj) → Prop) {news : List (Addr × Obj)}
    (start : J 0 [] news)
    (step : ∀ i v ys news I oI C oC D m₂ h tk (E' : Value → Shared → Prop), i < n → P i v → J i ys news → NsObj oC m₂ → m₂ x = some v → Fr h₀ L h m → News h₀ L h ((I, oI) :: (C, oC) :: (D, lst ys) :: news) → Off3 I C D news → ((@Ne Nat I C) ∧ (@Ne Nat I D) ∧ (@Ne Nat C D)) →
      wpAny (model prog w) A (isTrue ct (compEnvC scope cl C env) (eval ct (compEnvC scope cl C env))) (fun ok s' => if ok = true then
        wpAny (model prog w) A (eval elt (compEnvC scope cl C env)) (CompEnd h₀ L m { s with heap := h, toks := tk } I oI C oC D (lst ys) S (fun y news' => Halt (J (i + 1) (ys ++ [y]) news'))) E' s'
        else CompEnd h₀ L m { s with heap := h, toks := tk } I oI C oC D (lst ys) S (fun _ news' => Halt (J (i + 1) ys news')) Value.none s') E' { s with heap := h, toks := tk })
    (fin : ∀ ys news, J n ys news → Fin ys news) : CompRestT prog w A h₀ L m env ct elt x scope cl s S P Fin n 0 [] news := by
  have key : ∀ k i ys news, i + k = n → J i ys news → CompRestT prog w A h₀ L m env ct elt x scope cl s S P Fin k i ys news := by
    intro k
    induction k with
    | zero => intro i ys news hk hJ; obtain rfl : i = n := by omega
              exact CompRestT.zero (fin _ _ hJ)
    | succ k ih =>
      intro i ys news hk hJ
      refine CompRestT.succ ?_
      intro v I oI C oC D m₂ h tk E' hP hC hx F N off ne
      refine wpAny_mono (step i v ys news I oI C oC D m₂ h tk E' (by omega) hP hJ hC hx F N off ne) (fun ok s₂ h₂ => ?_) fun _ _ e => e
      cases ok with
      | true =>
        rw [if_pos rfl] at h₂ ⊢
        exact wpAny_mono h₂ (fun y s₂ h₂ => compEnd_mono h₂ fun y n' hj => ih (i + 1) _ _ (by omega) hj.h) fun _ _ e => e
      | false =>
        rw [if_neg (by decide)] at h₂ ⊢
        exact compEnd_mono h₂ fun y n' hj => ih (i + 1) _ _ (by omega) hj.h
  exact key n 0 [] news (by omega) start
end
end

section
section
variable {w : World} {loose : List Str} {mean : ExcName → Option Value} {mg mb : Str → Option Value}
/-- a contract under a ledger that has more, or in another order -/
theorem asks_sub {lv : Nat} {f : Addr} {led led' : List (Addr × Obj)} {vs : List Value} {ret ret' : Heap → Addr → (Str → Option Value) → Shared → (Value → Shared → Prop) → Prop}
    (h : Asks lv w loose mean mg mb f led vs ret) (hs : ∀ p ∈ led, p ∈ led') (hr : ∀ h₀ L m s Q, ret' h₀ L m s Q → ret h₀ L m s Q) : Asks lv w loose mean mg mb f led' vs ret' :=
  fun dp un gd cn cs a ccd cl outer A₀ base h₀ L m s Q E B F X N T hk hdp hun codeHd hret => h dp un gd cn cs a ccd cl outer A₀ base h₀ L m s Q E B F X (fun p hp => N p (hs p hp)) T hk hdp hun codeHd (hr _ _ _ _ _ hret)
end
/-- the machine at x beside its line (which lies at pb): the ledger R holds the rest of it -/
noncomputable def QM (w : World) (loose : List Str) (mean : ExcName → Option Value) (mg mb : Str → Option Value) (x pb : Addr) (R : List (Addr × Obj)) : Prop :=
  ∃ (d la st : Addr) (txt : Str) (k1 k2 k3 k4 k5 k6 ti : Tok) (nl i : Nat) (line : Int) (rest : List (Addr × Obj)), Mach w loose mean mg mb x d pb la st txt rest ∧
    ∀ p, p ∈ R ↔ p ∈ (x, instObj 86 d) :: (d, mDict w line st pb k1 k2 k3 k4 k5 k6) :: (la, W.listOf #[.int (i : Int) ti] nl) :: rest
section
variable {w : World} {loose : List Str} {mean : ExcName → Option Value} {mg mb : Str → Option Value} {x pb : Addr} {R : List (Addr × Obj)}
theorem qpop (M : QM w loose mean mg mb x pb R) (q : List Value) (nq : Nat) (v : Value) (hq : q.length < 1000) :
    Asks 16 w loose mean mg mb 76 ((pb, W.listOf (v :: q).toArray nq) :: R) [.ref x] (fun h₀ L m s Q => ∀ (h' : Heap) (tk' : Nat), Fr h₀ L h' m → News h₀ L h' ((pb, W.listOf q.toArray (nq + 1)) :: R) → Q v { s with heap := h', toks := tk' }) := by
  obtain ⟨d, la, st, txt, k1, k2, k3, k4, k5, k6, ti, nl, i, line, rest, M, hR⟩ := M
  refine asks_sub (get_token_pop w loose mean mg mb rest txt x d pb la st k1 k2 k3 k4 k5 k6 ti q nq nl i line v hq M) (fun p hp => ?_) fun _ _ _ _ _ h h' tk' F N => h h' tk' F fun p hp => N p ?_
  · rcases List.mem_cons.mp hp with rfl | hp
    · exact .head _
    · exact .tail _ ((hR p).mpr hp)
  · rcases List.mem_cons.mp hp with rfl | hp
    · exact .head _
    · exact .tail _ ((hR p).mp hp)
theorem qpush (M : QM w loose mean mg mb x pb R) (q : List Value) (nq : Nat) (v : Str) (tv : Tok) (hq : q.length < 1000) :
    Asks 16 w loose mean mg mb 83 ((pb, W.listOf q.toArray nq) :: R) [.ref x, .str v tv] (fun h₀ L m s Q => ∀ (h' : Heap) (tk' : Nat), Fr h₀ L h' m → News h₀ L h' ((pb, W.listOf (q ++ [Value.str v tv]).toArray (nq + 1)) :: R) → Q .none { s with heap := h', toks := tk' }) := by
  obtain ⟨d, la, st, txt, k1, k2, k3, k4, k5, k6, ti, nl, i, line, rest, M, hR⟩ := M
  refine asks_sub (push_token_spec w loose mean mg mb rest txt x d pb la st k1 k2 k3 k4 k5 k6 ti q nq nl i line v tv hq M) (fun p hp => ?_) fun _ _ _ _ _ h h' tk' F N => h h' tk' F fun p hp => N p ?_
  · rcases List.mem_cons.mp hp with rfl | hp
    · exact .head _
    · exact .tail _ ((hR p).mpr hp)
  · rcases List.mem_cons.mp hp with rfl | hp
    · exact .head _
    · exact .tail _ ((hR p).mp hp)
end
section
variable {w : World} {loose : List Str} {mean : ExcName → Option Value} {mg mb : Str → Option Value}
end
end

section
section
variable {prog : Program} {w : World} {A : Around} {E : Value → Shared → Prop} {s : Shared} {env : Env} {g : Heap}
inductive StartD (g : Heap) (L : Addr) (a c : Int) (n : Nat) (J : Nat → (Str → Option Value) → List (Addr × Obj) → Prop) (s : Shared) (xv : Value) (s₁ : Shared) : Prop
  | mk (r : Addr) (b : Int) (t u v : Tok) (m : Str → Option Value) (nx : List (Addr × Obj)) (h : Heap) (tk : Nat) : xv = .ref r → s₁ = { s with heap := h, toks := tk } → IsRange h r a b c t u v → Builtin.Range.small a b c = true →
      Builtin.Range.rangeSize a b c = (n : Int) → Fr g L h m → News g L h nx → J 0 m nx → StartD g L a c n J s xv s₁
/-- a loop over a range of any step -/
theorem lforStep {x : Str} {px pos : Pos} {iter : Expr} {body : List Stmt} {Q : Flow → Shared → Prop} (a c : Int) (n : Nat)
    (J : Nat → (Str → Option Value) → List (Addr × Obj) → Prop) (hh : A.handled = none) (hx : env.kindOf x = some .local) (hkf : env.scope.kind = .function)
    (h : wpAny (model prog w) A (eval iter env) (fun xv s₁ => Halt (StartD g env.locals a c n J s xv s₁)) E s)
    (turn : ∀ i t m₁ nx h tk I o, i < n → J i m₁ nx → (∀ p ∈ nx, p.1 ≠ I) → Fr g env.locals h (fun y => if y = x then some (.int (a + (i : Nat) * c) t) else m₁ y) → News g env.locals h ((I, o) :: nx) →
      wpAny (model prog w) A (execs body env) (OwitFlow Q (LEnd g env.locals I o J (i + 1) s)) E { s with heap := h, toks := tk })
    (done : ∀ m₁ nx h tk, J n m₁ nx → Fr g env.locals h m₁ → News g env.locals h nx → Q .next { s with heap := h, toks := tk })
    (hs : ∀ x, foldedSetIterable iter env x = pure x := by intro _; rfl) (hE : PassesOwn (model prog w) A env E := by passes_own) :
    wpAny (model prog w) A (exec (.For (.Name x px) iter body [] pos) env) Q E s := by
  refine lfor (n := n) (fp := fun I => [I]) (P := fun i v => ∃ t, v = .int (a + i * c) t) (St := fun I i h => IsRangeIter h I (a + (i : Nat) * c) ((n : Int) - (i : Nat)) c) (keep := []) J hx hkf (fun I _ => Walks.range hh I a c n)
    (fun I i h st => ⟨_, st⟩) (fun I b hb => .inl (List.mem_singleton.mp hb)) (fun _ _ _ _ _ hp => nomatch hp) ?_ (fun i v m₁ nx h tk I o hi hP hJ off F N => ?_) done hs hE
  · refine wpAny_mono h (fun xv s₁ h₁ => ?_) fun _ _ z => z
    obtain ⟨r, b, t, u, v, m, nx, hp, tk, rfl, rfl, hr, hsm, hn, F, N, hJ⟩ := h₁.h
    refine wpAny_pyIter_range hr hsm ?_
    refine ⟨_, m, _, nx, _, tk, rfl, rfl, F.push _, N.push F _, fun p hp' => Nat.ne_of_lt (Heap.lt_size (N p hp').1), ?_, hJ⟩
    show IsRangeIter _ _ _ _ _
    rw [hn]
    simpa using Heap.get?_push_size _ rfl
  · obtain ⟨t, rfl⟩ := hP
    exact turn i t m₁ nx h tk I o hi hJ off F N
theorem allObj_mono {ws : List (Addr × String)} : ∀ {k k' : List (Addr × Obj) → Prop}, (∀ its, k its → k' its) → AllObj ws k → AllObj ws k' := by
  induction ws with
  | nil => exact fun h x => h _ x
  | cons w r ih => exact fun h x o ho => ih (fun its => h _) (x o ho)
/-- a loop over given items by an invariant -/
theorem itemsInv {target : Expr} {body : List Stmt} {Q : Flow → Shared → Prop} {ws : List (Addr × String)} {keep : List (Addr × Obj)} (J : Nat → (Str → Option Value) → List (Addr × Obj) → Prop) (xs : List Itm)
    (turn : ∀ i a m news, xs[i]? = some a → J i m news → ∀ v h tk, a.Is v h → Fr g env.locals h m → AllObj ws (fun its => News g env.locals h (its ++ news) →
      wpAny (model prog w) A (assign target env v) (fun _ s₂ => wpAny (model prog w) A (execs body env) (UnrPostW g env.locals { s with heap := h, toks := tk } its (fun m' n' => SubL keep n' ∧ J (i + 1) m' n') Q) E s₂) E { s with heap := h, toks := tk }))
    (done : ∀ m news, J xs.length m news → ∀ h tk, Fr g env.locals h m → News g env.locals h news → Q .next { s with heap := h, toks := tk }) :
    ∀ (k i : Nat), xs.length - i = k → i ≤ xs.length → ∀ m news, J i m news → ItemsRest prog w A E g env target body Q s ws keep (xs.drop i) m news
  | 0, i, hk, hi, m, news, hJ => by
    have : i = xs.length := Nat.le_antisymm hi (Nat.le_of_sub_eq_zero hk)
    subst this
    rw [List.drop_length]
    exact done m news hJ
  | k + 1, i, hk, hi, m, news, hJ => by
    have hlt : i < xs.length := Nat.lt_of_sub_eq_succ hk
    rw [List.drop_eq_getElem_cons hlt]
    intro v h tk hv F
    refine allObj_mono (fun its hits N => ?_) (turn i xs[i] m news (List.getElem?_eq_getElem hlt) hJ v h tk hv F)
    refine wpAny_mono (hits N) (fun _ s₂ h₂ => wpAny_mono h₂ (fun f s₃ h₃ => ?_) fun _ _ e => e) fun _ _ e => e
    have fin : UnrEndW g env.locals { s with heap := h, toks := tk } its (fun m' n' => SubL keep n' ∧ J (i + 1) m' n') s₃ → UnrEndW g env.locals { s with heap := h, toks := tk } its (fun m' n' => SubL keep n' ∧ ItemsRest prog w A E g env target body Q s ws keep (xs.drop (i + 1)) m' n') s₃ := by
      rintro ⟨h', tk', m', n', e, F', N', off, hs, hJ'⟩
      exact ⟨h', tk', m', n', e, F', N', off, hs, itemsInv J xs turn done k (i + 1) (Nat.succ.inj ((Nat.succ_pred_eq_of_pos (Nat.sub_pos_of_lt hlt)).trans hk)) hlt m' n' hJ'⟩
    cases f with
    | ret v => exact h₃
    | brk => exact h₃
    | cont => exact fin h₃
    | next => exact fin h₃
end
theorem mulOk {x : Int} (h : x.natAbs ≤ 7) (b : Int) : IntMulOk x b := .of_left (intBits_le_iff.mpr (Nat.lt_of_le_of_lt h (by decide)))
theorem ov4s (a b c d : Str) (M : Str → Option Value) {v1 v2 v3 v4 : Option Value} (h1 : M a = v1) (h2 : M b = v2) (h3 : M c = v3) (h4 : M d = v4) : M = ov1 a (ov1 b (ov1 c (ov1 d M v4) v3) v2) v1 := by
  subst h1; subst h2; subst h3; subst h4
  rw [← ov1_self d M, ← ov1_self c M, ← ov1_self b M, ← ov1_self a M]
theorem ov6s (a b c d e f : Str) (M : Str → Option Value) {v1 v2 v3 v4 v5 v6 : Option Value} (h1 : M a = v1) (h2 : M b = v2) (h3 : M c = v3) (h4 : M d = v4) (h5 : M e = v5) (h6 : M f = v6) : M = ov1 a (ov1 b (ov1 c (ov1 d (ov1 e (ov1 f M v6) v5) v4) v3) v2) v1 := by
  subst h1; subst h2; subst h3; subst h4; subst h5; subst h6
  rw [← ov1_self f M, ← ov1_self e M, ← ov1_self d M, ← ov1_self c M, ← ov1_self b M, ← ov1_self a M]
theorem mulOkR {x : Int} (h : x.natAbs ≤ 7) (b : Int) : IntMulOk b x := .of_right (intBits_le_iff.mpr (Nat.lt_of_le_of_lt h (by decide)))
end

section
/-- the table of code records, ahead of a lambda's first making and after it -/
inductive TabX (P : Addr) (ps : Array Value) (pos : Pos) (qual : Str) (R : List (Addr × Obj)) : List (Addr × Obj) → Prop
  | fresh : TabX P ps pos qual R [(P, tabObj ps)]
  | hit (c' : Addr) (oc : Obj) (vs : Array Value) (t : Tok) : oc.data = .fields vs → vs[1]? = some (.str qual t) → c' ≠ P → (∀ p ∈ R, p.1 ≠ c') → TabX P ps pos qual R [(c', oc), (P, tabObj (ps ++ #[rawInt pos.line, rawInt pos.col, .ref c']))]
section
variable {M : Model} {A : Around} {E : Value → Shared → Prop} {s : Shared} {h₀ : Heap} {L a c P : Addr} {m mg mb : Str → Option Value} {cn : Str} {cs : Scope} {ccd : Value} {cl : List (Str × Addr)}
  {p : Program} {loose : List Str} {mean : ExcName → Option Value} {name qual : Str} {params : Arguments} {body : Expr} {scope : Scope} {ps : Array Value} {pos : Pos} {firstLine : Nat} {clos : List (Str × Addr)}
/-- a lambda is made, for the first time or again -/
theorem lam_any {Q : Value → Shared → Prop} {X R : List (Addr × Obj)} {I : Addr} {o : Obj} (F : Fr h₀ L s.heap m) (N : News h₀ L s.heap ((I, o) :: (X ++ R))) (T : Top p loose mean mg mb h₀) (C : CodeHd h₀ c P) (hcd : ccd = .ref c)
    (hX : TabX P ps pos qual R X) (hI : ∀ q ∈ X ++ R, q.1 ≠ I) (hR : ∀ q ∈ R, q.1 ≠ P) (ht : TriplesOk ps.toList) (hnf : codeAmong pos ps.toList = none)
    (hcl : closureFor scope (envX cn cs L a ccd cl) = pure clos)
    (h : ∀ f c' oc vs t ctv h' tk, Fr h₀ L h' m →
      News h₀ L h' ((f, kla_obj name qual params body scope clos ((mg "__name__").getD .none) c' ctv) :: (c', oc) :: (P, tabObj (ps ++ #[rawInt pos.line, rawInt pos.col, .ref c'])) :: (I, o) :: R) →
      oc.data = .fields vs → vs[1]? = some (.str qual t) → c' ≠ P → c' ≠ I → (∀ q ∈ R, q.1 ≠ c') → f ≠ c' → f ≠ P → f ≠ I → (∀ q ∈ R, q.1 ≠ f) → Q (.ref f) { s with heap := h', toks := tk }) :
    wpAny M A (makeFunction name qual params (.expr body) scope (envX cn cs L a ccd cl) [] [] [] pos firstLine) Q E s := by
  cases hX with
  | fresh =>
    have hPI := hI _ (.head _)
    refine kla_nest F N T C hcd (UpdF.tail (Ne.symm hPI) (UpdF.head hR)) ht hnf hcl ?_
    intro f c' oc vs t ctv h' tk F' N' d1 d2 l1 l2
    have hlt : ∀ q ∈ (I, o) :: ([(P, tabObj ps)] ++ R), q.1 ≠ f := fun q hq => Nat.ne_of_lt (Nat.lt_trans (l1 q hq) l2)
    refine h f c' oc vs t ctv h' tk F' (fun q hq => N' q ?_) d1 d2 (Nat.ne_of_gt (l1 _ (.tail _ (.head _)))) (Nat.ne_of_gt (l1 _ (.head _))) (fun q hq => Nat.ne_of_lt (l1 _ (.tail _ (.tail _ hq)))) (Nat.ne_of_gt l2) (Ne.symm (hlt _ (.tail _ (.head _)))) (Ne.symm (hlt _ (.head _))) (fun q hq => hlt _ (.tail _ (.tail _ hq)))
    simp only [List.mem_cons] at hq ⊢
    rcases hq with hq | hq | hq | hq | hq <;> simp [hq]
  | hit c' oc vs t d1 d2 hcP hcR =>
    have hcI := hI _ (.head _)
    have hPI := hI _ (.tail _ (.head _))
    have e : (ps ++ #[rawInt pos.line, rawInt pos.col, Value.ref c']).toList = ps.toList ++ [rawInt pos.line, rawInt pos.col, .ref c'] := by simp
    refine kla_hit F N T C hcd (ps := ps ++ #[rawInt pos.line, rawInt pos.col, .ref c']) (.tail _ (.tail _ (.head _))) (by rw [e]; exact TriplesOk_snoc _ _ _ _ ht) (by rw [e]; exact codeAmong_snoc _ ht hnf) hcl ?_
    intro f ctv h' tk F' N' l1
    refine h f c' oc vs t ctv h' tk F' (fun q hq => N' q ?_) d1 d2 hcP hcI hcR (Nat.ne_of_gt (l1 _ (.tail _ (.head _)))) (Nat.ne_of_gt (l1 _ (.tail _ (.tail _ (.head _))))) (Nat.ne_of_gt (l1 _ (.head _))) (fun q hq => Nat.ne_of_lt (l1 _ (.tail _ (.tail _ (.tail _ hq)))))
    simp only [List.mem_cons] at hq ⊢
    rcases hq with hq | hq | hq | hq | hq <;> simp [hq]
end
end

section
/-- the coefficients of a polynomial times t less s, `prev` being the coefficient ahead -/
noncomputable def M (s prev : Int) : List Int → List Int
  | [] => [0 - s * prev]
  | c :: cs => (c - s * prev) :: M s c cs
/-- a monic polynomial's coefficients behind the first, by its roots -/
noncomputable def mulT (rs : List Int) : List Int := rs.foldl (fun t r => M r 1 t) []
theorem M_len (s : Int) : ∀ (cs : List Int) (prev : Int), (M s prev cs).length = cs.length + 1
  | [], _ => rfl
  | _ :: cs, _ => congrArg (· + 1) (M_len s cs _)
theorem M_comm (a b : Int) : ∀ (cs : List Int) (pp prev : Int), M b (prev - a * pp) (M a prev cs) = M a (prev - b * pp) (M b prev cs)
  | [], pp, prev => by
    show [_, _] = [_, _]
    have e1 : 0 - a * prev - b * (prev - a * pp) = 0 - b * prev - a * (prev - b * pp) := by grind
    have e2 : 0 - b * (0 - a * prev) = 0 - a * (0 - b * prev) := by grind
    rw [e1, e2]
  | c :: cs, pp, prev => by
    show _ :: _ = _ :: _
    have e1 : c - a * prev - b * (prev - a * pp) = c - b * prev - a * (prev - b * pp) := by grind
    rw [e1, M_comm a b cs prev c]
theorem M_comm1 (a b : Int) (t : List Int) : M b 1 (M a 1 t) = M a 1 (M b 1 t) := by
  have h := M_comm a b t 0 1
  simpa using h
theorem mulT_perm {l l' : List Int} (h : l.Perm l') : mulT l = mulT l' := by
  have : ∀ t, l.foldl (fun t r => M r 1 t) t = l'.foldl (fun t r => M r 1 t) t := by
    induction h with
    | nil => exact fun _ => rfl
    | cons _ _ ih => exact fun t => ih _
    | swap x y l => exact fun t => by rw [List.foldl_cons, List.foldl_cons, List.foldl_cons, List.foldl_cons, M_comm1]
    | trans _ _ h1 h2 => exact fun t => (h1 t).trans (h2 t)
  exact this []
/-- changes of sign behind a last sign -/
noncomputable def vc (b : Bool) : List Int → Nat
  | [] => 0
  | c :: cs => if c = 0 then vc b cs else (if decide (0 < c) = b then 0 else 1) + vc (decide (0 < c)) cs
theorem vc_0 {b : Bool} {c : Int} {cs : List Int} (h : c = 0) : vc b (c :: cs) = vc b cs := if_pos h
theorem vc_p {b : Bool} {c : Int} {cs : List Int} (h : 0 < c) : vc b (c :: cs) = (if b = true then 0 else 1) + vc true cs := by
  have h1 : c ≠ 0 := by omega
  have h2 : decide (0 < c) = true := decide_eq_true h
  show (if c = 0 then _ else _) = _
  rw [if_neg h1, h2]
  cases b <;> rfl
theorem vc_n {b : Bool} {c : Int} {cs : List Int} (h : c < 0) : vc b (c :: cs) = (if b = true then 1 else 0) + vc false cs := by
  have h1 : c ≠ 0 := by omega
  have h2 : decide (0 < c) = false := decide_eq_false (by omega)
  show (if c = 0 then _ else _) = _
  rw [if_neg h1, h2]
  cases b <;> rfl
theorem bd1 : ∀ lq lp : Bool, (if lp = true then 0 else 1) + (if lq = lp then 1 else 0) ≤ (if lq = true then 0 else 1) + 1 := by decide
theorem bd0 : ∀ lq lp : Bool, (if lp = true then 1 else 0) + (if lq = lp then 1 else 0) ≤ (if lq = true then 1 else 0) + 1 := by decide
theorem add3 {a b c v w : Nat} (h : a + b ≤ c + 1) (h2 : v + 1 ≤ w) : a + v + b ≤ c + w :=
  calc a + v + b = a + b + v := Nat.add_right_comm a v b
    _ ≤ c + 1 + v := Nat.add_le_add_right h v
    _ = c + (v + 1) := by rw [Nat.add_assoc, Nat.add_comm 1 v]
    _ ≤ c + w := Nat.add_le_add_left h2 c
/-- a root above nought: one change more -/
theorem lb (s : Int) (hs : 0 < s) : ∀ (cs : List Int) (lq lp : Bool) (prev : Int), (0 < prev → lp = true) → (prev < 0 → lp = false) → (lq = lp → prev ≠ 0) →
    vc lp cs + (if lq = lp then 1 else 0) ≤ vc lq (M s prev cs)
  | [], lq, lp, prev, h1, h2, h3 => by
    show 0 + _ ≤ vc lq [0 - s * prev]
    by_cases e : lq = lp
    · rcases Int.lt_trichotomy prev 0 with h | h | h
      · have := Int.mul_neg_of_pos_of_neg hs h
        rw [vc_p (Int.sub_pos_of_lt this), e, h2 h]; exact Nat.le_refl _
      · exact absurd h (h3 e)
      · have := Int.mul_pos hs h
        rw [vc_n (Int.sub_neg_of_lt this), e, h1 h]; exact Nat.le_refl _
    · rw [if_neg e]; exact Nat.zero_le _
  | c :: cs, lq, lp, prev, h1, h2, h3 => by
    show _ ≤ vc lq ((c - s * prev) :: M s c cs)
    have xp : 0 < s * prev → lp = true := fun hx => h1 (Int.pos_of_mul_pos_left (by rw [Int.mul_comm]; exact hx) hs)
    have xn : s * prev < 0 → lp = false := fun hx => h2 (by
      rcases Int.lt_trichotomy prev 0 with h | h | h
      · exact h
      · rw [h, Int.mul_zero] at hx; exact absurd hx (Int.lt_irrefl _)
      · exact absurd (Int.lt_trans hx (Int.mul_pos hs h)) (Int.lt_irrefl _))
    have x0 : s * prev = 0 → prev = 0 := fun hx => by
      rcases Int.mul_eq_zero.mp hx with h | h
      · exact absurd h (Int.ne_of_gt hs)
      · exact h
    generalize s * prev = x at *
    have ih := lb s hs cs
    rcases Int.lt_trichotomy c 0 with h | h | h
    · have a1 := ih true false c (fun z => absurd (Int.lt_trans h z) (Int.lt_irrefl _)) (fun _ => rfl) (fun z => by cases z)
      have a2 := ih false false c (fun z => absurd (Int.lt_trans h z) (Int.lt_irrefl _)) (fun _ => rfl) (fun z => Int.ne_of_lt h)
      rw [vc_n h]
      rcases Int.lt_trichotomy (c - x) 0 with k | k | k
      · rw [vc_n k]; exact add3 (bd0 lq lp) a2
      · rw [vc_0 k, xn (by rw [← Int.sub_eq_zero.mp k]; exact h)]
        cases lq
        · simpa using a2
        · simpa using a1
      · rw [vc_p k, xn (Int.lt_trans (Int.lt_of_sub_pos k) h)]
        cases lq
        · simpa [Nat.add_comm] using a1
        · simpa using a1
    · have q0 : c - x = -x := by rw [h, Int.zero_sub]
      rw [vc_0 h, q0]
      rcases Int.lt_trichotomy x 0 with k | k | k
      · have hp := xn k
        have a1 := ih true lp c (fun z => absurd h (Int.ne_of_gt z)) (fun z => absurd h (Int.ne_of_lt z)) (fun z => by rw [hp] at z; cases z)
        rw [vc_p (Int.neg_pos_of_neg k)]
        rw [hp] at a1 ⊢
        cases lq
        · simpa [Nat.add_comm] using a1
        · simpa using a1
      · have hq : lq ≠ lp := fun z => h3 z (x0 k)
        have a1 := ih lq lp c (fun z => absurd h (Int.ne_of_gt z)) (fun z => absurd h (Int.ne_of_lt z)) (fun z => absurd z hq)
        rw [vc_0 (by rw [k]; rfl)]
        exact a1
      · have hp := xp k
        have a1 := ih false lp c (fun z => absurd h (Int.ne_of_gt z)) (fun z => absurd h (Int.ne_of_lt z)) (fun z => by rw [hp] at z; cases z)
        rw [vc_n (Int.neg_neg_of_pos k)]
        rw [hp] at a1 ⊢
        cases lq
        · simpa using a1
        · simpa [Nat.add_comm] using a1
    · have a1 := ih true true c (fun z => rfl) (fun z => absurd (Int.lt_trans h z) (Int.lt_irrefl _)) (fun z => Int.ne_of_gt h)
      have a2 := ih false true c (fun z => rfl) (fun z => absurd (Int.lt_trans h z) (Int.lt_irrefl _)) (fun z => by cases z)
      rw [vc_p h]
      rcases Int.lt_trichotomy (c - x) 0 with k | k | k
      · rw [vc_n k, xp (Int.lt_trans h (Int.lt_of_sub_neg k))]
        cases lq
        · simpa using a2
        · simpa [Nat.add_comm] using a2
      · rw [vc_0 k, xp (by rw [← Int.sub_eq_zero.mp k]; exact h)]
        cases lq
        · simpa using a2
        · simpa using a1
      · rw [vc_p k]; exact add3 (bd1 lq lp) a1
end

section
theorem mulT_append (a b : List Int) : mulT (a ++ b) = b.foldl (fun t r => M r 1 t) (mulT a) := List.foldl_append
theorem vc_grow : ∀ (ps : List Int) (t : List Int), (∀ r ∈ ps, 0 < r) → vc true t + ps.length ≤ vc true (ps.foldl (fun t r => M r 1 t) t)
  | [], t, _ => Nat.le_refl _
  | r :: ps, t, h => by
    have h1 := lb r (h r (.head _)) t true true 1 (fun _ => rfl) (fun z => by omega) (fun _ => by omega)
    have h2 := vc_grow ps (M r 1 t) (fun r hr => h r (.tail _ hr))
    rw [List.foldl_cons, List.length_cons]
    simp at h1
    omega
theorem vc_pos (rs : List Int) : rs.countP (fun r => decide (0 < r)) ≤ vc true (mulT rs) := by
  have hp : (rs.filter (fun r => !decide (0 < r)) ++ rs.filter (fun r => decide (0 < r))).Perm rs :=
    (List.perm_append_comm).trans (List.filter_append_perm _ _)
  rw [← mulT_perm hp, mulT_append, List.countP_eq_length_filter]
  have := vc_grow (rs.filter (fun r => decide (0 < r))) (mulT (rs.filter (fun r => !decide (0 < r)))) (fun r hr => by simpa using (List.mem_filter.mp hr).2)
  omega
/-- the coefficients at the negative of the variable -/
noncomputable def alt : Bool → List Int → List Int
  | _, [] => []
  | e, c :: cs => (if e then -c else c) :: alt (!e) cs
theorem alt_M (s : Int) : ∀ (cs : List Int) (e : Bool) (prev : Int), alt e (M s prev cs) = M (-s) (if e then prev else -prev) (alt e cs)
  | [], e, prev => by
    cases e
    · show [0 - s * prev] = [0 - -s * -prev]; rw [Int.neg_mul_neg]
    · show [-(0 - s * prev)] = [0 - -s * prev]; congr 1; rw [Int.neg_mul]; omega
  | c :: cs, e, prev => by
    have ih := alt_M s cs (!e) c
    cases e
    · show (c - s * prev) :: alt true (M s c cs) = (c - -s * -prev) :: M (-s) c (alt true cs)
      rw [Int.neg_mul_neg]; exact congrArg _ ih
    · show -(c - s * prev) :: alt false (M s c cs) = (-c - -s * prev) :: M (-s) (-c) (alt false cs)
      have : -(c - s * prev) = -c - -s * prev := by rw [Int.neg_mul]; omega
      rw [this]; exact congrArg _ ih
theorem alt_mul : ∀ (rs : List Int) (t : List Int), alt true (rs.foldl (fun t r => M r 1 t) t) = (rs.map (fun r => -r)).foldl (fun t r => M r 1 t) (alt true t)
  | [], _ => rfl
  | r :: rs, t => by
    rw [List.foldl_cons, alt_mul rs, List.map_cons, List.foldl_cons, alt_M]; rfl
theorem vc_neg (rs : List Int) : rs.countP (fun r => decide (r < 0)) ≤ vc true (alt true (mulT rs)) := by
  have h := vc_pos (rs.map (fun r => -r))
  have e : alt true (mulT rs) = mulT (rs.map (fun r => -r)) := alt_mul rs []
  rw [e]
  refine Nat.le_trans (Nat.le_of_eq ?_) h
  rw [List.countP_map]
  refine List.countP_congr fun r _ => ?_
  simp
/-- where the last one stands that is not nought -/
noncomputable def dz : List Int → Nat
  | [] => 0
  | c :: cs => if dz cs = 0 ∧ c = 0 then 0 else dz cs + 1
theorem dz_cons (c : Int) (cs : List Int) : dz (c :: cs) = if dz cs = 0 ∧ c = 0 then 0 else dz cs + 1 := rfl
theorem vc_dz0 : ∀ (cs : List Int) (b : Bool), dz cs = 0 → vc b cs = 0
  | [], _, _ => rfl
  | c :: cs, b, h => by
    unfold dz at h
    split at h
    case isTrue h1 => rw [vc_0 h1.2]; exact vc_dz0 cs b h1.1
    case isFalse => omega
theorem alt_dz : ∀ (cs : List Int) (e : Bool), dz (alt e cs) = dz cs
  | [], _ => rfl
  | c :: cs, e => by
    have h : (if e then -c else c) = 0 ↔ c = 0 := by cases e <;> simp
    show (if dz (alt (!e) cs) = 0 ∧ (if e then -c else c) = 0 then 0 else dz (alt (!e) cs) + 1) = _
    rw [alt_dz cs (!e)]
    rw [dz_cons]
    simp only [h]
theorem vc_c {b : Bool} {c : Int} {cs : List Int} (h : c ≠ 0) : vc b (c :: cs) = (if decide (0 < c) = b then 0 else 1) + vc (decide (0 < c)) cs := if_neg h
theorem sg_alt {c : Int} (h : c ≠ 0) (e : Bool) : decide (0 < (if e then -c else c)) = (decide (0 < c) ^^ e) := by
  cases e
  · simp
  · rcases Int.lt_trichotomy c 0 with k | k | k
    · rw [if_pos rfl, decide_eq_true (Int.neg_pos_of_neg k), decide_eq_false (Int.lt_asymm k)]; rfl
    · exact absurd k h
    · rw [if_pos rfl, decide_eq_false (Int.lt_asymm (Int.neg_neg_of_pos k)), decide_eq_true k]; rfl
theorem bd2 : ∀ s b b' e : Bool, (if s = b then 0 else 1) + (if (s ^^ e) = b' then 0 else 1) ≤ 1 + (if (b' ^^ e) = b then 1 else 0) := by decide
theorem bd3 : ∀ s e : Bool, ¬ ((s ^^ e) ^^ !e) = s := by decide
theorem add4 {p q r u v d : Nat} (h : p + q ≤ 1 + r) (h2 : u + v ≤ d) : p + u + (q + v) ≤ d + 1 + r :=
  calc p + u + (q + v) = p + q + (u + v) := Nat.add_add_add_comm p u q v
    _ ≤ 1 + r + d := Nat.add_le_add h h2
    _ = d + 1 + r := by rw [Nat.add_comm (1 + r) d, Nat.add_assoc]
theorem one_le (p q : Prop) [Decidable p] [Decidable q] : (if p then 1 else 0) ≤ 1 + (if q then 1 else 0 : Nat) := by
  split
  · exact Nat.le_add_right _ _
  · exact Nat.zero_le _
theorem ub : ∀ (cs : List Int) (b b' e : Bool), vc b cs + vc b' (alt e cs) ≤ dz cs + (if (b' ^^ e) = b then 1 else 0)
  | [], b, b', e => Nat.zero_le _
  | c :: cs, b, b', e => by
    by_cases hz : dz (c :: cs) = 0
    · rw [vc_dz0 _ _ hz, vc_dz0 _ _ ((alt_dz _ _).trans hz)]; exact Nat.zero_le _
    have hd : dz (c :: cs) = dz cs + 1 := by
      rw [dz_cons] at hz ⊢
      split at hz
      case isTrue => exact absurd rfl hz
      case isFalse h1 => rw [if_neg h1]
    rw [hd]
    show vc b (c :: cs) + vc b' ((if e then -c else c) :: alt (!e) cs) ≤ _
    by_cases h : c = 0
    · have h' : (if e then -c else c) = 0 := by rw [h]; cases e <;> rfl
      rw [vc_0 h, vc_0 h', Nat.add_assoc]
      exact Nat.le_trans (ub cs b b' (!e)) (Nat.add_le_add_left (one_le _ _) _)
    · have h' : (if e then -c else c) ≠ 0 := by
        cases e
        · exact h
        · exact Int.neg_ne_zero.mpr h
      have ih := ub cs (decide (0 < c)) (decide (0 < c) ^^ e) (!e)
      rw [if_neg (bd3 _ _)] at ih
      rw [vc_c h, vc_c h', sg_alt h]
      exact add4 (bd2 _ _ _ _) ih
theorem M_0 : ∀ (cs : List Int) (prev : Int), M 0 prev cs = cs ++ [0]
  | [], prev => by show [0 - 0 * prev] = [0]; rw [Int.zero_mul]; rfl
  | c :: cs, prev => by
    show (c - 0 * prev) :: M 0 c cs = _
    rw [M_0 cs c, Int.zero_mul]; simp
theorem dz_app0 : ∀ (t : List Int), dz (t ++ [0]) = dz t
  | [] => rfl
  | c :: cs => by
    show (if dz (cs ++ [0]) = 0 ∧ c = 0 then 0 else dz (cs ++ [0]) + 1) = _
    rw [dz_app0 cs]; rfl
theorem dz_zeros : ∀ (zs : List Int) (t : List Int), (∀ r ∈ zs, r = 0) → dz (zs.foldl (fun t r => M r 1 t) t) = dz t
  | [], _, _ => rfl
  | z :: zs, t, h => by
    rw [List.foldl_cons, h z (.head _), dz_zeros zs _ (fun r hr => h r (.tail _ hr)), M_0, dz_app0]
theorem dz_le : ∀ (t : List Int), dz t ≤ t.length
  | [] => Nat.le_refl _
  | c :: cs => by
    have := dz_le cs
    unfold dz
    split <;> simp <;> omega
theorem mulT_len' : ∀ (rs t : List Int), (rs.foldl (fun t r => M r 1 t) t).length = t.length + rs.length
  | [], _ => rfl
  | r :: rs, t => by rw [List.foldl_cons, mulT_len' rs, M_len, List.length_cons]; omega
theorem mulT_len (rs : List Int) : (mulT rs).length = rs.length := by rw [mulT, mulT_len']; exact Nat.zero_add _
theorem dz_mul (rs : List Int) : dz (mulT rs) ≤ rs.countP (fun r => !decide (r = 0)) := by
  have hp : (rs.filter (fun r => !decide (r = 0)) ++ rs.filter (fun r => decide (r = 0))).Perm rs :=
    (List.perm_append_comm).trans (List.filter_append_perm _ _)
  rw [← mulT_perm hp, mulT_append, dz_zeros _ _ (fun r hr => by simpa using (List.mem_filter.mp hr).2), List.countP_eq_length_filter]
  refine Nat.le_trans (dz_le _) (Nat.le_of_eq (mulT_len _))
theorem counts (rs : List Int) : rs.countP (fun r => !decide (r = 0)) = rs.countP (fun r => decide (0 < r)) + rs.countP (fun r => decide (r < 0)) := by
  induction rs with
  | nil => rfl
  | cons r rs ih =>
    rw [List.countP_cons, List.countP_cons, List.countP_cons, ih]
    rcases Int.lt_trichotomy r 0 with h | h | h
    · have h1 : ¬ r = 0 := by omega
      have h2 : ¬ 0 < r := by omega
      simp [h, h1, h2]; omega
    · simp [h]
    · have h1 : ¬ r = 0 := by omega
      have h2 : ¬ r < 0 := by omega
      simp [h, h1, h2]; omega
/-- Descartes, all roots being real -/
theorem descartes (rs : List Int) : vc true (mulT rs) = rs.countP (fun r => decide (0 < r)) ∧ dz (mulT rs) = rs.countP (fun r => !decide (r = 0)) := by
  have h1 := vc_pos rs
  have h2 := vc_neg rs
  have h3 := ub (mulT rs) true true true
  have h4 := dz_mul rs
  have h5 := counts rs
  simp at h3
  omega
end

section
/-- one step of the moving -/
noncomputable def mvS (x : Int) (l : List Int) (k : Nat) : List Int := l.set k (l.getD k 0 + x * l.getD (k - 1) 0)
/-- the inner loop after j steps -/
noncomputable def mvI (x : Int) (l : List Int) : Nat → List Int
  | 0 => l
  | j + 1 => mvS x (mvI x l j) (j + 1)
/-- the outer loop after i steps, of a list of n -/
noncomputable def mvO (x : Int) (l : List Int) (n : Nat) : Nat → List Int
  | 0 => l
  | i + 1 => mvI x (mvO x l n i) (n - i - 1)
noncomputable def movedL (x : Int) (l : List Int) : List Int := mvO x l l.length (l.length - 1)
theorem mvI_len (x : Int) (l : List Int) : ∀ j, (mvI x l j).length = l.length
  | 0 => rfl
  | j + 1 => (List.length_set ..).trans (mvI_len x l j)
theorem mvO_len (x : Int) (l : List Int) (n : Nat) : ∀ i, (mvO x l n i).length = l.length
  | 0 => rfl
  | i + 1 => (mvI_len ..).trans (mvO_len x l n i)
theorem moved4 (x a b c d : Int) : movedL x (1 :: mulT [a, b, c, d]) = 1 :: mulT [a - x, b - x, c - x, d - x] := by
  simp [movedL, mulT, M, mvO, mvI, mvS]
  refine ⟨?_, ?_, ?_, ?_⟩ <;> grind
theorem moved5 (x a b c d e : Int) : movedL x (1 :: mulT [a, b, c, d, e]) = 1 :: mulT [a - x, b - x, c - x, d - x, e - x] := by
  simp [movedL, mulT, M, mvO, mvI, mvS]
  refine ⟨?_, ?_, ?_, ?_, ?_⟩ <;> grind
/-- one choice's product and size, after k roots -/
noncomputable def chP (rs : List Int) (ch : Nat) : Nat → Int
  | 0 => 1
  | k + 1 => if ch.testBit k then -chP rs ch k * rs.getD k 0 else chP rs ch k
noncomputable def chS (ch : Nat) : Nat → Nat
  | 0 => 0
  | k + 1 => if ch.testBit k then chS ch k + 1 else chS ch k
noncomputable def chL (rs : List Int) : Nat → List Int
  | 0 => List.replicate (rs.length + 1) 0
  | i + 1 => (chL rs i).set (chS i rs.length) ((chL rs i).getD (chS i rs.length) 0 + chP rs i rs.length)
/-- the sum of the products of size s after i choices of n roots -/
noncomputable def gS (rs : List Int) (n : Nat) : Nat → Nat → Int
  | 0, _ => 0
  | i + 1, s => gS rs n i s + if chS i n = s then chP rs i n else 0
theorem chS_le' (ch : Nat) : ∀ k, chS ch k ≤ k
  | 0 => Nat.le_refl _
  | k + 1 => by
    have := chS_le' ch k
    show (if ch.testBit k then chS ch k + 1 else chS ch k) ≤ k + 1
    split <;> omega
theorem chL_len' (rs : List Int) : ∀ i, (chL rs i).length = rs.length + 1
  | 0 => List.length_replicate ..
  | i + 1 => (List.length_set ..).trans (chL_len' rs i)
theorem chL_get (rs : List Int) : ∀ i s, s ≤ rs.length → (chL rs i)[s]? = some (gS rs rs.length i s)
  | 0, s, h => by
    show (List.replicate _ _)[s]? = _
    rw [List.getElem?_replicate_of_lt (Nat.lt_succ_of_le h)]; rfl
  | i + 1, s, h => by
    have hs := chS_le' i rs.length
    show ((chL rs i).set _ _)[s]? = some (_ + _)
    by_cases e : chS i rs.length = s
    · subst e
      rw [List.getElem?_set_self (by rw [chL_len']; omega), if_pos rfl, List.getD_eq_getElem?_getD, chL_get rs i _ h]; rfl
    · rw [List.getElem?_set_ne e, chL_get rs i s h, if_neg e, Int.add_zero]
theorem chP_app (rs : List Int) (r : Int) (ch : Nat) : ∀ k, k ≤ rs.length → chP (rs ++ [r]) ch k = chP rs ch k
  | 0, _ => rfl
  | k + 1, h => by
    have e : (rs ++ [r]).getD k 0 = rs.getD k 0 := by
      rw [List.getD_eq_getElem?_getD, List.getD_eq_getElem?_getD, List.getElem?_append_left h]
    show (if _ then _ else _) = (if _ then _ else _)
    rw [chP_app rs r ch k (Nat.le_of_succ_le h), e]
theorem bit_lo {n c k : Nat} (hk : k < n) : (2 ^ n + c).testBit k = c.testBit k := Nat.testBit_two_pow_add_gt hk c
theorem chP_lo (rs : List Int) {n c : Nat} : ∀ k, k ≤ n → chP rs (2 ^ n + c) k = chP rs c k
  | 0, _ => rfl
  | k + 1, h => by
    show (if _ then _ else _) = (if _ then _ else _)
    rw [chP_lo rs k (Nat.le_of_succ_le h), bit_lo h]
theorem chS_lo {n c : Nat} : ∀ k, k ≤ n → chS (2 ^ n + c) k = chS c k
  | 0, _ => rfl
  | k + 1, h => by
    show (if _ then _ else _) = (if _ then _ else _)
    rw [chS_lo k (Nat.le_of_succ_le h), bit_lo h]
theorem gS_lo (rs : List Int) (r : Int) : ∀ i, i ≤ 2 ^ rs.length → ∀ s, gS (rs ++ [r]) (rs.length + 1) i s = gS rs rs.length i s
  | 0, _, _ => rfl
  | i + 1, h, s => by
    have hb : i.testBit rs.length = false := Nat.testBit_lt_two_pow h
    have e1 : chS i (rs.length + 1) = chS i rs.length := by
      show (if _ then _ else _) = _
      rw [if_neg (by rw [hb]; exact Bool.false_ne_true)]
    have e2 : chP (rs ++ [r]) i (rs.length + 1) = chP rs i rs.length := by
      show (if _ then _ else _) = _
      rw [if_neg (by rw [hb]; exact Bool.false_ne_true), chP_app rs r i _ (Nat.le_refl _)]
    show _ + (if _ then _ else _) = _ + (if _ then _ else _)
    rw [gS_lo rs r i (Nat.le_of_succ_le h) s, e1, e2]
theorem gS_hi (rs : List Int) (r : Int) (s : Nat) : ∀ i, i ≤ 2 ^ rs.length → gS (rs ++ [r]) (rs.length + 1) (2 ^ rs.length + i) s = gS rs rs.length (2 ^ rs.length) s - r * (match s with | 0 => 0 | s + 1 => gS rs rs.length i s)
  | 0, _ => by
    show gS (rs ++ [r]) (rs.length + 1) (2 ^ rs.length) s = _
    rw [gS_lo rs r _ (Nat.le_refl _)]
    cases s <;> simp [gS]
  | i + 1, h => by
    have hb : (2 ^ rs.length + i).testBit rs.length = true := by
      rw [Nat.testBit_two_pow_add_eq, Nat.testBit_lt_two_pow h]; rfl
    have e1 : chS (2 ^ rs.length + i) (rs.length + 1) = chS i rs.length + 1 := by
      show (if _ then _ else _) = _
      rw [if_pos hb, chS_lo _ (Nat.le_refl _)]
    have e2 : chP (rs ++ [r]) (2 ^ rs.length + i) (rs.length + 1) = -chP rs i rs.length * r := by
      have e3 : (rs ++ [r]).getD rs.length 0 = r := by simp [List.getD_eq_getElem?_getD]
      show (if _ then _ else _) = _
      rw [if_pos hb, chP_app rs r _ _ (Nat.le_refl _), chP_lo rs _ (Nat.le_refl _), e3]
    show gS (rs ++ [r]) (rs.length + 1) (2 ^ rs.length + i) s + (if chS (2 ^ rs.length + i) (rs.length + 1) = s then chP (rs ++ [r]) (2 ^ rs.length + i) (rs.length + 1) else 0) = _
    rw [gS_hi rs r s i (Nat.le_of_succ_le h), e1, e2]
    cases s with
    | zero => rw [if_neg (Nat.succ_ne_zero _)]; simp
    | succ s =>
      show _ - r * gS rs rs.length i s + _ = _ - r * (gS rs rs.length i s + (if _ then _ else _))
      by_cases e : chS i rs.length = s
      · rw [if_pos (congrArg (· + 1) e), if_pos e]; grind
      · rw [if_neg (fun z => e (Nat.succ.inj z)), if_neg e]; simp
theorem M_get0 (s : Int) : ∀ (cs : List Int) (prev : Int) (k : Nat), k ≤ cs.length → (M s prev cs)[k]? = some ((cs ++ [0]).getD k 0 - s * (prev :: cs).getD k 0)
  | [], prev, 0, _ => rfl
  | c :: cs, prev, 0, _ => rfl
  | c :: cs, prev, k + 1, h => M_get0 s cs c k (Nat.le_of_succ_le_succ h)
theorem choices_snoc (rs : List Int) (r : Int) : chL (rs ++ [r]) (2 ^ (rs ++ [r]).length) = M r 0 (chL rs (2 ^ rs.length)) := by
  have hl : (rs ++ [r]).length = rs.length + 1 := by simp
  apply List.ext_getElem?
  intro s
  rcases Nat.lt_or_ge s (rs.length + 2) with h | h
  · rw [chL_get _ _ s (by rw [hl]; omega), M_get0 _ _ _ _ (by rw [chL_len']; omega), hl, Nat.pow_succ, Nat.mul_two, gS_hi rs r s _ (Nat.le_refl _)]
    congr 2
    · rcases Nat.lt_or_ge s (rs.length + 1) with h2 | h2
      · rw [List.getD_eq_getElem?_getD, List.getElem?_append_left (by rw [chL_len']; exact h2), chL_get _ _ s (Nat.le_of_lt_succ h2)]; rfl
      · have : s = rs.length + 1 := by omega
        subst this
        have e : ∀ i, gS rs rs.length i (rs.length + 1) = 0 := by
          intro i
          induction i with
          | zero => rfl
          | succ i ih =>
            have := chS_le' i rs.length
            show _ + (if _ then _ else _) = _
            rw [ih, if_neg (by omega)]; rfl
        rw [e, List.getD_eq_getElem?_getD, List.getElem?_append_right (by rw [chL_len']; exact Nat.le_refl _), chL_len', Nat.sub_self]; rfl
    · congr 1
      cases s with
      | zero => rfl
      | succ s =>
        show gS _ _ _ s = (chL rs _).getD s 0
        rw [List.getD_eq_getElem?_getD, chL_get _ _ s (by omega)]; rfl
  · rw [List.getElem?_eq_none (by rw [chL_len', hl]; exact h), List.getElem?_eq_none (by rw [M_len, chL_len']; exact h)]
/-- Vieta -/
theorem choices_all : ∀ (n : Nat) (rs : List Int), rs.length = n → chL rs (2 ^ rs.length) = 1 :: mulT rs
  | 0, rs, h => by
    obtain rfl := List.eq_nil_of_length_eq_zero h
    rfl
  | n + 1, rs, h => by
    have hne : rs ≠ [] := fun e => by rw [e] at h; cases h
    rw [← List.dropLast_concat_getLast hne]
    have ih := choices_all n rs.dropLast (by rw [List.length_dropLast, h]; rfl)
    rw [choices_snoc, ih]
    show (1 - _ * 0) :: M _ 1 _ = 1 :: mulT (_ ++ [_])
    rw [mulT_append, Int.mul_zero]; rfl
end

section
theorem getD_lt {l : List Int} {i : Nat} (h : i < l.length) : l.getD i 0 = l[i] := by rw [List.getD_eq_getElem?_getD, List.getElem?_eq_getElem h]; rfl
/-- how many roots are at most x -/
noncomputable def leN (rs : List Int) (x : Int) : Nat := rs.countP fun r => decide (r ≤ x)
/-- the keys of the numbers from -7 to 7 -/
noncomputable def keysL (rs : List Int) : List Int := (List.range 15).map fun (i : Nat) => ((leN rs ((i : Int) - 7) : Nat) : Int)
theorem leN_mono (rs : List Int) {x y : Int} (h : x ≤ y) : leN rs x ≤ leN rs y :=
  List.countP_mono_left fun r _ hr => by
    have := of_decide_eq_true hr
    exact decide_eq_true (by omega)
theorem keys_sorted (rs : List Int) : (keysL rs).Pairwise (· ≤ ·) := by
  unfold keysL
  rw [List.pairwise_map]
  refine List.Pairwise.imp ?_ List.pairwise_lt_range
  intro a b h
  have := leN_mono rs (x := (a : Int) - 7) (y := (b : Int) - 7) (by omega)
  omega
/-- in a sorted list the k-th is above x just where at most k are not -/
theorem leN_sorted (x : Int) : ∀ (S : List Int), S.Pairwise (· ≤ ·) → ∀ k, k < S.length → (leN S x ≤ k ↔ x < S.getD k 0)
  | [], _, k, h => absurd h (Nat.not_lt_zero _)
  | a :: S, hS, 0, _ => by
    show leN (a :: S) x ≤ 0 ↔ x < a
    have ha := (List.pairwise_cons.mp hS).1
    constructor
    · intro h
      unfold leN at h
      have := List.countP_eq_zero.mp (Nat.le_zero.mp h) a (.head _)
      simp at this; exact this
    · intro h
      refine Nat.le_of_eq (List.countP_eq_zero.mpr fun r hr => ?_)
      rcases List.mem_cons.mp hr with rfl | hr
      · simp; omega
      · have := ha r hr
        simp; omega
  | a :: S, hS, k + 1, hk => by
    have ih := leN_sorted x S (List.pairwise_cons.mp hS).2 k (by simpa using hk)
    have ha := (List.pairwise_cons.mp hS).1
    show (a :: S).countP _ ≤ k + 1 ↔ x < S.getD k 0
    rw [List.countP_cons]
    have hk' : k < S.length := by simpa using hk
    by_cases h : a ≤ x
    · rw [if_pos (by simpa using h)]
      show leN S x + 1 ≤ k + 1 ↔ _
      omega
    · rw [if_neg (by simpa using h)]
      have h1 : x < S.getD k 0 := by
        rw [getD_lt hk']
        have := ha _ (List.getElem_mem hk')
        omega
      have h2 : leN S x ≤ k := ih.mpr h1
      unfold leN at h2
      constructor
      · exact fun _ => h1
      · intro _; omega
theorem count_below (m n : Nat) (h : m ≤ n) : (List.range n).countP (fun i => decide (i < m)) = m := by
  induction n with
  | zero => have : m = 0 := by omega
            subst this; rfl
  | succ n ih =>
    rw [List.range_succ, List.countP_append]
    by_cases e : m = n + 1
    · subst e
      have h1 : (List.range n).countP (fun i => decide (i < n + 1)) = n := by
        rw [List.countP_eq_length.mpr (fun a ha => by have := List.mem_range.mp ha; simp; omega), List.length_range]
      rw [h1]; simp
    · rw [ih (by omega)]
      have : ¬ n < m := by omega
      simp [this]
theorem leN_perm {a b : List Int} (h : a.Perm b) (x : Int) : leN a x = leN b x := h.countP_eq _
/-- the place that halving finds: the k-th root plus 7 -/
theorem place_at {rs S : List Int} (hp : S.Perm rs) (hs : S.Pairwise (· ≤ ·)) (hb : ∀ r ∈ rs, -7 ≤ r ∧ r ≤ 7) {k : Nat} (hk : k < S.length) :
    ((cntLe (k : Int) (keysL rs) : Nat) : Int) = S.getD k 0 + 7 := by
  have hm : S.getD k 0 ∈ S := by rw [getD_lt hk]; exact List.getElem_mem hk
  have h7 := hb _ (hp.mem_iff.mp hm)
  unfold cntLe keysL
  rw [List.countP_map]
  have e : (List.range 15).countP ((fun a => decide (a ≤ (k : Int))) ∘ fun (i : Nat) => ((leN rs ((i : Int) - 7) : Nat) : Int)) = (List.range 15).countP (fun i => decide (i < (S.getD k 0 + 7).toNat)) := by
    refine List.countP_congr fun i hi => ?_
    have := leN_sorted ((i : Int) - 7) S hs k hk
    rw [leN_perm hp] at this
    simp only [Function.comp, decide_eq_true_eq]
    constructor
    · intro h; have := this.mp (by omega); omega
    · intro h; have := this.mpr (by omega); omega
  rw [e, count_below _ _ (by omega)]
  omega
theorem if_split (a x : Int) : (if decide (a ≤ x) = true then 1 else 0 : Nat) = (if decide (a < x) = true then 1 else 0) + (if decide (a - x = 0) = true then 1 else 0) := by
  rcases Int.lt_trichotomy a x with h | h | h
  · rw [decide_eq_true (Int.le_of_lt h), decide_eq_true h, decide_eq_false (fun z => Int.ne_of_lt h (Int.sub_eq_zero.mp z))]; rfl
  · rw [decide_eq_true (Int.le_of_eq h), decide_eq_false (by rw [h]; exact Int.lt_irrefl _), decide_eq_true (Int.sub_eq_zero.mpr h)]; rfl
  · rw [decide_eq_false (Int.not_le.mpr h), decide_eq_false (Int.lt_asymm h), decide_eq_false (fun z => Int.ne_of_gt h (Int.sub_eq_zero.mp z))]; rfl
theorem cnt_nat (x : Int) (l : List Int) : cntLe x l = cntLt x l + l.countP (fun r => decide (r - x = 0)) := by
  unfold cntLe cntLt
  induction l with
  | nil => rfl
  | cons a l ih =>
    rw [List.countP_cons, List.countP_cons, List.countP_cons, ih, if_split a x]
    exact Nat.add_add_add_comm _ _ _ _
theorem cnt_eq (x : Int) (l : List Int) : ((cntLe x l : Nat) : Int) - ((cntLt x l : Nat) : Int) = ((l.countP fun r => decide (r - x = 0) : Nat) : Int) := by
  rw [cnt_nat, Int.natCast_add, Int.add_comm, Int.add_sub_cancel]
/-- the moved polynomial -/
theorem moved_eq {rs : List Int} (h : rs.length = 4 ∨ rs.length = 5) (x : Int) : movedL x (1 :: mulT rs) = 1 :: mulT (rs.map fun r => r - x) := by
  rcases h with h | h
  · match rs, h with
    | [a, b, c, d], _ => exact moved4 x a b c d
  · match rs, h with
    | [a, b, c, d, e], _ => exact moved5 x a b c d e
theorem choices_eq {rs : List Int} (_ : rs.length = 4 ∨ rs.length = 5) : chL rs (2 ^ rs.length) = 1 :: mulT rs := choices_all _ rs rfl
/-- the key of a number -/
theorem key_eq (rs : List Int) (x : Int) : ((rs.length : Nat) : Int) - ((vc true (mulT (rs.map fun r => r - x)) : Nat) : Int) = ((leN rs x : Nat) : Int) := by
  rw [(descartes _).1, List.countP_map]
  have h : rs.length = leN rs x + rs.countP ((fun r => decide (0 < r)) ∘ fun r => r - x) := by
    unfold leN
    rw [List.length_eq_countP_add_countP (fun r => decide (r ≤ x))]
    congr 1
    refine List.countP_congr fun r _ => ?_
    simp
  omega
/-- noughts at the end of the moved polynomial -/
theorem noughts_eq (rs : List Int) (x : Int) : ((rs.length : Nat) : Int) - ((dz (mulT (rs.map fun r => r - x)) : Nat) : Int) = ((cntLe x rs : Nat) : Int) - ((cntLt x rs : Nat) : Int) := by
  rw [(descartes _).2, cnt_eq, List.countP_map]
  have h := List.length_eq_countP_add_countP (fun r : Int => decide (r - x = 0)) (l := rs)
  have h2 : rs.countP ((fun r => !decide (r = 0)) ∘ fun r => r - x) = rs.countP (fun r => ¬ (decide (r - x = 0)) = true) := List.countP_congr fun r _ => by simp
  omega
end

section
theorem mem_insR {x a : Int} {ns : List Int} : a ∈ insR x ns ↔ a = x ∨ a ∈ ns := by
  unfold insR
  rw [List.mem_append, List.mem_cons]
  constructor
  · rintro (h | h | h)
    · exact .inr (List.mem_of_mem_take h)
    · exact .inl h
    · exact .inr (List.mem_of_mem_drop h)
  · rintro (h | h)
    · exact .inr (.inl h)
    · rw [← List.take_append_drop (ns.countP fun a => decide (a ≤ x)) ns, List.mem_append] at h
      rcases h with h | h
      · exact .inl h
      · exact .inr (.inr h)
theorem insR_len (x : Int) (ns : List Int) : (insR x ns).length = ns.length + 1 := by
  unfold insR
  have h := congrArg List.length (List.take_append_drop (ns.countP fun a => decide (a ≤ x)) ns)
  rw [List.length_append] at h
  rw [List.length_append, List.length_cons, ← Nat.add_assoc, h]
theorem insR_sorted {x : Int} : ∀ {ns : List Int}, ns.Pairwise (· ≤ ·) → (insR x ns).Pairwise (· ≤ ·)
  | [], _ => List.pairwise_singleton _ _
  | a :: ns, hs => by
    have hs1 := List.pairwise_cons.mp hs
    by_cases h : a ≤ x
    · have ih := insR_sorted (x := x) hs1.2
      have e : insR x (a :: ns) = a :: insR x ns := by
        unfold insR
        rw [List.countP_cons_of_pos (by exact decide_eq_true h), List.take_succ_cons, List.drop_succ_cons]; rfl
      rw [e, List.pairwise_cons]
      refine ⟨fun b hb => ?_, ih⟩
      rcases mem_insR.mp hb with h1 | h1
      · omega
      · exact hs1.1 b h1
    · have hz : ns.countP (fun b => decide (b ≤ x)) = 0 := by
        rw [List.countP_eq_zero]
        intro b hb
        rw [decide_eq_true_eq]
        have := hs1.1 b hb
        omega
      have e : insR x (a :: ns) = x :: a :: ns := by
        unfold insR
        rw [List.countP_cons_of_neg (by rw [decide_eq_true_eq]; exact h), hz, List.take_zero, List.drop_zero]; rfl
      rw [e, List.pairwise_cons]
      refine ⟨fun b hb => ?_, hs⟩
      rcases List.mem_cons.mp hb with h1 | h1
      · omega
      · have := hs1.1 b h1; omega
theorem insR_perm (x : Int) (r : List Int) : (insR x r).Perm (r ++ [x]) := by
  unfold insR
  refine List.Perm.trans List.perm_middle ?_
  rw [List.take_append_drop]
  exact (List.perm_append_singleton x r).symm
/-- the row after i roots -/
noncomputable def rowR (rs : List Int) : Nat → List Int
  | 0 => []
  | i + 1 => insR (rs.getD i 0) (rowR rs i)
theorem rowR_len (rs : List Int) : ∀ i, (rowR rs i).length = i
  | 0 => rfl
  | i + 1 => by rw [rowR, insR_len, rowR_len rs i]
theorem rowR_sorted (rs : List Int) : ∀ i, (rowR rs i).Pairwise (· ≤ ·)
  | 0 => .nil
  | i + 1 => insR_sorted (rowR_sorted rs i)
theorem take_getD {rs : List Int} {i : Nat} (h : i < rs.length) : rs.take (i + 1) = rs.take i ++ [rs.getD i 0] := by
  rw [List.take_add_one, List.getElem?_eq_getElem h, getD_lt h]; rfl
theorem rowR_perm (rs : List Int) : ∀ i, i ≤ rs.length → (rowR rs i).Perm (rs.take i)
  | 0, _ => .refl _
  | i + 1, h => by
    rw [rowR, take_getD h]
    exact (insR_perm _ _).trans ((rowR_perm rs i (Nat.le_of_succ_le h)).append_right _)
theorem mulT_snoc {rs : List Int} {i : Nat} (h : i < rs.length) : mulT (rs.take (i + 1)) = M (rs.getD i 0) 1 (mulT (rs.take i)) := by
  rw [take_getD h, mulT_append]; rfl
/-- the whole product -/
theorem mul_whole {rs : List Int} {i : Nat} (h : i < rs.length) : M (rs.getD i 0) 0 (1 :: mulT (rs.take i)) = 1 :: mulT (rs.take (i + 1)) := by
  rw [mulT_snoc h]
  show (1 - _ * 0) :: _ = _
  rw [Int.mul_zero]; rfl
theorem sub_bound {a b : Int} {B : Nat} (h1 : a.natAbs ≤ B) (h2 : b.natAbs ≤ 7 * B) : (a - b).natAbs ≤ 8 * B := by
  rw [show 8 * B = 7 * B + B from Nat.succ_mul 7 B, Nat.add_comm]
  exact Nat.le_trans (Int.natAbs_sub_le a b) (Nat.add_le_add h1 h2)
theorem M_bound {s : Int} (hs : s.natAbs ≤ 7) {B : Nat} : ∀ (cs : List Int) (prev : Int), (∀ c ∈ cs, c.natAbs ≤ B) → prev.natAbs ≤ B → ∀ c ∈ M s prev cs, c.natAbs ≤ 8 * B
  | [], prev, _, hp, c, hc => by
    obtain rfl : c = 0 - s * prev := List.mem_singleton.mp hc
    exact sub_bound (Nat.zero_le _) (by rw [Int.natAbs_mul]; exact Nat.mul_le_mul hs hp)
  | a :: cs, prev, h, hp, c, hc => by
    rcases List.mem_cons.mp hc with rfl | hc
    · exact sub_bound (h a (.head _)) (by rw [Int.natAbs_mul]; exact Nat.mul_le_mul hs hp)
    · exact M_bound hs cs a (fun c hc => h c (.tail _ hc)) (h a (.head _)) c hc
theorem mul_bound {rs : List Int} (hb : ∀ r ∈ rs, r.natAbs ≤ 7) : ∀ i, i ≤ rs.length → ∀ c ∈ (1 : Int) :: mulT (rs.take i), c.natAbs ≤ 8 ^ i
  | 0, _, c, hc => by
    rcases List.mem_cons.mp hc with rfl | hc
    · exact Nat.le_refl _
    · exact nomatch hc
  | i + 1, h, c, hc => by
    rw [← mul_whole h] at hc
    rw [Nat.pow_succ, Nat.mul_comm]
    refine M_bound ?_ _ _ (mul_bound hb i (Nat.le_of_succ_le h)) (Nat.zero_le _) c hc
    rw [getD_lt h]; exact hb _ (List.getElem_mem h)
theorem mul_ok {rs : List Int} (hb : ∀ r ∈ rs, r.natAbs ≤ 7) (hl : rs.length ≤ 5) {i : Nat} (h : i ≤ rs.length) : ∀ c ∈ (1 : Int) :: mulT (rs.take i), c.natAbs < 16 ^ 6 := fun c hc =>
  Nat.lt_of_le_of_lt (mul_bound hb i h c hc) (Nat.lt_of_le_of_lt (Nat.pow_le_pow_right (by decide) (Nat.le_trans h hl)) (by decide))
/-- the k-th of the product -/
theorem M_get (s : Int) : ∀ (cs : List Int) (prev : Int) (k : Nat), k ≤ cs.length → (M s prev cs)[k]? = some ((cs ++ [0]).getD k 0 - s * (prev :: cs).getD k 0)
  | [], prev, 0, _ => rfl
  | c :: cs, prev, 0, _ => rfl
  | c :: cs, prev, k + 1, h => M_get s cs c k (Nat.le_of_succ_le_succ h)
end

local macro_rules | `(tactic| k_in) => `(tactic| first | k_in_fast | (with_reducible assumption) | exact Frag.In.keeps (by k_asm) (Fr.keep (by k_asm)))
local macro_rules | `(tactic| walk_at "callWith ref") => `(tactic| (k_here; k_dflt (first | (refine' callWith_K ?k1 ?k2 ?_; (case k1 => k_asm); (case k2 => k_is); k_whole) | (refine' callWith_K0 ?k1 ?k2 ?_; (case k1 => k_in); (case k2 => k_is); k_whole))))
local macro_rules
  | `(tactic| walk_at "exec For Tuple Call cons nil") => `(tactic| k_extra "exec For Tuple Call cons nil")
  | `(tactic| walk_at "call type:zip") => `(tactic| k_extra "call type:zip")
  | `(tactic| walk_at "UnrPostW") => `(tactic| k_extra "UnrPostW")
  | `(tactic| walk_at "compareOp NotEq ref ref") => `(tactic| k_extra "compareOp NotEq ref ref")
  | `(tactic| walk_at "call builtin:sorted") => `(tactic| k_extra "call builtin:sorted")
  | `(tactic| walk_at "compareOp Eq int int") => `(tactic| k_extra "compareOp Eq int int")
  | `(tactic| walk_at "exec Return some") => `(tactic| k_extra "exec Return some")
section
theorem rs_min (n : Nat) : Builtin.Range.rangeSize 0 (if (n : Int) < 15 then (n : Int) else 15) 1 = ((min 15 n : Nat) : Int) := by
  rw [rangeSize_nat]
  split <;> omega
theorem d15_snoc {zs : List Value} {us : List Int} {j : Nat} {n : Int} {t : Tok} (h : us[j]? = some n) (hz : IntsAre zs ((us.take j).map fun v => v.fmod 15 - 7)) : IntsAre (zs ++ [.int (n.fmod 15 - 7) t]) ((us.take (j + 1)).map fun v => v.fmod 15 - 7) := by
  rw [List.take_add_one, h, List.map_append]
  exact hz.append (.cons _ _ .nil)
theorem news_1 {g h : Heap} {L : Addr} {a b c : Addr × Obj} {r : List (Addr × Obj)} (N : News g L h (a :: b :: c :: r)) : News g L h (a :: r) := fun p hp => N p (by
  rcases List.mem_cons.mp hp with h | hp
  · exact h ▸ .head _
  exact .tail _ (.tail _ (.tail _ hp)))
theorem size5 {ys : List Value} {bs : List Int} (h : IntsAre ys bs) (hl : bs.length ≤ 5) : ys.toArray.size ≤ sizeLine := by
  rw [List.size_toArray, h.length, sizeLine_eq]; omega
theorem take_le5 (c : Nat) {gs : List Int} (h : gs.length = 5) : (List.take c gs).length ≤ 5 := by rw [List.length_take]; omega
theorem ints_at {vs : List Value} {ns : List Int} {j : Nat} {v : Value} (h : IntsAre vs ns) (hv : vs.toArray[j]? = some v) : ∃ n t, v = .int n t ∧ ns[j]? = some n ∧ n ∈ ns := by
  obtain ⟨n, t, e, hn⟩ := h.at j v (by simpa using hv)
  exact ⟨n, t, e, hn, List.mem_of_getElem? hn⟩
theorem m15 (x : Int) : -7 ≤ x.fmod 15 - 7 ∧ x.fmod 15 - 7 ≤ 7 := by
  have h : x.fmod 15 = x % 15 := Int.fmod_eq_emod_of_nonneg _ (by decide)
  rw [h]; omega
theorem m15s (us : List Int) : ∀ v ∈ us.map fun v => v.fmod 15 - 7, -7 ≤ v ∧ v ≤ 7 := fun v hv => by
  obtain ⟨x, -, rfl⟩ := List.mem_map.mp hv
  exact m15 x
namespace law_drawn_spec_K
noncomputable def P9 (w : World) (loose : List Str) (mean : ExcName → Option Value) (mg : Str → Option Value) (mb : Str → Option Value) (dp : Nat) (un : Nat) (gd : Option (List Code)) (cn : Str) (cs : Scope) (a : Addr) (ccd : Value) (cl : List (Str × Addr)) (outer : List Env) (A₀ : Around) (base : Heap) (h₀ : Heap) (L : Addr) (m : Str → Option Value) (s : Shared) (Q : Value → Shared → Prop) (E : Value → Shared → Prop) (rest : List (Addr × Obj)) (l : Addr) (ns : List Int) (its : List Value) : Prop :=
  (hi : IntsAre its ns) → (hl : ns.length < 64) → AskBV 14 w loose mean mg mb 102 rest [.ref l] l its (fun h₀ L m s Q => ∀ (c : Nat) (rs : List Int) (xs : List Value) (D : Addr) (h' : Heap) (tk' : Nat), (c = 4 ∨ c = 5) → rs.length = c → (∀ v ∈ rs, -7 ≤ v ∧ v ≤ 7) → IntsAre xs rs →
      LCg.Off1 D rest → Fr h₀ L h' m → News h₀ L h' ((D, LCg.lst xs) :: rest) →
      Q (.ref D) { s with heap := h', toks := tk' }) dp un gd cn cs a ccd cl outer A₀ base h₀ L m s Q E
noncomputable def PV9 (v : K9 × (List (Addr × Obj)) × (Addr) × (List Int) × (List Value)) : Prop := P9 v.1.1 v.1.2.1 v.1.2.2.1 v.1.2.2.2.1 v.1.2.2.2.2.1 v.1.2.2.2.2.2.1 v.1.2.2.2.2.2.2.1 v.1.2.2.2.2.2.2.2.1 v.1.2.2.2.2.2.2.2.2.1 v.1.2.2.2.2.2.2.2.2.2.1 v.1.2.2.2.2.2.2.2.2.2.2.1 v.1.2.2.2.2.2.2.2.2.2.2.2.1 v.1.2.2.2.2.2.2.2.2.2.2.2.2.1 v.1.2.2.2.2.2.2.2.2.2.2.2.2.2.1 v.1.2.2.2.2.2.2.2.2.2.2.2.2.2.2.1 v.1.2.2.2.2.2.2.2.2.2.2.2.2.2.2.2.1 v.1.2.2.2.2.2.2.2.2.2.2.2.2.2.2.2.2.1 v.1.2.2.2.2.2.2.2.2.2.2.2.2.2.2.2.2.2.1 v.1.2.2.2.2.2.2.2.2.2.2.2.2.2.2.2.2.2.2.1 v.1.2.2.2.2.2.2.2.2.2.2.2.2.2.2.2.2.2.2.2.1 v.1.2.2.2.2.2.2.2.2.2.2.2.2.2.2.2.2.2.2.2.2.1 v.1.2.2.2.2.2.2.2.2.2.2.2.2.2.2.2.2.2.2.2.2.2 v.2.1 v.2.2.1 v.2.2.2.1 v.2.2.2.2
theorem ex9 : ∃ c, PV9 c → ∀ v, PV9 v := sk9 ⟨(Classical.choice ne9, default, default, default, default)⟩ PV9
noncomputable def c9 : K9 × (List (Addr × Obj)) × (Addr) × (List Int) × (List Value) := Classical.choose ex9
noncomputable def w : World := c9.1.1
noncomputable def loose : List Str := c9.1.2.1
noncomputable def mean : ExcName → Option Value := c9.1.2.2.1
noncomputable def mg : Str → Option Value := c9.1.2.2.2.1
noncomputable def mb : Str → Option Value := c9.1.2.2.2.2.1
noncomputable def h₀ : Heap := c9.1.2.2.2.2.2.2.2.2.2.2.2.2.2.2.2.2.1
noncomputable def L : Addr := c9.1.2.2.2.2.2.2.2.2.2.2.2.2.2.2.2.2.2.1
noncomputable def m : Str → Option Value := c9.1.2.2.2.2.2.2.2.2.2.2.2.2.2.2.2.2.2.2.1
noncomputable def s : Shared := c9.1.2.2.2.2.2.2.2.2.2.2.2.2.2.2.2.2.2.2.2.1
noncomputable def Q : Value → Shared → Prop := c9.1.2.2.2.2.2.2.2.2.2.2.2.2.2.2.2.2.2.2.2.2.1
noncomputable def E : Value → Shared → Prop := c9.1.2.2.2.2.2.2.2.2.2.2.2.2.2.2.2.2.2.2.2.2.2
noncomputable def rest : List (Addr × Obj) := c9.2.1
noncomputable def l : Addr := c9.2.2.1
noncomputable def ns : List Int := c9.2.2.2.1
noncomputable def its : List Value := c9.2.2.2.2
end law_drawn_spec_K
open law_drawn_spec_K in
set_option maxHeartbeats 4000000 in
set_option maxRecDepth 100000 in
theorem law_drawn_spec_at : P9 w loose mean mg mb (c9.1.2.2.2.2.2.1) (c9.1.2.2.2.2.2.2.1) (c9.1.2.2.2.2.2.2.2.1) (c9.1.2.2.2.2.2.2.2.2.1) (c9.1.2.2.2.2.2.2.2.2.2.1) (c9.1.2.2.2.2.2.2.2.2.2.2.1) (c9.1.2.2.2.2.2.2.2.2.2.2.2.1) (c9.1.2.2.2.2.2.2.2.2.2.2.2.2.1) (c9.1.2.2.2.2.2.2.2.2.2.2.2.2.2.1) (c9.1.2.2.2.2.2.2.2.2.2.2.2.2.2.2.1) (c9.1.2.2.2.2.2.2.2.2.2.2.2.2.2.2.2.1) h₀ L m s Q E rest l ns its := by
  k_with_none
  w_top off
  intro hi hl B F X N T hk hdp hun codeHd hbl hret
  have fill9 : Challenge.rw_sr0027_02 = Challenge.rw_sr0027_02 ∧ hd.heap_39 = hd.heap_39 := by k_fill; exact ⟨rfl, rfl⟩
  k_dflt (refine' code_def ?k1 ?k2 ?k3 ?k4 ?k5 ?kA ?kF ?kK ?k6 ?k7 ?k8 ?k9 ?kB ?_ ?c2 ?c3 ?c4 ?c5; (case kA => exact rfl); (case kF => exact rfl); (case kK => first | exact rfl | assumption); (case k1 => k_asm); (case k2 => k_asm); (case k3 => k_asm); (case k4 => k_asm); (case k5 => k_asm); (case k6 => k_is); (case k7 => k_is); (case k8 => ktr_room); (case k9 => first | exact BindsTo.of_eq rfl | exact binds_K (by k_in) rfl (by k_is) rfl rfl rfl | (refine' kp_binds ?kx ?ke; (case kx => k_in); (case ke => exact fun _ => rfl)) | fail "k9"); (case c5 => decide); (case kB => exact locs rfl); (case c2 => exact rfl); (case c3 => exact rfl); (case c4 => exact rfl))
  intro g1 L1 hh1 FG1 F1 N1 B1 X1 T1
  (try dsimp only); (try k_lift B1); (try k_fold)
  (k_with "exec For Name Call cons nil" => (refine Halt.h ?_))
  (k_with "CompSrc" => (refine Halt.h ?_))
  (k_with "CompEnd" => (refine Halt.h ?_))
  k_steps
  (with_reducible rename Fr g1 L1 _ _ => kF)
  (with_reducible rename News g1 L1 _ (_ :: _) => kN)
  have hlen : its.length = ns.length := hi.length
  refine ⟨lforRange (g := g1) 0 (min 15 ns.length) (fun i m nx => ∃ (gs : List Int) (gits : List Value) (nn : Nat) (kc : Option Value), IntsAre gits gs ∧ gs.length = 5 ∧ nx = ((fst1 kN).1, W.listOf gits.toArray nn) :: tl1 kN ∧ m = ov1 (Str.ofString "k") (mapOf2 kF) kc) rfl rfl rfl ?_ ?_ ?_⟩
  · have kNc := kN
    k_steps

    refine ⟨⟨_, _, _, _, _, _, _, _, _, rfl, rfl, by assumption, ?_, rs_min _, by k_asm, by k_asm, ⟨[10, 2, 7, 10, 8], [_, _, _, _, _], 0, _, ?_, rfl, rfl, ov1_self _ _⟩⟩⟩
    · exact small_one (by decide) (by decide) (by split <;> omega) (by split <;> omega)
    · repeat (first | exact .nil | refine .cons _ _ ?_)
  · intro i t m₁ nx h tk I o hin hJ0_9 off kF2 kN2
    refine foldG9 ?_
    intro GG
    obtain ⟨gs, gits, nn, kc, hgi, hgl, rfl, rfl⟩ := hJ0_9
    dsimp only [GG]
    clear GG
    dsimp only [mapOf2, fst1, tl1] at kF2 kN2
    have o1 := neN (off _ (.head _))
    have o4 : ∀ p ∈ rest, p.1 ≠ I := fun p hp => off p (.tail _ hp)
    dsimp only [fst1, tl1] at o1
    k_steps

    exact ⟨⟨_, _, _, _, rfl, Fr.cast' (by k_asm) (ov1_ov1 _ _ _ _), by k_asm, fun p hp => by
      rcases List.mem_cons.mp hp with rfl | hp
      · exact o1
      · exact off p (.tail _ hp), ⟨_, _, _, _, by assumption, (List.length_set ..).trans hgl, rfl, rfl⟩⟩⟩
  · intro m₁ nx h tk hJ1_4 kF2 kN2
    refine foldG9 ?_
    intro GG
    obtain ⟨gs, gits, nn, kc, hgi, hgl, rfl, rfl⟩ := hJ1_4
    dsimp only [GG]
    clear GG
    dsimp only [mapOf2, fst1, tl1] at kF2 kN2
    k_steps
    · (with_reducible rename IntsAre _ (List.take 4 gs) => hU)
      have hU5 := take_le5 4 hgl
      (with_reducible rename News g1 _ _ (_ :: _ :: _) => kN3)
      refine ⟨LCg.CompSrc.ledger (by rfl) (by k_asm) (by k_asm) (by k_mem) (size5 hU hU5) ?_⟩
      intro g'
      refine restInv (J := fun j zs nx => IntsAre zs (((List.take 4 gs).take j).map fun v => v.fmod 15 - 7) ∧ nx = _) ⟨.nil, rfl⟩ ?_ ?_
      · intro j v zs news I' oI C oC D m₂ h' tk' E' hj hP hJ2_15 hC hx F' N' off' ne'
        refine foldG9 ?_
        intro GG
        obtain ⟨hzs, rfl⟩ := hJ2_15
        dsimp only [GG]
        clear GG
        obtain ⟨bn, tb, rfl, hbn, -⟩ := ints_at hU hP
        k_steps
        exact ⟨LCg.CompEnd.intro (by assumption) (by assumption) _ (fun p hp => hp) off' (.inr ⟨_, by k_mem, rfl, _, rfl⟩) ⟨⟨d15_snoc hbn hzs, rfl⟩⟩⟩
      · intro zs news hJ3_2
        refine foldG9 ?_
        intro GG
        obtain ⟨hzs, rfl⟩ := hJ3_2
        dsimp only [GG]
        clear GG
        intro D h3 tk3 F3 N3 off3
        rw [List.take_of_length_le (by rw [List.size_toArray, hU.length]; exact Nat.le_refl _)] at hzs
        (try dsimp only)
        (try k_sweep)
        (try k_fold)
        k_steps
        exact hret 4 _ zs D _ _ (by decide) (by rw [List.length_map, List.length_take]; omega) (m15s _) hzs off3.2.2 (by k_asm) (news_1 (by assumption))
    · (with_reducible rename IntsAre _ (List.take 5 gs) => hU)
      have hU5 := take_le5 5 hgl
      (with_reducible rename News g1 _ _ (_ :: _ :: _) => kN3)
      refine ⟨LCg.CompSrc.ledger (by rfl) (by k_asm) (by k_asm) (by k_mem) (size5 hU hU5) ?_⟩
      intro g'
      refine restInv (J := fun j zs nx => IntsAre zs (((List.take 5 gs).take j).map fun v => v.fmod 15 - 7) ∧ nx = _) ⟨.nil, rfl⟩ ?_ ?_
      · intro j v zs news I' oI C oC D m₂ h' tk' E' hj hP hJ4_15 hC hx F' N' off' ne'
        refine foldG9 ?_
        intro GG
        obtain ⟨hzs, rfl⟩ := hJ4_15
        dsimp only [GG]
        clear GG
        obtain ⟨bn, tb, rfl, hbn, -⟩ := ints_at hU hP
        k_steps
        exact ⟨LCg.CompEnd.intro (by assumption) (by assumption) _ (fun p hp => hp) off' (.inr ⟨_, by k_mem, rfl, _, rfl⟩) ⟨⟨d15_snoc hbn hzs, rfl⟩⟩⟩
      · intro zs news hJ5_2
        refine foldG9 ?_
        intro GG
        obtain ⟨hzs, rfl⟩ := hJ5_2
        dsimp only [GG]
        clear GG
        intro D h3 tk3 F3 N3 off3
        rw [List.take_of_length_le (by rw [List.size_toArray, hU.length]; exact Nat.le_refl _)] at hzs
        (try dsimp only)
        (try k_sweep)
        (try k_fold)
        k_steps
        exact hret 5 _ zs D _ _ (by decide) (by rw [List.length_map, List.length_take]; omega) (m15s _) hzs off3.2.2 (by k_asm) (news_1 (by assumption))

theorem law_drawn_spec (w : World) (loose : List Str) (mean : ExcName → Option Value) (mg mb : Str → Option Value) (rest : List (Addr × Obj)) (l : Addr) (ns : List Int) (its : List Value) (hi : IntsAre its ns) (hl : ns.length < 64) :
    AsksB 14 w loose mean mg mb 102 rest [.ref l] l its (fun h₀ L m s Q => ∀ (c : Nat) (rs : List Int) (xs : List Value) (D : Addr) (h' : Heap) (tk' : Nat), (c = 4 ∨ c = 5) → rs.length = c → (∀ v ∈ rs, -7 ≤ v ∧ v ≤ 7) → IntsAre xs rs →
      LCg.Off1 D rest → Fr h₀ L h' m → News h₀ L h' ((D, LCg.lst xs) :: rest) →
      Q (.ref D) { s with heap := h', toks := tk' }) :=
  fun dp un gd cn cs a ccd cl outer A₀ base h₀ L m s Q E => Classical.choose_spec law_drawn_spec_K.ex9 law_drawn_spec_at ((w, loose, mean, mg, mb, dp, un, gd, cn, cs, a, ccd, cl, outer, A₀, base, h₀, L, m, s, Q, E), rest, l, ns, its) hi hl
end

section
/-- the letters of a number, Q ahead of one below nought -/
noncomputable def wl (v : Int) : List Nat := if v < 0 then 81 :: hx v.natAbs else hx v.natAbs
theorem fd_less2 {N : Int} (h : 0 < N) : (N.fdiv 16).natAbs < N.natAbs := by
  rw [(fdm16 N (by omega)).1]
  simp only [Int.natAbs_natCast]
  omega
noncomputable abbrev WP (v N : Int) (y : Str) : Prop := 0 ≤ N ∧ N.natAbs < 16 ^ 6 ∧ y.cps.size ≤ 6 ∧ hx v.natAbs = hx N.natAbs ++ y.cps.toList
theorem item16 {N : Int} (h : 0 ≤ N) : Txt.item (Str.ofString "ABCDEFGHIJKLMNOP") (N.fmod 16) = ⟨#[65 + N.natAbs % 16]⟩ := by
  rw [(fdm16 N h).2]
  exact apitem _ (Nat.mod_lt _ (by decide))
theorem wl_size1 {N : Int} {y : Str} (h : 0 ≤ N) (hy : y.cps.size ≤ 6) : (Txt.item (Str.ofString "ABCDEFGHIJKLMNOP") (N.fmod 16)).length + y.length ≤ sizeLine := by
  rw [item16 h, sizeLine_eq]
  show 1 + y.cps.size ≤ _
  omega
theorem wl_sizeQ {y : Str} (hy : y.cps.size ≤ 6) : (Str.ofString "Q").length + y.length ≤ sizeLine := by
  rw [sizeLine_eq]
  show 1 + y.cps.size ≤ _
  omega
theorem wl_start {v : Int} (hv : v.natAbs < 16 ^ 6) : (0 ≤ if v < 0 then -v else v) ∧ (if v < 0 then -v else v).natAbs < 16 ^ 6 ∧ (Str.ofString "").cps.size ≤ 6 ∧ hx v.natAbs = hx (if v < 0 then -v else v).natAbs ++ (Str.ofString "").cps.toList := by
  have e : (Str.ofString "").cps = #[] := rfl
  rw [e]
  split
  · refine ⟨by omega, by omega, by decide, ?_⟩
    rw [Array.toList_empty, List.append_nil, Int.natAbs_neg]
  · refine ⟨by omega, by omega, by decide, ?_⟩
    rw [Array.toList_empty, List.append_nil]
theorem wl_turn {v N : Int} {y : Str} (hv : v.natAbs < 16 ^ 6) (h : WP v N y) (hN : 0 < N) : WP v (N.fdiv 16) (Txt.item (Str.ofString "ABCDEFGHIJKLMNOP") (N.fmod 16) ++ y) := by
  obtain ⟨h0, h1, h2, h3⟩ := h
  have hp : 0 < N.natAbs := by omega
  have h4 := hx_step h3 hp
  rw [item16 h0, (fdm16 N h0).1]
  have e : ((⟨#[65 + N.natAbs % 16]⟩ : Str) ++ y).cps.toList = (65 + N.natAbs % 16) :: y.cps.toList := by
    show (#[65 + N.natAbs % 16] ++ y.cps).toList = _
    simp
  have h5 : hx v.natAbs = hx ((N.natAbs / 16 : Nat) : Int).natAbs ++ ((⟨#[65 + N.natAbs % 16]⟩ : Str) ++ y).cps.toList := by
    rw [e, Int.natAbs_natCast]; exact h4
  refine ⟨by omega, by rw [Int.natAbs_natCast]; omega, ?_, h5⟩
  have h6 := congrArg List.length h4
  have e3 := congrArg List.length e
  simp only [List.length_append, List.length_cons, Array.length_toList] at e3 h6
  have h7 := hx_len 6 _ hv
  rw [h6] at h7
  exact e3 ▸ (by omega)
theorem wl_cps {v : Int} {N : Int} {y : Str} (h : WP v N y) (hN : ¬ 0 < N) : y.cps = (hx v.natAbs).toArray := by
  have e : N.natAbs = 0 := by have := h.1; omega
  rw [h.2.2.2, e, hx_zero, List.nil_append]
theorem str_eq {a b : Str} (h : a.cps = b.cps) : a = b := by
  cases a; cases b; exact congrArg _ h
theorem wl_endP {v N : Int} {y : Str} (h : WP v N y) (hN : ¬ 0 < N) (hv : ¬ v < 0) : y = ⟨(wl v).toArray⟩ := by
  apply str_eq
  rw [wl_cps h hN, wl, if_neg hv]
theorem wl_endN {v N : Int} {y : Str} (h : WP v N y) (hN : ¬ 0 < N) (hv : v < 0) : Str.ofString "Q" ++ y = ⟨(wl v).toArray⟩ := by
  apply str_eq
  show #[81] ++ y.cps = _
  rw [wl_cps h hN, wl, if_pos hv]
  simp
namespace law_written_spec_K
noncomputable def P9 (w : World) (loose : List Str) (mean : ExcName → Option Value) (mg : Str → Option Value) (mb : Str → Option Value) (dp : Nat) (un : Nat) (gd : Option (List Code)) (cn : Str) (cs : Scope) (a : Addr) (ccd : Value) (cl : List (Str × Addr)) (outer : List Env) (A₀ : Around) (base : Heap) (h₀ : Heap) (L : Addr) (m : Str → Option Value) (s : Shared) (Q : Value → Shared → Prop) (E : Value → Shared → Prop) (rest : List (Addr × Obj)) (v : Int) (tv : Tok) : Prop :=
  (hv : v.natAbs < 16 ^ 6) → AskV 10 w loose mean mg mb 109 rest [.int v tv] (fun h₀ L m s Q => ∀ (h' : Heap) (tk' : Nat) (t : Tok), Fr h₀ L h' m → News h₀ L h' rest → Q (.str ⟨(wl v).toArray⟩ t) { s with heap := h', toks := tk' }) dp un gd cn cs a ccd cl outer A₀ base h₀ L m s Q E
noncomputable def PV9 (v : K9 × (List (Addr × Obj)) × (Int) × (Tok)) : Prop := P9 v.1.1 v.1.2.1 v.1.2.2.1 v.1.2.2.2.1 v.1.2.2.2.2.1 v.1.2.2.2.2.2.1 v.1.2.2.2.2.2.2.1 v.1.2.2.2.2.2.2.2.1 v.1.2.2.2.2.2.2.2.2.1 v.1.2.2.2.2.2.2.2.2.2.1 v.1.2.2.2.2.2.2.2.2.2.2.1 v.1.2.2.2.2.2.2.2.2.2.2.2.1 v.1.2.2.2.2.2.2.2.2.2.2.2.2.1 v.1.2.2.2.2.2.2.2.2.2.2.2.2.2.1 v.1.2.2.2.2.2.2.2.2.2.2.2.2.2.2.1 v.1.2.2.2.2.2.2.2.2.2.2.2.2.2.2.2.1 v.1.2.2.2.2.2.2.2.2.2.2.2.2.2.2.2.2.1 v.1.2.2.2.2.2.2.2.2.2.2.2.2.2.2.2.2.2.1 v.1.2.2.2.2.2.2.2.2.2.2.2.2.2.2.2.2.2.2.1 v.1.2.2.2.2.2.2.2.2.2.2.2.2.2.2.2.2.2.2.2.1 v.1.2.2.2.2.2.2.2.2.2.2.2.2.2.2.2.2.2.2.2.2.1 v.1.2.2.2.2.2.2.2.2.2.2.2.2.2.2.2.2.2.2.2.2.2 v.2.1 v.2.2.1 v.2.2.2
theorem ex9 : ∃ c, PV9 c → ∀ v, PV9 v := sk9 ⟨(Classical.choice ne9, default, default, default)⟩ PV9
noncomputable def c9 : K9 × (List (Addr × Obj)) × (Int) × (Tok) := Classical.choose ex9
noncomputable def w : World := c9.1.1
noncomputable def loose : List Str := c9.1.2.1
noncomputable def mean : ExcName → Option Value := c9.1.2.2.1
noncomputable def mg : Str → Option Value := c9.1.2.2.2.1
noncomputable def mb : Str → Option Value := c9.1.2.2.2.2.1
noncomputable def h₀ : Heap := c9.1.2.2.2.2.2.2.2.2.2.2.2.2.2.2.2.2.1
noncomputable def L : Addr := c9.1.2.2.2.2.2.2.2.2.2.2.2.2.2.2.2.2.2.1
noncomputable def m : Str → Option Value := c9.1.2.2.2.2.2.2.2.2.2.2.2.2.2.2.2.2.2.2.1
noncomputable def s : Shared := c9.1.2.2.2.2.2.2.2.2.2.2.2.2.2.2.2.2.2.2.2.1
noncomputable def Q : Value → Shared → Prop := c9.1.2.2.2.2.2.2.2.2.2.2.2.2.2.2.2.2.2.2.2.2.1
noncomputable def E : Value → Shared → Prop := c9.1.2.2.2.2.2.2.2.2.2.2.2.2.2.2.2.2.2.2.2.2.2
noncomputable def rest : List (Addr × Obj) := c9.2.1
noncomputable def v : Int := c9.2.2.1
noncomputable def tv : Tok := c9.2.2.2
end law_written_spec_K
open law_written_spec_K in
set_option maxHeartbeats 4000000 in
set_option maxRecDepth 100000 in
theorem law_written_spec_at : P9 w loose mean mg mb (c9.1.2.2.2.2.2.1) (c9.1.2.2.2.2.2.2.1) (c9.1.2.2.2.2.2.2.2.1) (c9.1.2.2.2.2.2.2.2.2.1) (c9.1.2.2.2.2.2.2.2.2.2.1) (c9.1.2.2.2.2.2.2.2.2.2.2.1) (c9.1.2.2.2.2.2.2.2.2.2.2.2.1) (c9.1.2.2.2.2.2.2.2.2.2.2.2.2.1) (c9.1.2.2.2.2.2.2.2.2.2.2.2.2.2.1) (c9.1.2.2.2.2.2.2.2.2.2.2.2.2.2.2.1) (c9.1.2.2.2.2.2.2.2.2.2.2.2.2.2.2.2.1) h₀ L m s Q E rest v tv := by
  k_with_none
  w_top off
  intro hv B F X N T hk hdp hun codeHd hret
  have fill9 : Challenge.rw_sr0027_02 = Challenge.rw_sr0027_02 ∧ hd.heap_39 = hd.heap_39 := by k_fill; exact ⟨rfl, rfl⟩
  k_dflt (first | (refine' code_defC ?k1 ?k2 ?k3 ?k4 ?k5 ?kA ?kF ?kK ?k6 ?k7 ?k8 ?k9 ?kB ?kD ?_ ?c2 ?c3 ?c4; (case kA => exact rfl); (case kF => exact rfl); (case kK => first | exact rfl | assumption); (case k1 => k_asm); (case k2 => k_asm); (case k3 => k_asm); (case k4 => k_asm); (case k5 => k_asm); (case k6 => k_is); (case k7 => k_is); (case k8 => ktr_room); (case k9 => first | exact BindsTo.of_eq rfl | exact binds_K (by k_in) rfl (by k_is) rfl rfl rfl | (refine' kp_binds ?kx ?ke; (case kx => k_in); (case ke => exact fun _ => rfl)) | fail "k9"); (case kB => exact rfl); (case kD => decide +kernel); (case c2 => exact rfl); (case c3 => exact rfl); (case c4 => exact rfl); k_whole; intro g' L' h' tk' cells' FG' F' N' Y' B' X' T' l1; (try k_lt l1); k_cells Y'; (try simp only [List.cons_append, List.nil_append] at N'); (try dsimp only); (try k_lift B'); (try k_fold)) | (refine' code_def ?k1 ?k2 ?k3 ?k4 ?k5 ?kA ?kF ?kK ?k6 ?k7 ?k8 ?k9 ?kB ?_ ?c2 ?c3 ?c4 ?c5; (case kA => exact rfl); (case kF => exact rfl); (case kK => first | exact rfl | assumption); (case k1 => k_asm); (case k2 => k_asm); (case k3 => k_asm); (case k4 => k_asm); (case k5 => k_asm); (case k6 => k_is); (case k7 => k_is); (case k8 => ktr_room); (case k9 => first | exact BindsTo.of_eq rfl | exact binds_K (by k_in) rfl (by k_is) rfl rfl rfl | (refine' kp_binds ?kx ?ke; (case kx => k_in); (case ke => exact fun _ => rfl)) | fail "k9"); (case c5 => decide); (case kB => exact locs rfl); (case c2 => exact rfl); (case c3 => exact rfl); (case c4 => exact rfl); k_whole; intro g' L' h' FG' F' N' B' X' T'; (try dsimp only); (try k_lift B'); (try k_fold)))
  (k_with "exec While Compare cons nil" => k_while (fun (_ : List Int) left word => 0 ≤ left ∧ left.natAbs < 16 ^ 6 ∧ word.cps.size ≤ 6 ∧ hx v.natAbs = hx left.natAbs ++ word.cps.toList) (fun (_ : List Int) left _ => left.natAbs) "left" "word")
  (k_with "state" => first | exact wl_start hv | exact wl_turn hv ⟨by assumption, by assumption, by assumption, by assumption⟩ (by assumption))
  (k_with "measure" => exact fd_less2 (by assumption))
  (k_with "binaryOp Add str str" => (refine PyProof.Rows.add_str ?_ (by first | exact wl_size1 (by assumption) (by assumption) | exact wl_sizeQ (by assumption)); intro _ _))
  k_steps
  · (with_reducible rename hx v.natAbs = hx (Int.natAbs _) ++ _ => hR)
    rw [wl_endN ⟨by assumption, by assumption, by assumption, hR⟩ (by assumption) (by assumption)]
    exact hret _ _ _ (by k_asm) (by k_asm)
  · (with_reducible rename hx v.natAbs = hx (Int.natAbs _) ++ _ => hR)
    rw [wl_endP ⟨by assumption, by assumption, by assumption, hR⟩ (by assumption) (by assumption)]
    exact hret _ _ _ (by k_asm) (by k_asm)

theorem law_written_spec (w : World) (loose : List Str) (mean : ExcName → Option Value) (mg mb : Str → Option Value) (rest : List (Addr × Obj)) (v : Int) (tv : Tok) (hv : v.natAbs < 16 ^ 6) :
    Asks 10 w loose mean mg mb 109 rest [.int v tv] (fun h₀ L m s Q => ∀ (h' : Heap) (tk' : Nat) (t : Tok), Fr h₀ L h' m → News h₀ L h' rest → Q (.str ⟨(wl v).toArray⟩ t) { s with heap := h', toks := tk' }) :=
  fun dp un gd cn cs a ccd cl outer A₀ base h₀ L m s Q E => Classical.choose_spec law_written_spec_K.ex9 law_written_spec_at ((w, loose, mean, mg, mb, dp, un, gd, cn, cs, a, ccd, cl, outer, A₀, base, h₀, L, m, s, Q, E), rest, v, tv) hv
end

section
theorem hx_ascii (n : Nat) : ∀ c ∈ hx n, c < 128 := fun c hc => by have := hx_mem n c hc; omega
theorem hx_sizeQ {n : Nat} (h : n < 16 ^ 6) : (Str.ofString "Q").length + (⟨(hx n).toArray⟩ : Str).length ≤ sizeLine := by
  have := hx_len 6 n h
  rw [sizeLine_eq]
  show 1 + (hx n).length ≤ _
  omega
theorem wl_neg {v : Int} (hv : v < 0) : Str.ofString "Q" ++ (⟨(hx v.natAbs).toArray⟩ : Str) = ⟨(wl v).toArray⟩ := by
  apply str_eq
  show #[81] ++ (hx v.natAbs).toArray = _
  rw [wl, if_pos hv]
  simp
theorem wl_pos {v : Int} (hv : ¬ v < 0) : (⟨(hx v.natAbs).toArray⟩ : Str) = ⟨(wl v).toArray⟩ := by
  rw [wl, if_neg hv]
set_option maxHeartbeats 4000000 in
set_option maxRecDepth 100000 in
theorem law_told_spec (w : World) (loose : List Str) (mean : ExcName → Option Value) (mg mb : Str → Option Value) (rest : List (Addr × Obj)) (v : Int) (tv : Tok) (hv : v.natAbs < 16 ^ 6) :
    Asks 14 w loose mean mg mb 116 rest [.int v tv] (fun h₀ L m s Q => ∀ (h' : Heap) (tk' : Nat) (t : Tok), Fr h₀ L h' m → News h₀ L h' rest → Q (.str ⟨(wl v).toArray⟩ t) { s with heap := h', toks := tk' }) := by
  k_with_none
  w_top off
  intro dp un gd cn cs a ccd cl outer A₀ base h₀ L m s Q E B F X N T hk hdp hun codeHd hret
  have fill9 : Challenge.rw_sr0027_02 = Challenge.rw_sr0027_02 ∧ hd.heap_39 = hd.heap_39 := by k_fill; exact ⟨rfl, rfl⟩
  k_dflt (first | (refine' code_defC ?k1 ?k2 ?k3 ?k4 ?k5 ?kA ?kF ?kK ?k6 ?k7 ?k8 ?k9 ?kB ?kD ?_ ?c2 ?c3 ?c4; (case kA => exact rfl); (case kF => exact rfl); (case kK => first | exact rfl | assumption); (case k1 => k_asm); (case k2 => k_asm); (case k3 => k_asm); (case k4 => k_asm); (case k5 => k_asm); (case k6 => k_is); (case k7 => k_is); (case k8 => ktr_room); (case k9 => first | exact BindsTo.of_eq rfl | exact binds_K (by k_in) rfl (by k_is) rfl rfl rfl | (refine' kp_binds ?kx ?ke; (case kx => k_in); (case ke => exact fun _ => rfl)) | fail "k9"); (case kB => exact rfl); (case kD => decide +kernel); (case c2 => exact rfl); (case c3 => exact rfl); (case c4 => exact rfl); k_whole; intro g' L' h' tk' cells' FG' F' N' Y' B' X' T' l1; (try k_lt l1); k_cells Y'; (try simp only [List.cons_append, List.nil_append] at N'); (try dsimp only); (try k_lift B'); (try k_fold)) | (refine' code_def ?k1 ?k2 ?k3 ?k4 ?k5 ?kA ?kF ?kK ?k6 ?k7 ?k8 ?k9 ?kB ?_ ?c2 ?c3 ?c4 ?c5; (case kA => exact rfl); (case kF => exact rfl); (case kK => first | exact rfl | assumption); (case k1 => k_asm); (case k2 => k_asm); (case k3 => k_asm); (case k4 => k_asm); (case k5 => k_asm); (case k6 => k_is); (case k7 => k_is); (case k8 => ktr_room); (case k9 => first | exact BindsTo.of_eq rfl | exact binds_K (by k_in) rfl (by k_is) rfl rfl rfl | (refine' kp_binds ?kx ?ke; (case kx => k_in); (case ke => exact fun _ => rfl)) | fail "k9"); (case c5 => decide); (case kB => exact locs rfl); (case c2 => exact rfl); (case c3 => exact rfl); (case c4 => exact rfl); k_whole; intro g' L' h' FG' F' N' B' X' T'; (try dsimp only); (try k_lift B'); (try k_fold)))
  (k_with "call ref" => ((with_reducible show wpAny _ _ (call (Value.ref 48) _) _ _ _); k_dflt (refine' wpAny_call (int2ap_spec w loose mean mg mb _ _ _ hv _ _ _ _ _ _ _ _ _ _ _ _ _ _ _ _ _ (by k_asm) (by k_asm) (by k_asm) (by k_asm) (by k_asm) (by first | exact rfl | assumption) (by ktr_room) (by ktr_units) (by assumption) ?_)); intro h' tk' t9 F9 N9; (try dsimp only); (try k_sweep); (try k_fold)))
  (k_with "call builtin:bytes.decode" => (refine decode_any _ (hx_ascii _) (Nat.lt_of_le_of_lt (hx_len 6 _ hv) (by decide)) ?_; intro _ _))
  (k_with "binaryOp Add str str" => (refine PyProof.Rows.add_str ?_ (hx_sizeQ hv); intro _ _))
  k_steps
  · rw [wl_neg (by assumption)]
    exact hret _ _ _ (by k_asm) (by k_asm)
  · rw [wl_pos (by assumption)]
    exact hret _ _ _ (by k_asm) (by k_asm)
end

section
theorem wl_line {v : Int} (hv : v.natAbs < 16 ^ 6) : (⟨(wl v).toArray⟩ : Str).length ≤ sizeLine := by
  have := hx_len 6 _ hv
  rw [sizeLine_eq]
  show (wl v).length ≤ _
  unfold wl
  split
  · rw [List.length_cons]; omega
  · omega
/-- the number that letters tell -/
noncomputable def numOf (l : List Nat) : Int := l.foldl (fun (t : Int) (c : Nat) => 16 * t + ((c : Int) - 65)) 0
theorem numOf_snoc (l : List Nat) (c : Nat) : numOf (l ++ [c]) = 16 * numOf l + ((c : Int) - 65) := by unfold numOf; rw [List.foldl_append]; rfl
theorem numOf_hx : ∀ n : Nat, numOf (hx n) = n := by
  intro n
  induction n using Nat.strongRecOn with
  | ind n ih =>
    by_cases h0 : n = 0
    · subst h0; rw [hx_zero]; rfl
    · rw [hx_pos (by omega), numOf_snoc, ih (n / 16) (by omega)]
      omega
theorem find_let : ∀ m : Nat, m < 16 → Txt.find (Str.ofString "ABCDEFGHIJKLMNOP") ⟨#[65 + m]⟩ = (m : Int) := by decide +kernel
theorem find_c {c : Nat} (h : 65 ≤ c ∧ c ≤ 80) : Txt.find (Str.ofString "ABCDEFGHIJKLMNOP") ⟨#[c]⟩ = (c : Int) - 65 := by
  have := find_let (c - 65) (by omega)
  rw [show 65 + (c - 65) = c by omega] at this
  rw [this]; omega
theorem sgQ (c : Nat) (h : 65 ≤ c ∧ c ≤ 80) : ((⟨#[c]⟩ : Str) != Str.ofString "Q") = true := by
  rw [bne_iff_ne]
  intro e
  have e2 : (#[c] : Array Nat) = #[81] := congrArg Str.cps e
  have : c = 81 := by simpa using e2
  omega
theorem fold_w (l : List Nat) : ∀ (t : Int), (∀ c ∈ l, 65 ≤ c ∧ c ≤ 80) → List.foldl (fun T a => if (a != Str.ofString "Q") = true then 16 * T + Txt.find (Str.ofString "ABCDEFGHIJKLMNOP") a else T) t (l.map fun c => (⟨#[c]⟩ : Str)) = l.foldl (fun (t : Int) (c : Nat) => 16 * t + ((c : Int) - 65)) t := by
  induction l with
  | nil => intro t _; rfl
  | cons c r ih =>
    intro t hl
    rw [List.map_cons, List.foldl_cons, List.foldl_cons, if_pos (sgQ c (hl c (.head _))), find_c (hl c (.head _)), ih _ fun d hd => hl d (.tail _ hd)]
theorem fold_wl (v : Int) : List.foldl (fun T a => if (a != Str.ofString "Q") = true then 16 * T + Txt.find (Str.ofString "ABCDEFGHIJKLMNOP") a else T) (0 : Int) (signs ⟨(wl v).toArray⟩) = v.natAbs := by
  show List.foldl _ 0 ((wl v).map fun c => (⟨#[c]⟩ : Str)) = _
  have h := fold_w (hx v.natAbs) 0 (hx_mem _)
  have h2 := numOf_hx v.natAbs
  unfold numOf at h2
  unfold wl
  split
  · rw [List.map_cons, List.foldl_cons, if_neg (by decide), h, h2]
  · rw [h, h2]
theorem wl_no {v : Int} {a : Str} (ha : a ∈ signs ⟨(wl v).toArray⟩) (hq : (a != Str.ofString "Q") = true) (hf : Txt.find (Str.ofString "ABCDEFGHIJKLMNOP") a = -1) : False := by
  obtain ⟨c, hc, rfl⟩ := List.mem_map.mp (show a ∈ (wl v).map fun c => (⟨#[c]⟩ : Str) from ha)
  have hc' : c = 81 ∨ c ∈ hx v.natAbs := by
    unfold wl at hc
    split at hc
    · exact List.mem_cons.mp hc
    · exact .inr hc
  rcases hc' with rfl | hc'
  · revert hq; decide
  · have := hx_mem _ _ hc'
    rw [find_c this] at hf
    omega
theorem wl_isQ (v : Int) : (Txt.slice ⟨(wl v).toArray⟩ (some 0) (some 1) == Str.ofString "Q") = true ↔ v < 0 := by
  have h1 := slice_one ⟨(wl v).toArray⟩ 0 (Nat.zero_le _)
  have h2 : Txt.slice ⟨(wl v).toArray⟩ (some 0) (some 1) = ⟨((wl v).take 1).toArray⟩ := h1
  rw [beq_iff_eq, h2]
  constructor
  · intro e
    have e2 : ((wl v).take 1).toArray = #[81] := congrArg Str.cps e
    have e3 : (wl v).take 1 = [81] := by
      have := congrArg Array.toList e2
      simpa using this
    apply Classical.byContradiction
    intro hn
    rw [wl, if_neg hn] at e3
    have hm : 81 ∈ hx v.natAbs := List.mem_of_mem_take (e3 ▸ List.mem_singleton.mpr rfl)
    have := hx_mem _ _ hm
    omega
  · intro h
    rw [wl, if_pos h]
    rfl
namespace law_number_spec_K
noncomputable def P9 (w : World) (loose : List Str) (mean : ExcName → Option Value) (mg : Str → Option Value) (mb : Str → Option Value) (dp : Nat) (un : Nat) (gd : Option (List Code)) (cn : Str) (cs : Scope) (a : Addr) (ccd : Value) (cl : List (Str × Addr)) (outer : List Env) (A₀ : Around) (base : Heap) (h₀ : Heap) (L : Addr) (m : Str → Option Value) (s : Shared) (Q : Value → Shared → Prop) (E : Value → Shared → Prop) (rest : List (Addr × Obj)) (v : Int) (tv : Tok) : Prop :=
  (hv : v.natAbs < 16 ^ 6) → AskV 10 w loose mean mg mb 123 rest [.str ⟨(wl v).toArray⟩ tv] (fun h₀ L m s Q => ∀ (h' : Heap) (tk' : Nat) (t : Tok), Fr h₀ L h' m → News h₀ L h' rest → Q (.int v t) { s with heap := h', toks := tk' }) dp un gd cn cs a ccd cl outer A₀ base h₀ L m s Q E
noncomputable def PV9 (v : K9 × (List (Addr × Obj)) × (Int) × (Tok)) : Prop := P9 v.1.1 v.1.2.1 v.1.2.2.1 v.1.2.2.2.1 v.1.2.2.2.2.1 v.1.2.2.2.2.2.1 v.1.2.2.2.2.2.2.1 v.1.2.2.2.2.2.2.2.1 v.1.2.2.2.2.2.2.2.2.1 v.1.2.2.2.2.2.2.2.2.2.1 v.1.2.2.2.2.2.2.2.2.2.2.1 v.1.2.2.2.2.2.2.2.2.2.2.2.1 v.1.2.2.2.2.2.2.2.2.2.2.2.2.1 v.1.2.2.2.2.2.2.2.2.2.2.2.2.2.1 v.1.2.2.2.2.2.2.2.2.2.2.2.2.2.2.1 v.1.2.2.2.2.2.2.2.2.2.2.2.2.2.2.2.1 v.1.2.2.2.2.2.2.2.2.2.2.2.2.2.2.2.2.1 v.1.2.2.2.2.2.2.2.2.2.2.2.2.2.2.2.2.2.1 v.1.2.2.2.2.2.2.2.2.2.2.2.2.2.2.2.2.2.2.1 v.1.2.2.2.2.2.2.2.2.2.2.2.2.2.2.2.2.2.2.2.1 v.1.2.2.2.2.2.2.2.2.2.2.2.2.2.2.2.2.2.2.2.2.1 v.1.2.2.2.2.2.2.2.2.2.2.2.2.2.2.2.2.2.2.2.2.2 v.2.1 v.2.2.1 v.2.2.2
theorem ex9 : ∃ c, PV9 c → ∀ v, PV9 v := sk9 ⟨(Classical.choice ne9, default, default, default)⟩ PV9
noncomputable def c9 : K9 × (List (Addr × Obj)) × (Int) × (Tok) := Classical.choose ex9
noncomputable def w : World := c9.1.1
noncomputable def loose : List Str := c9.1.2.1
noncomputable def mean : ExcName → Option Value := c9.1.2.2.1
noncomputable def mg : Str → Option Value := c9.1.2.2.2.1
noncomputable def mb : Str → Option Value := c9.1.2.2.2.2.1
noncomputable def h₀ : Heap := c9.1.2.2.2.2.2.2.2.2.2.2.2.2.2.2.2.2.1
noncomputable def L : Addr := c9.1.2.2.2.2.2.2.2.2.2.2.2.2.2.2.2.2.2.1
noncomputable def m : Str → Option Value := c9.1.2.2.2.2.2.2.2.2.2.2.2.2.2.2.2.2.2.2.1
noncomputable def s : Shared := c9.1.2.2.2.2.2.2.2.2.2.2.2.2.2.2.2.2.2.2.2.1
noncomputable def Q : Value → Shared → Prop := c9.1.2.2.2.2.2.2.2.2.2.2.2.2.2.2.2.2.2.2.2.2.1
noncomputable def E : Value → Shared → Prop := c9.1.2.2.2.2.2.2.2.2.2.2.2.2.2.2.2.2.2.2.2.2.2
noncomputable def rest : List (Addr × Obj) := c9.2.1
noncomputable def v : Int := c9.2.2.1
noncomputable def tv : Tok := c9.2.2.2
end law_number_spec_K
open law_number_spec_K in
set_option maxHeartbeats 4000000 in
set_option maxRecDepth 100000 in
theorem law_number_spec_at : P9 w loose mean mg mb (c9.1.2.2.2.2.2.1) (c9.1.2.2.2.2.2.2.1) (c9.1.2.2.2.2.2.2.2.1) (c9.1.2.2.2.2.2.2.2.2.1) (c9.1.2.2.2.2.2.2.2.2.2.1) (c9.1.2.2.2.2.2.2.2.2.2.2.1) (c9.1.2.2.2.2.2.2.2.2.2.2.2.1) (c9.1.2.2.2.2.2.2.2.2.2.2.2.2.1) (c9.1.2.2.2.2.2.2.2.2.2.2.2.2.2.1) (c9.1.2.2.2.2.2.2.2.2.2.2.2.2.2.2.1) (c9.1.2.2.2.2.2.2.2.2.2.2.2.2.2.2.2.1) h₀ L m s Q E rest v tv := by
  k_with_none
  w_top off
  intro hv B F X N T hk hdp hun codeHd hret
  have fill9 : Challenge.rw_sr0027_02 = Challenge.rw_sr0027_02 ∧ hd.heap_39 = hd.heap_39 := by k_fill; exact ⟨rfl, rfl⟩
  k_dflt (first | (refine' code_defC ?k1 ?k2 ?k3 ?k4 ?k5 ?kA ?kF ?kK ?k6 ?k7 ?k8 ?k9 ?kB ?kD ?_ ?c2 ?c3 ?c4; (case kA => exact rfl); (case kF => exact rfl); (case kK => first | exact rfl | assumption); (case k1 => k_asm); (case k2 => k_asm); (case k3 => k_asm); (case k4 => k_asm); (case k5 => k_asm); (case k6 => k_is); (case k7 => k_is); (case k8 => ktr_room); (case k9 => first | exact BindsTo.of_eq rfl | exact binds_K (by k_in) rfl (by k_is) rfl rfl rfl | (refine' kp_binds ?kx ?ke; (case kx => k_in); (case ke => exact fun _ => rfl)) | fail "k9"); (case kB => exact rfl); (case kD => decide +kernel); (case c2 => exact rfl); (case c3 => exact rfl); (case c4 => exact rfl); k_whole; intro g' L' h' tk' cells' FG' F' N' Y' B' X' T' l1; (try k_lt l1); k_cells Y'; (try simp only [List.cons_append, List.nil_append] at N'); (try dsimp only); (try k_lift B'); (try k_fold)) | (refine' code_def ?k1 ?k2 ?k3 ?k4 ?k5 ?kA ?kF ?kK ?k6 ?k7 ?k8 ?k9 ?kB ?_ ?c2 ?c3 ?c4 ?c5; (case kA => exact rfl); (case kF => exact rfl); (case kK => first | exact rfl | assumption); (case k1 => k_asm); (case k2 => k_asm); (case k3 => k_asm); (case k4 => k_asm); (case k5 => k_asm); (case k6 => k_is); (case k7 => k_is); (case k8 => ktr_room); (case k9 => first | exact BindsTo.of_eq rfl | exact binds_K (by k_in) rfl (by k_is) rfl rfl rfl | (refine' kp_binds ?kx ?ke; (case kx => k_in); (case ke => exact fun _ => rfl)) | fail "k9"); (case c5 => decide); (case kB => exact locs rfl); (case c2 => exact rfl); (case c3 => exact rfl); (case c4 => exact rfl); k_whole; intro g' L' h' FG' F' N' B' X' T'; (try dsimp only); (try k_lift B'); (try k_fold)))
  (k_with "subscriptTail" => ((with_reducible show wpAny _ _ (subscriptTail _ (Expr.Slice (some _) (some _) none _) _ _) _ _ _); (with_reducible rename Fr _ _ _ _ => sF); (with_reducible rename News _ _ _ _ => sN); (refine slice_strN_ss_len (hsz := wl_line hv) (s := ⟨_, _, _, _, _⟩) sF sN ?_); intro _ _ _ _ _ _))
  k_steps
  · exact absurd (by assumption) (fun hf => wl_no (by assumption) (by assumption) hf)
  · have hv0 := (wl_isQ v).mp (by assumption)
    rw [fold_wl, show (-((v.natAbs : Nat) : Int)) = v by omega]
    exact hret _ _ _ (by k_asm) (by k_asm)
  · (with_reducible rename (_ == Str.ofString "Q") = false => hb)
    have hv0 : ¬ v < 0 := fun h => by rw [(wl_isQ v).mpr h] at hb; cases hb
    rw [fold_wl, show (((v.natAbs : Nat) : Int)) = v by omega]
    exact hret _ _ _ (by k_asm) (by k_asm)

theorem law_number_spec (w : World) (loose : List Str) (mean : ExcName → Option Value) (mg mb : Str → Option Value) (rest : List (Addr × Obj)) (v : Int) (tv : Tok) (hv : v.natAbs < 16 ^ 6) :
    Asks 10 w loose mean mg mb 123 rest [.str ⟨(wl v).toArray⟩ tv] (fun h₀ L m s Q => ∀ (h' : Heap) (tk' : Nat) (t : Tok), Fr h₀ L h' m → News h₀ L h' rest → Q (.int v t) { s with heap := h', toks := tk' }) :=
  fun dp un gd cn cs a ccd cl outer A₀ base h₀ L m s Q E => Classical.choose_spec law_number_spec_K.ex9 law_number_spec_at ((w, loose, mean, mg, mb, dp, un, gd, cn, cs, a, ccd, cl, outer, A₀, base, h₀, L, m, s, Q, E), rest, v, tv) hv
end

section
/-- in quotation marks, or bare -/
noncomputable def quo (ns : List Int) (k : Nat) : Bool := k % 2 == 0 || ns.getD k 0 == 0
noncomputable def piece (q : Bool) (w : List Nat) : List Nat := if q = true then 34 :: (w ++ [34, 10]) else 92 :: (jw w ++ [9])
theorem piece_len (q : Bool) (w : List Nat) (h : w.length ≤ 7) : (piece q w).length ≤ 16 := by
  unfold piece
  have := jw_len w
  split <;> simp only [List.length_cons, List.length_append, List.length_nil] <;> omega
noncomputable def pageL (ns : List Int) : Nat → List Nat
  | 0 => []
  | k + 1 => pageL ns k ++ piece (quo ns k) (wl (ns.getD k 0))
theorem ofs_nil : Str.ofString "" = ⟨#[]⟩ := by decide +kernel
theorem wl_len {v : Int} (h : v.natAbs < 16 ^ 6) : (wl v).length ≤ 7 := by
  have := hx_len 6 _ h
  unfold wl
  split
  · rw [List.length_cons]; omega
  · omega
theorem wl_nil {v : Int} : wl v = [] ↔ v = 0 := by
  unfold wl
  split
  · constructor
    · intro h; cases h
    · intro h; omega
  · constructor
    · intro h
      apply Classical.byContradiction
      intro hn
      exact hx_ne (n := v.natAbs) (by omega) h
    · intro h; subst h; exact hx_zero
theorem wl_empty {v : Int} : ((⟨(wl v).toArray⟩ : Str) == Str.ofString "") = true ↔ v = 0 := by
  rw [beq_iff_eq, ofs_nil, ← wl_nil]
  constructor
  · intro h
    have h2 : (wl v).toArray = #[] := congrArg Str.cps h
    simpa using h2
  · intro h; rw [h]
theorem page_q {ns : List Int} {i : Nat} (h : quo ns i = true) : (⟨(pageL ns i).toArray⟩ ++ Str.ofString "\"" ++ ⟨(wl (ns.getD ((0 : Int) + (i : Nat)).toNat 0)).toArray⟩ ++ Str.ofString "\"\n" : Str) = ⟨(pageL ns (i + 1)).toArray⟩ := by
  have e1 : Str.ofString "\"" = ⟨#[34]⟩ := by decide +kernel
  have e2 : Str.ofString "\"\n" = ⟨#[34, 10]⟩ := by decide +kernel
  rw [e1, e2, show ((0 : Int) + (i : Nat)).toNat = i by omega]
  rw [show pageL ns (i + 1) = pageL ns i ++ piece (quo ns i) (wl (ns.getD i 0)) from rfl]
  unfold piece
  rw [if_pos h]
  show (⟨((_ ++ _) ++ _) ++ _⟩ : Str) = _
  congr 1
  simp
theorem page_b {ns : List Int} {i : Nat} (h : ¬ quo ns i = true) : (⟨(pageL ns i).toArray⟩ ++ Str.ofString "\\" ++ ⟨(jw (wl (ns.getD ((0 : Int) + (i : Nat)).toNat 0))).toArray⟩ ++ Str.ofString "\t" : Str) = ⟨(pageL ns (i + 1)).toArray⟩ := by
  have e1 : Str.ofString "\\" = ⟨#[92]⟩ := by decide +kernel
  have e2 : Str.ofString "\t" = ⟨#[9]⟩ := by decide +kernel
  rw [e1, e2, show ((0 : Int) + (i : Nat)).toNat = i by omega]
  rw [show pageL ns (i + 1) = pageL ns i ++ piece (quo ns i) (wl (ns.getD i 0)) from rfl]
  unfold piece
  rw [if_neg h]
  show (⟨((_ ++ _) ++ _) ++ _⟩ : Str) = _
  congr 1
  simp
theorem page_len {ns : List Int} {i : Nat} (h : (pageL ns i).length ≤ 16 * i) (hb : (ns.getD i 0).natAbs < 16 ^ 6) : (pageL ns (i + 1)).length ≤ 16 * (i + 1) := by
  unfold pageL
  rw [List.length_append]
  have := piece_len (quo ns i) _ (wl_len hb)
  omega
theorem quo_even {ns : List Int} {i : Nat} (h : ((0 : Int) + (i : Nat)).fmod 2 = 0) : quo ns i = true := by
  have h2 : i % 2 = 0 := by rw [Int.fmod_eq_emod_of_nonneg _ (by decide)] at h; omega
  unfold quo; rw [h2]; rfl
theorem quo_nought {ns : List Int} {i : Nat} (h : ((⟨(wl (ns.getD ((0 : Int) + (i : Nat)).toNat 0)).toArray⟩ : Str) == Str.ofString "") = true) : quo ns i = true := by
  rw [wl_empty, show ((0 : Int) + (i : Nat)).toNat = i by omega] at h
  unfold quo; rw [h]; simp
theorem quo_not {ns : List Int} {i : Nat} (h : ((0 : Int) + (i : Nat)).fmod 2 ≠ 0) (h0 : ((⟨(wl (ns.getD ((0 : Int) + (i : Nat)).toNat 0)).toArray⟩ : Str) == Str.ofString "") = false) : ¬ quo ns i = true := by
  have h2 : ¬ i % 2 = 0 := by rw [Int.fmod_eq_emod_of_nonneg _ (by decide)] at h; omega
  have h3 : ¬ ns.getD ((0 : Int) + (i : Nat)).toNat 0 = 0 := fun e => by rw [wl_empty.mpr e] at h0; cases h0
  rw [show ((0 : Int) + (i : Nat)).toNat = i by omega] at h3
  unfold quo
  intro h
  rcases Bool.or_eq_true _ _ ▸ h with h | h
  · exact h2 (by simpa using h)
  · exact h3 (by simpa using h)
namespace law_page_spec_K
noncomputable def P9 (w : World) (loose : List Str) (mean : ExcName → Option Value) (mg : Str → Option Value) (mb : Str → Option Value) (dp : Nat) (un : Nat) (gd : Option (List Code)) (cn : Str) (cs : Scope) (a : Addr) (ccd : Value) (cl : List (Str × Addr)) (outer : List Env) (A₀ : Around) (base : Heap) (h₀ : Heap) (L : Addr) (m : Str → Option Value) (s : Shared) (Q : Value → Shared → Prop) (E : Value → Shared → Prop) (rest : List (Addr × Obj)) (l : Addr) (ns : List Int) (its : List Value) (n : Nat) : Prop :=
  (hi : IntsAre its ns) → (hl : ns.length < 64) → (hb : ∀ v ∈ ns, v.natAbs < 16 ^ 6) → AskV 16 w loose mean mg mb 130 ((l, W.listOf its.toArray n) :: rest) [.ref l] (fun h₀ L m s Q => ∀ (h' : Heap) (tk' : Nat) (t : Tok), Fr h₀ L h' m → News h₀ L h' ((l, W.listOf its.toArray n) :: rest) → Q (.str ⟨(pageL ns ns.length).toArray⟩ t) { s with heap := h', toks := tk' }) dp un gd cn cs a ccd cl outer A₀ base h₀ L m s Q E
noncomputable def PV9 (v : K9 × (List (Addr × Obj)) × (Addr) × (List Int) × (List Value) × (Nat)) : Prop := P9 v.1.1 v.1.2.1 v.1.2.2.1 v.1.2.2.2.1 v.1.2.2.2.2.1 v.1.2.2.2.2.2.1 v.1.2.2.2.2.2.2.1 v.1.2.2.2.2.2.2.2.1 v.1.2.2.2.2.2.2.2.2.1 v.1.2.2.2.2.2.2.2.2.2.1 v.1.2.2.2.2.2.2.2.2.2.2.1 v.1.2.2.2.2.2.2.2.2.2.2.2.1 v.1.2.2.2.2.2.2.2.2.2.2.2.2.1 v.1.2.2.2.2.2.2.2.2.2.2.2.2.2.1 v.1.2.2.2.2.2.2.2.2.2.2.2.2.2.2.1 v.1.2.2.2.2.2.2.2.2.2.2.2.2.2.2.2.1 v.1.2.2.2.2.2.2.2.2.2.2.2.2.2.2.2.2.1 v.1.2.2.2.2.2.2.2.2.2.2.2.2.2.2.2.2.2.1 v.1.2.2.2.2.2.2.2.2.2.2.2.2.2.2.2.2.2.2.1 v.1.2.2.2.2.2.2.2.2.2.2.2.2.2.2.2.2.2.2.2.1 v.1.2.2.2.2.2.2.2.2.2.2.2.2.2.2.2.2.2.2.2.2.1 v.1.2.2.2.2.2.2.2.2.2.2.2.2.2.2.2.2.2.2.2.2.2 v.2.1 v.2.2.1 v.2.2.2.1 v.2.2.2.2.1 v.2.2.2.2.2
theorem ex9 : ∃ c, PV9 c → ∀ v, PV9 v := sk9 ⟨(Classical.choice ne9, default, default, default, default, default)⟩ PV9
noncomputable def c9 : K9 × (List (Addr × Obj)) × (Addr) × (List Int) × (List Value) × (Nat) := Classical.choose ex9
noncomputable def w : World := c9.1.1
noncomputable def loose : List Str := c9.1.2.1
noncomputable def mean : ExcName → Option Value := c9.1.2.2.1
noncomputable def mg : Str → Option Value := c9.1.2.2.2.1
noncomputable def mb : Str → Option Value := c9.1.2.2.2.2.1
noncomputable def h₀ : Heap := c9.1.2.2.2.2.2.2.2.2.2.2.2.2.2.2.2.2.1
noncomputable def L : Addr := c9.1.2.2.2.2.2.2.2.2.2.2.2.2.2.2.2.2.2.1
noncomputable def m : Str → Option Value := c9.1.2.2.2.2.2.2.2.2.2.2.2.2.2.2.2.2.2.2.1
noncomputable def s : Shared := c9.1.2.2.2.2.2.2.2.2.2.2.2.2.2.2.2.2.2.2.2.1
noncomputable def Q : Value → Shared → Prop := c9.1.2.2.2.2.2.2.2.2.2.2.2.2.2.2.2.2.2.2.2.2.1
noncomputable def E : Value → Shared → Prop := c9.1.2.2.2.2.2.2.2.2.2.2.2.2.2.2.2.2.2.2.2.2.2
noncomputable def rest : List (Addr × Obj) := c9.2.1
noncomputable def l : Addr := c9.2.2.1
noncomputable def ns : List Int := c9.2.2.2.1
noncomputable def its : List Value := c9.2.2.2.2.1
noncomputable def n : Nat := c9.2.2.2.2.2
end law_page_spec_K
open law_page_spec_K in
set_option maxHeartbeats 4000000 in
set_option maxRecDepth 100000 in
theorem law_page_spec_at : P9 w loose mean mg mb (c9.1.2.2.2.2.2.1) (c9.1.2.2.2.2.2.2.1) (c9.1.2.2.2.2.2.2.2.1) (c9.1.2.2.2.2.2.2.2.2.1) (c9.1.2.2.2.2.2.2.2.2.2.1) (c9.1.2.2.2.2.2.2.2.2.2.2.1) (c9.1.2.2.2.2.2.2.2.2.2.2.2.1) (c9.1.2.2.2.2.2.2.2.2.2.2.2.2.1) (c9.1.2.2.2.2.2.2.2.2.2.2.2.2.2.1) (c9.1.2.2.2.2.2.2.2.2.2.2.2.2.2.2.1) (c9.1.2.2.2.2.2.2.2.2.2.2.2.2.2.2.2.1) h₀ L m s Q E rest l ns its n := by
  k_with_none
  w_top off
  intro hi hl hb B F X N T hk hdp hun codeHd hret
  have fill9 : Challenge.rw_sr0027_02 = Challenge.rw_sr0027_02 ∧ hd.heap_39 = hd.heap_39 := by k_fill; exact ⟨rfl, rfl⟩
  k_dflt (refine' code_def ?k1 ?k2 ?k3 ?k4 ?k5 ?kA ?kF ?kK ?k6 ?k7 ?k8 ?k9 ?kB ?_ ?c2 ?c3 ?c4 ?c5; (case kA => exact rfl); (case kF => exact rfl); (case kK => first | exact rfl | assumption); (case k1 => k_asm); (case k2 => k_asm); (case k3 => k_asm); (case k4 => k_asm); (case k5 => k_asm); (case k6 => k_is); (case k7 => k_is); (case k8 => ktr_room); (case k9 => first | exact BindsTo.of_eq rfl | exact binds_K (by k_in) rfl (by k_is) rfl rfl rfl | (refine' kp_binds ?kx ?ke; (case kx => k_in); (case ke => exact fun _ => rfl)) | fail "k9"); (case c5 => decide); (case kB => exact locs rfl); (case c2 => exact rfl); (case c3 => exact rfl); (case c4 => exact rfl))
  intro g1 L1 hh1 FG1 F1 N1 B1 X1 T1
  (try dsimp only); (try k_fold)
  have hb' := ints_lt hb (by decide)
  (k_with "call ref" => ((with_reducible show wpAny _ _ (call (Value.ref 109) _) _ _ _); k_dflt (refine' wpAny_call (law_written_spec w loose mean mg mb _ _ _ (hb' _) _ _ _ _ _ _ _ _ _ _ _ _ _ _ _ _ _ (by k_asm) (by k_asm) (by k_asm) (by k_asm) (by k_asm) (by first | exact rfl | assumption) (by ktr_room) (by ktr_units) (by assumption) ?_)); intro h' tk' t9 F9 N9; (try dsimp only); (try k_sweep); (try k_fold)))
  (k_with "call type:list" => (k_dflt (refine' kls_list rfl (by k_asm) (by k_asm) (Nat.le_trans (wl_len (hb' _)) (by decide)) ?_); intro D' vs' c' h' tk' F' N' l1 hS'; (try k_lt l1); (try k_sweep)))
  (k_with "call builtin:str.join" => (k_dflt (refine' kls_join (by is_list) (by assumption) (Nat.le_trans (wl_len (hb' _)) (by decide)) ?_); intro _ _))
  (k_with "exec For Name Call cons nil" => (refine Halt.h ?_))
  k_steps
  (with_reducible rename Fr g1 L1 _ _ => kF)
  refine ⟨lforRange (g := g1) 0 ns.length (fun i m nx => ∃ kc wc t, (pageL ns i).length ≤ 16 * i ∧ nx = ((l, W.listOf its.toArray n) :: rest) ∧ m = ov1 (Str.ofString "page") (ov1 (Str.ofString "word") (ov1 (Str.ofString "k") (mapOf2 kF) kc) wc) (some (.str ⟨(pageL ns i).toArray⟩ t))) rfl rfl rfl ?_ ?_ ?_⟩
  · k_steps
    exact ⟨⟨_, _, _, _, _, _, _, _, _, rfl, rfl, by assumption, small_one (by decide) (by decide) (by omega) (by omega), rangeSize_nat _ _, by k_asm, by k_asm, ⟨_, _, _, Nat.le_refl _, rfl, (ov3_self _ _ _ _).trans (congrArg _ ((if_pos rfl).trans (congrArg some (congrArg (fun z => Value.str z _) ofs_nil))))⟩⟩⟩
  · intro i t m₁ nx h tk I o hin hJ0_9 off kF2 kN2
    refine foldG9 ?_
    intro GG
    obtain ⟨kc, wc, tp, hpl, rfl, rfl⟩ := hJ0_9
    dsimp only [GG]
    clear GG
    dsimp only [mapOf2] at kF2 kN2
    have o1 := neN (off _ (.head _))
    have o4 : ∀ p ∈ rest, p.1 ≠ I := fun p hp => off p (.tail _ hp)
    dsimp only at o1
    have w1 : (⟨(wl (ns.getD ((0 : Int) + (i : Nat)).toNat 0)).toArray⟩ : Str).length ≤ 7 := wl_len (hb' _)
    have w2 : (⟨(jw (wl (ns.getD ((0 : Int) + (i : Nat)).toNat 0))).toArray⟩ : Str).length ≤ 14 := Nat.le_trans (jw_len _) (by have : (wl (ns.getD ((0 : Int) + (i : Nat)).toNat 0)).length ≤ 7 := wl_len (hb' _); omega)
    have w3 : (⟨(pageL ns i).toArray⟩ : Str).length ≤ 16 * 64 := Nat.le_trans hpl (by omega)
    k_steps
    · (with_reducible rename Fr g1 L1 _ _ => kG)
      (with_reducible rename Int.fmod _ _ = 0 => hm)
      exact ⟨⟨_, _, _, (l, W.listOf its.toArray n) :: rest, rfl, Fr.cast' kG ((ov3 _ _ _ _ _ _ _ _ _ _ (by decide) (by decide) (by decide)).trans (congrArg (ov1 _ _) (congrArg some (congrArg (fun z => Value.str z _) (page_q (quo_even hm)))))), by k_asm, off, ⟨_, _, _, page_len hpl (hb' _), rfl, rfl⟩⟩⟩
    · (with_reducible rename Fr g1 L1 _ _ => kG)
      (with_reducible rename (_ == Str.ofString "") = true => hm)
      exact ⟨⟨_, _, _, (l, W.listOf its.toArray n) :: rest, rfl, Fr.cast' kG ((ov3 _ _ _ _ _ _ _ _ _ _ (by decide) (by decide) (by decide)).trans (congrArg (ov1 _ _) (congrArg some (congrArg (fun z => Value.str z _) (page_q (quo_nought hm)))))), by k_asm, off, ⟨_, _, _, page_len hpl (hb' _), rfl, rfl⟩⟩⟩
    · (with_reducible rename Fr g1 L1 _ _ => kG)
      (with_reducible rename Int.fmod _ _ ≠ 0 => hm)
      (with_reducible rename (_ == Str.ofString "") = false => hm2)
      (with_reducible rename News g1 L1 _ _ => kM)
      exact ⟨⟨_, _, _, (l, W.listOf its.toArray n) :: rest, rfl, Fr.cast' kG ((ov3 _ _ _ _ _ _ _ _ _ _ (by decide) (by decide) (by decide)).trans (congrArg (ov1 _ _) (congrArg some (congrArg (fun z => Value.str z _) (page_b (quo_not hm hm2)))))), (fun p hp => kM p (.tail _ hp)), off, ⟨_, _, _, page_len hpl (hb' _), rfl, rfl⟩⟩⟩
  · intro m₁ nx h tk hJ1_4 kF2 kN2
    refine foldG9 ?_
    intro GG
    obtain ⟨kc, wc, tp, hpl, rfl, rfl⟩ := hJ1_4
    dsimp only [GG]
    clear GG
    dsimp only [mapOf2] at kF2 kN2
    k_steps
    exact hret _ _ _ (by k_asm) (by k_asm)

theorem law_page_spec (w : World) (loose : List Str) (mean : ExcName → Option Value) (mg mb : Str → Option Value) (rest : List (Addr × Obj)) (l : Addr) (ns : List Int) (its : List Value) (n : Nat) (hi : IntsAre its ns) (hl : ns.length < 64) (hb : ∀ v ∈ ns, v.natAbs < 16 ^ 6) :
    Asks 16 w loose mean mg mb 130 ((l, W.listOf its.toArray n) :: rest) [.ref l] (fun h₀ L m s Q => ∀ (h' : Heap) (tk' : Nat) (t : Tok), Fr h₀ L h' m → News h₀ L h' ((l, W.listOf its.toArray n) :: rest) → Q (.str ⟨(pageL ns ns.length).toArray⟩ t) { s with heap := h', toks := tk' }) :=
  fun dp un gd cn cs a ccd cl outer A₀ base h₀ L m s Q E => Classical.choose_spec law_page_spec_K.ex9 law_page_spec_at ((w, loose, mean, mg, mb, dp, un, gd, cn, cs, a, ccd, cl, outer, A₀, base, h₀, L, m, s, Q, E), rest, l, ns, its, n) hi hl hb
end

section
/-- what stands ahead of the token j: the newline behind a quoted one -/
noncomputable def wsOf (ns : List Int) : Nat → List Nat
  | 0 => []
  | j + 1 => if quo ns j = true then [10] else []
/-- how many of the first j stand in quotation marks -/
noncomputable def cntQ (ns : List Int) : Nat → Nat
  | 0 => 0
  | j + 1 => cntQ ns j + if quo ns j = true then 1 else 0
/-- the newlines read ahead of token j -/
noncomputable def lnOf (ns : List Int) : Nat → Nat
  | 0 => 0
  | j + 1 => cntQ ns j
noncomputable def posOf (ns : List Int) (j : Nat) : Nat := (pageL ns j).length - (wsOf ns j).length
theorem page_ends (ns : List Int) : ∀ j, ∃ A, pageL ns j = A ++ wsOf ns j
  | 0 => ⟨[], rfl⟩
  | k + 1 => by
    by_cases h : quo ns k = true
    · rw [show wsOf ns (k + 1) = [10] from if_pos h]
      refine ⟨pageL ns k ++ 34 :: (wl (ns.getD k 0) ++ [34]), ?_⟩
      rw [pageL, piece, if_pos h]
      simp
    · rw [show wsOf ns (k + 1) = [] from if_neg h]
      exact ⟨pageL ns (k + 1), by rw [List.append_nil]⟩
theorem page_tail (ns : List Int) {j N : Nat} (h : j < N) : ∃ t, pageL ns N = pageL ns j ++ (piece (quo ns j) (wl (ns.getD j 0)) ++ t) := by
  induction N with
  | zero => omega
  | succ N ih =>
    rcases Nat.lt_or_ge j N with h1 | h1
    · obtain ⟨t, ht⟩ := ih h1
      exact ⟨t ++ piece (quo ns N) (wl (ns.getD N 0)), by rw [pageL, ht]; simp only [List.append_assoc]⟩
    · obtain rfl : j = N := by omega
      exact ⟨[], by rw [pageL, List.append_nil]⟩
theorem drop_at {A ws t : List Nat} : ((A ++ ws) ++ t).drop ((A ++ ws).length - ws.length) = ws ++ t := by
  rw [List.length_append, Nat.add_sub_cancel, List.append_assoc, List.drop_left]
theorem drop_tok (ns : List Int) {j N : Nat} (h : j < N) : ∃ t, (pageL ns N).drop (posOf ns j) = wsOf ns j ++ (piece (quo ns j) (wl (ns.getD j 0)) ++ t) := by
  obtain ⟨t, ht⟩ := page_tail ns h
  obtain ⟨A, hA⟩ := page_ends ns j
  refine ⟨t, ?_⟩
  rw [ht, posOf, hA]
  exact drop_at
theorem drop_last (ns : List Int) (N : Nat) : (pageL ns N).drop (posOf ns N) = wsOf ns N := by
  obtain ⟨A, hA⟩ := page_ends ns N
  have h := drop_at (A := A) (ws := wsOf ns N) (t := [])
  rw [List.append_nil, List.append_nil] at h
  rw [posOf, hA]; exact h
theorem pos_le (ns : List Int) {j N : Nat} (h : j ≤ N) : posOf ns j ≤ (pageL ns N).length := by
  unfold posOf
  rcases Nat.lt_or_ge j N with h1 | h1
  · obtain ⟨t, ht⟩ := page_tail ns h1
    rw [ht, List.length_append]; omega
  · obtain rfl : j = N := by omega
    omega
theorem ws_le (ns : List Int) (j : Nat) : (wsOf ns j).length ≤ (pageL ns j).length := by
  obtain ⟨A, hA⟩ := page_ends ns j
  rw [hA, List.length_append]; omega
theorem ws_cases (ns : List Int) : ∀ j, wsOf ns j = [] ∨ wsOf ns j = [10]
  | 0 => .inl rfl
  | j + 1 => by
    by_cases h : quo ns j = true
    · exact .inr (if_pos h)
    · exact .inl (if_neg h)
theorem ln_ws (ns : List Int) : ∀ j, ((lnOf ns j : Nat) : Int) + nlOf (wsOf ns j) = (cntQ ns j : Nat)
  | 0 => rfl
  | j + 1 => by
    by_cases h : quo ns j = true
    · rw [show wsOf ns (j + 1) = [10] from if_pos h, show cntQ ns (j + 1) = cntQ ns j + 1 from congrArg (cntQ ns j + ·) (if_pos h), show lnOf ns (j + 1) = cntQ ns j from rfl]
      have : nlOf [10] = 1 := rfl
      rw [this]; omega
    · rw [show wsOf ns (j + 1) = [] from if_neg h, show cntQ ns (j + 1) = cntQ ns j + 0 from congrArg (cntQ ns j + ·) (if_neg h), show lnOf ns (j + 1) = cntQ ns j from rfl]
      have : nlOf [] = 0 := rfl
      rw [this]; omega
theorem page_bound {ns : List Int} (h : ∀ v ∈ ns, v.natAbs < 16 ^ 6) : ∀ k, (pageL ns k).length ≤ 16 * k
  | 0 => Nat.le_refl _
  | k + 1 => page_len (page_bound h k) (ints_lt h (by decide) k)
theorem page_lt1000 {ns : List Int} (h : ∀ v ∈ ns, v.natAbs < 16 ^ 6) {N : Nat} (hN : N ≤ 8) : (⟨(pageL ns N).toArray⟩ : Str).length < 1000 := by
  have h1 := page_bound h N
  show (pageL ns N).toArray.size < 1000
  rw [List.size_toArray]; omega
theorem wl_81 (v : Int) : ∀ c ∈ wl v, 65 ≤ c ∧ c ≤ 81 := fun c hc => by
  unfold wl at hc
  split at hc
  · rcases List.mem_cons.mp hc with rfl | hc
    · decide
    · have := hx_mem _ c hc; omega
  · have := hx_mem _ c hc; omega
theorem cnt_wl (v : Int) : cnt 10 (wl v) = 0 := cnt_none 10 _ fun h => by have := wl_81 v 10 h; omega
theorem cnt_esc : ∀ l : List Nat, (∀ c ∈ l, 65 ≤ c ∧ c ≤ 81) → cnt 10 (esc l) = 0
  | [], _ => rfl
  | c :: r, h => by
    have e : esc (c :: r) = 92 :: c :: esc r := rfl
    rw [e, cnt_cons, cnt_cons, cnt_esc r fun x hx => h x (.tail _ hx), if_neg (by decide), if_neg (by have := h c (.head _); omega)]; rfl
theorem jw_cons (c : Nat) (r : List Nat) : jw (c :: r) = c :: esc r := rfl
theorem cnt_page (ns : List Int) : ∀ k, cnt 10 (pageL ns k) = ((cntQ ns k : Nat) : Int)
  | 0 => rfl
  | k + 1 => by
    rw [pageL, cnt_append, cnt_page ns k]
    by_cases h : quo ns k = true
    · rw [show cntQ ns (k + 1) = cntQ ns k + 1 from congrArg (cntQ ns k + ·) (if_pos h), piece, if_pos h, cnt_cons, cnt_append, cnt_wl, if_neg (by decide)]
      have : cnt 10 [34, 10] = 1 := by decide +kernel
      rw [this]; omega
    · rw [show cntQ ns (k + 1) = cntQ ns k + 0 from congrArg (cntQ ns k + ·) (if_neg h), piece, if_neg h, cnt_cons, cnt_append, if_neg (by decide)]
      have h9 : cnt 10 [9] = 0 := by decide +kernel
      have hj : cnt 10 (jw (wl (ns.getD k 0))) = 0 := by
        have h81 := wl_81 (ns.getD k 0)
        cases hc : wl (ns.getD k 0) with
        | nil => rfl
        | cons c r => rw [hc] at h81; rw [jw_cons, cnt_cons, cnt_esc r fun x hx => h81 x (.tail _ hx), if_neg (by have := h81 c (.head _); omega)]; rfl
      rw [h9, hj]; omega
theorem count_page (ns : List Int) (k : Nat) : Txt.count ⟨(pageL ns k).toArray⟩ (Str.ofString "\n") = ((cntQ ns k : Nat) : Int) := by
  have e : Str.ofString "\n" = ⟨#[10]⟩ := by decide +kernel
  rw [e, count_cnt]
  exact cnt_page ns k
theorem quo_ne {ns : List Int} {j : Nat} (h : ¬ quo ns j = true) : wl (ns.getD j 0) ≠ [] := fun e => by
  apply h
  unfold quo
  rw [wl_nil.mp e]
  simp
/-- the next token of the page: the number j -/
theorem tok_spec (w : World) (loose : List Str) (mean : ExcName → Option Value) (mg mb : Str → Option Value) (rest : List (Addr × Obj)) (ns : List Int) (N j : Nat) (x d pb la st : Addr) (k1 k2 k3 k4 k5 k6 ti : Tok) (nq nl : Nat) (hj : j < N) (hx : (⟨(pageL ns N).toArray⟩ : Str).length < 1000) (hM : Mach w loose mean mg mb x d pb la st ⟨(pageL ns N).toArray⟩ rest) :
    Asks 16 w loose mean mg mb 76 ((pb, W.listOf #[] nq) :: (x, instObj 86 d) :: (d, mDict w (1 + ((lnOf ns j : Nat) : Int)) st pb k1 k2 k3 k4 k5 k6) :: (la, W.listOf #[.int (posOf ns j : Nat) ti] nl) :: rest) [.ref x] (fun h₀ L m s Q => ∀ (k2' ti' t : Tok) (h' : Heap) (tk' : Nat), Fr h₀ L h' m →
      News h₀ L h' ((pb, W.listOf #[] nq) :: (x, instObj 86 d) :: (d, mDict w (1 + ((lnOf ns (j + 1) : Nat) : Int)) st pb k1 k2' k3 k4 k5 k6) :: (la, W.listOf #[.int (posOf ns (j + 1) : Nat) ti'] nl) :: rest) →
        Q (.str ⟨(wl (ns.getD j 0)).toArray⟩ t) { s with heap := h', toks := tk' }) := by
  obtain ⟨t, ht⟩ := drop_tok ns hj
  have hp := pos_le ns (Nat.le_of_lt hj)
  have hle := ws_le ns j
  have h81 := wl_81 (ns.getD j 0)
  have hsg : sg ⟨(pageL ns N).toArray⟩ = pageL ns N := rfl
  have hpl : posOf ns j ≤ (⟨(pageL ns N).toArray⟩ : Str).length := by
    show _ ≤ (pageL ns N).toArray.size
    rw [List.size_toArray]; exact hp
  have hln : (1 : Int) + ((lnOf ns j : Nat) : Int) + nlOf (wsOf ns j) = 1 + ((lnOf ns (j + 1) : Nat) : Int) := by
    rw [Int.add_assoc, ln_ws]; rfl
  by_cases hq : quo ns j = true
  · have hpos : posOf ns (j + 1) + 1 = (pageL ns j).length + (piece (quo ns j) (wl (ns.getD j 0))).length := by
      have h2 := ws_le ns (j + 1)
      unfold posOf
      rw [show wsOf ns (j + 1) = [10] from if_pos hq] at h2 ⊢
      rw [pageL, List.length_append] at h2 ⊢
      have : [10].length = 1 := rfl
      omega
    unfold piece at ht hpos
    rw [if_pos hq] at ht hpos
    have hd : (sg ⟨(pageL ns N).toArray⟩).drop (posOf ns j) = wsOf ns j ++ 34 :: (wl (ns.getD j 0) ++ 34 :: (10 :: t)) := by rw [hsg, ht]; simp
    refine asks_sub (get_token_quoted w loose mean mg mb rest ⟨(pageL ns N).toArray⟩ x d pb la st k1 k2 k3 k4 k5 k6 ti nq nl (posOf ns j) (1 + ((lnOf ns j : Nat) : Int)) (wsOf ns j) (wl (ns.getD j 0)) (10 :: t) (ws_cases ns j) h81 hd hpl hx hM) (fun p hp => hp) fun _ _ _ _ _ h k2' ti' t' h' tk' F Nw => h k2' ti' t' h' tk' F ?_
    rw [hln] at Nw
    rw [show posOf ns j + (wsOf ns j).length + 1 + (wl (ns.getD j 0)).length + 1 = posOf ns (j + 1) by
      unfold posOf at hpos ⊢; simp only [List.length_cons, List.length_append, List.length_nil] at hpos; omega] at Nw
    exact Nw
  · have hhx := quo_ne hq
    have hpos : posOf ns (j + 1) = (pageL ns j).length + (piece (quo ns j) (wl (ns.getD j 0))).length := by
      unfold posOf
      rw [show wsOf ns (j + 1) = [] from if_neg hq, pageL, List.length_append]
      rfl
    unfold piece at ht hpos
    rw [if_neg hq] at ht hpos
    cases hc : wl (ns.getD j 0) with
    | nil => exact absurd hc hhx
    | cons c0 r =>
      rw [hc] at ht hpos h81
      rw [jw_cons] at ht hpos
      have hd : (sg ⟨(pageL ns N).toArray⟩).drop (posOf ns j) = wsOf ns j ++ 92 :: c0 :: (esc r ++ 9 :: t) := by rw [hsg, ht]; simp
      refine asks_sub (get_token_bare w loose mean mg mb rest ⟨(pageL ns N).toArray⟩ x d pb la st k1 k2 k3 k4 k5 k6 ti nq nl (posOf ns j) (1 + ((lnOf ns j : Nat) : Int)) (wsOf ns j) r t c0 (ws_cases ns j) (h81 c0 (.head _)) (fun c h => h81 c (.tail _ h)) hd hpl hx hM) (fun p hp => hp) fun _ _ _ _ _ h k2' ti' t' h' tk' F Nw => h k2' ti' t' h' tk' F ?_
      rw [hln] at Nw
      rw [show posOf ns j + (wsOf ns j).length + 2 + (esc r).length + 1 = posOf ns (j + 1) by
        rw [hpos]; unfold posOf; simp only [List.length_cons, List.length_append, List.length_nil]; omega] at Nw
      exact Nw
/-- the token behind the last: nothing -/
theorem tok_end (w : World) (loose : List Str) (mean : ExcName → Option Value) (mg mb : Str → Option Value) (rest : List (Addr × Obj)) (ns : List Int) (N : Nat) (x d pb la st : Addr) (k1 k2 k3 k4 k5 k6 ti : Tok) (nq nl : Nat) (hx : (⟨(pageL ns N).toArray⟩ : Str).length < 1000) (hM : Mach w loose mean mg mb x d pb la st ⟨(pageL ns N).toArray⟩ rest) :
    Asks 16 w loose mean mg mb 76 ((pb, W.listOf #[] nq) :: (x, instObj 86 d) :: (d, mDict w (1 + ((lnOf ns N : Nat) : Int)) st pb k1 k2 k3 k4 k5 k6) :: (la, W.listOf #[.int (posOf ns N : Nat) ti] nl) :: rest) [.ref x] (fun h₀ L m s Q => ∀ (k2' ti' t : Tok) (p : Nat) (h' : Heap) (tk' : Nat), Fr h₀ L h' m →
      News h₀ L h' ((pb, W.listOf #[] nq) :: (x, instObj 86 d) :: (d, mDict w (1 + ((cntQ ns N : Nat) : Int)) st pb k1 k2' k3 k4 k5 k6) :: (la, W.listOf #[.int (p : Nat) ti'] nl) :: rest) →
        Q (.str ⟨([] : List Nat).toArray⟩ t) { s with heap := h', toks := tk' }) := by
  have hp := pos_le ns (Nat.le_refl N)
  have hpl : posOf ns N ≤ (⟨(pageL ns N).toArray⟩ : Str).length := by
    show _ ≤ (pageL ns N).toArray.size
    rw [List.size_toArray]; exact hp
  have hln : (1 : Int) + ((lnOf ns N : Nat) : Int) + nlOf (wsOf ns N) = 1 + ((cntQ ns N : Nat) : Int) := by rw [Int.add_assoc, ln_ws]
  refine asks_sub (get_token_end w loose mean mg mb rest ⟨(pageL ns N).toArray⟩ x d pb la st k1 k2 k3 k4 k5 k6 ti nq nl (posOf ns N) (1 + ((lnOf ns N : Nat) : Int)) (wsOf ns N) (ws_cases ns N) (drop_last ns N) hpl hx hM) (fun p hp => hp) fun _ _ _ _ _ h k2' ti' t' h' tk' F Nw => h k2' ti' t' (posOf ns N + (wsOf ns N).length) h' tk' F ?_
  rw [hln] at Nw
  exact Nw
end

section
/-- the outer loop's turn -/
inductive MvJ (x : Int) (tx : Tok) (ns : List Int) (D : Addr) (rest : List (Addr × Obj)) (i : Nat) (m : Str → Option Value) (nx : List (Addr × Obj)) : Prop
  | mk (m9 : Str → Option Value) (gs : List Value) (nn : Nat) (kc ke : Option Value) : IntsAre gs (mvO x ns ns.length i) → nx = (D, W.listOf gs.toArray nn) :: rest → m = ov1 (Str.ofString "k") (ov1 (Str.ofString "end") (ov1 (Str.ofString "rest") (ov1 (Str.ofString "spot") m9 (some (.int x tx))) (some (.ref D))) ke) kc → MvJ x tx ns D rest i m nx
/-- the inner loop's turn -/
inductive MvK (x : Int) (tx : Tok) (us : List Int) (I D : Addr) (o : Obj) (rest : List (Addr × Obj)) (j : Nat) (m : Str → Option Value) (nx : List (Addr × Obj)) : Prop
  | mk (m9 : Str → Option Value) (gs : List Value) (nn : Nat) (kc ke : Option Value) : IntsAre gs (mvI x us j) → nx = (I, o) :: (D, W.listOf gs.toArray nn) :: rest → m = ov1 (Str.ofString "k") (ov1 (Str.ofString "end") (ov1 (Str.ofString "rest") (ov1 (Str.ofString "spot") m9 (some (.int x tx))) (some (.ref D))) ke) kc → MvK x tx us I D o rest j m nx
theorem mv_step {x : Int} {us : List Int} {j : Nat} : (mvI x us j).set ((1 : Int) + (j : Nat)).toNat ((mvI x us j).getD ((1 : Int) + (j : Nat)).toNat 0 + x * (mvI x us j).getD ((1 : Int) + (j : Nat) - 1).toNat 0) = mvI x us (j + 1) := by
  rw [show ((1 : Int) + (j : Nat)).toNat = j + 1 by omega, show ((1 : Int) + (j : Nat) - 1).toNat = j by omega]; rfl
theorem mv_ints {vs : List Value} {x : Int} {us : List Int} {j : Nat} (h : IntsAre vs ((mvI x us j).set ((1 : Int) + (j : Nat)).toNat ((mvI x us j).getD ((1 : Int) + (j : Nat)).toNat 0 + x * (mvI x us j).getD ((1 : Int) + (j : Nat) - 1).toNat 0))) : IntsAre vs (mvI x us (j + 1)) := mv_step ▸ h
namespace law_moved_spec_K
noncomputable def P9 (w : World) (loose : List Str) (mean : ExcName → Option Value) (mg : Str → Option Value) (mb : Str → Option Value) (dp : Nat) (un : Nat) (gd : Option (List Code)) (cn : Str) (cs : Scope) (a : Addr) (ccd : Value) (cl : List (Str × Addr)) (outer : List Env) (A₀ : Around) (base : Heap) (h₀ : Heap) (L : Addr) (m : Str → Option Value) (s : Shared) (Q : Value → Shared → Prop) (E : Value → Shared → Prop) (rest : List (Addr × Obj)) (l : Addr) (ns : List Int) (its : List Value) (n : Nat) (x : Int) (tx : Tok) : Prop :=
  (hi : IntsAre its ns) → (hl : ns.length ≤ 6) → (h1 : 1 ≤ ns.length) → (hx : x.natAbs ≤ 7) → (hm : (l, W.listOf its.toArray n) ∈ rest) → AskV 10 w loose mean mg mb 147 rest [.ref l, .int x tx] (fun h₀ L m s Q => ∀ (D : Addr) (xs : List Value) (nn : Nat) (h' : Heap) (tk' : Nat), IntsAre xs (movedL x ns) → (∀ p ∈ rest, p.1 ≠ D) → Fr h₀ L h' m → News h₀ L h' ((D, W.listOf xs.toArray nn) :: rest) → Q (.ref D) { s with heap := h', toks := tk' }) dp un gd cn cs a ccd cl outer A₀ base h₀ L m s Q E
noncomputable def PV9 (v : K9 × (List (Addr × Obj)) × (Addr) × (List Int) × (List Value) × (Nat) × (Int) × (Tok)) : Prop := P9 v.1.1 v.1.2.1 v.1.2.2.1 v.1.2.2.2.1 v.1.2.2.2.2.1 v.1.2.2.2.2.2.1 v.1.2.2.2.2.2.2.1 v.1.2.2.2.2.2.2.2.1 v.1.2.2.2.2.2.2.2.2.1 v.1.2.2.2.2.2.2.2.2.2.1 v.1.2.2.2.2.2.2.2.2.2.2.1 v.1.2.2.2.2.2.2.2.2.2.2.2.1 v.1.2.2.2.2.2.2.2.2.2.2.2.2.1 v.1.2.2.2.2.2.2.2.2.2.2.2.2.2.1 v.1.2.2.2.2.2.2.2.2.2.2.2.2.2.2.1 v.1.2.2.2.2.2.2.2.2.2.2.2.2.2.2.2.1 v.1.2.2.2.2.2.2.2.2.2.2.2.2.2.2.2.2.1 v.1.2.2.2.2.2.2.2.2.2.2.2.2.2.2.2.2.2.1 v.1.2.2.2.2.2.2.2.2.2.2.2.2.2.2.2.2.2.2.1 v.1.2.2.2.2.2.2.2.2.2.2.2.2.2.2.2.2.2.2.2.1 v.1.2.2.2.2.2.2.2.2.2.2.2.2.2.2.2.2.2.2.2.2.1 v.1.2.2.2.2.2.2.2.2.2.2.2.2.2.2.2.2.2.2.2.2.2 v.2.1 v.2.2.1 v.2.2.2.1 v.2.2.2.2.1 v.2.2.2.2.2.1 v.2.2.2.2.2.2.1 v.2.2.2.2.2.2.2
theorem ex9 : ∃ c, PV9 c → ∀ v, PV9 v := sk9 ⟨(Classical.choice ne9, default, default, default, default, default, default, default)⟩ PV9
noncomputable def c9 : K9 × (List (Addr × Obj)) × (Addr) × (List Int) × (List Value) × (Nat) × (Int) × (Tok) := Classical.choose ex9
noncomputable def w : World := c9.1.1
noncomputable def loose : List Str := c9.1.2.1
noncomputable def mean : ExcName → Option Value := c9.1.2.2.1
noncomputable def mg : Str → Option Value := c9.1.2.2.2.1
noncomputable def mb : Str → Option Value := c9.1.2.2.2.2.1
noncomputable def h₀ : Heap := c9.1.2.2.2.2.2.2.2.2.2.2.2.2.2.2.2.2.1
noncomputable def L : Addr := c9.1.2.2.2.2.2.2.2.2.2.2.2.2.2.2.2.2.2.1
noncomputable def m : Str → Option Value := c9.1.2.2.2.2.2.2.2.2.2.2.2.2.2.2.2.2.2.2.1
noncomputable def s : Shared := c9.1.2.2.2.2.2.2.2.2.2.2.2.2.2.2.2.2.2.2.2.1
noncomputable def Q : Value → Shared → Prop := c9.1.2.2.2.2.2.2.2.2.2.2.2.2.2.2.2.2.2.2.2.2.1
noncomputable def E : Value → Shared → Prop := c9.1.2.2.2.2.2.2.2.2.2.2.2.2.2.2.2.2.2.2.2.2.2
noncomputable def rest : List (Addr × Obj) := c9.2.1
noncomputable def l : Addr := c9.2.2.1
noncomputable def ns : List Int := c9.2.2.2.1
noncomputable def its : List Value := c9.2.2.2.2.1
noncomputable def n : Nat := c9.2.2.2.2.2.1
noncomputable def x : Int := c9.2.2.2.2.2.2.1
noncomputable def tx : Tok := c9.2.2.2.2.2.2.2
end law_moved_spec_K
open law_moved_spec_K in
set_option maxHeartbeats 4000000 in
set_option maxRecDepth 100000 in
theorem law_moved_spec_at : P9 w loose mean mg mb (c9.1.2.2.2.2.2.1) (c9.1.2.2.2.2.2.2.1) (c9.1.2.2.2.2.2.2.2.1) (c9.1.2.2.2.2.2.2.2.2.1) (c9.1.2.2.2.2.2.2.2.2.2.1) (c9.1.2.2.2.2.2.2.2.2.2.2.1) (c9.1.2.2.2.2.2.2.2.2.2.2.2.1) (c9.1.2.2.2.2.2.2.2.2.2.2.2.2.1) (c9.1.2.2.2.2.2.2.2.2.2.2.2.2.2.1) (c9.1.2.2.2.2.2.2.2.2.2.2.2.2.2.2.1) (c9.1.2.2.2.2.2.2.2.2.2.2.2.2.2.2.2.1) h₀ L m s Q E rest l ns its n x tx := by
  k_with_none
  w_top off
  intro hi hl h1 hx hm B F X N T hk hdp hun codeHd hret
  have fill9 : Challenge.rw_sr0027_02 = Challenge.rw_sr0027_02 ∧ hd.heap_39 = hd.heap_39 := by k_fill; exact ⟨rfl, rfl⟩
  k_dflt (refine' code_def ?k1 ?k2 ?k3 ?k4 ?k5 ?kA ?kF ?kK ?k6 ?k7 ?k8 ?k9 ?kB ?_ ?c2 ?c3 ?c4 ?c5; (case kA => exact rfl); (case kF => exact rfl); (case kK => first | exact rfl | assumption); (case k1 => k_asm); (case k2 => k_asm); (case k3 => k_asm); (case k4 => k_asm); (case k5 => k_asm); (case k6 => k_is); (case k7 => k_is); (case k8 => ktr_room); (case k9 => first | exact BindsTo.of_eq rfl | exact binds_K (by k_in) rfl (by k_is) rfl rfl rfl | (refine' kp_binds ?kx ?ke; (case kx => k_in); (case ke => exact fun _ => rfl)) | fail "k9"); (case c5 => decide); (case kB => exact locs rfl); (case c2 => exact rfl); (case c3 => exact rfl); (case c4 => exact rfl))
  intro g1 L1 hh1 FG1 F1 N1 B1 X1 T1
  (try dsimp only); (try k_fold)
  have hlen : its.length = ns.length := hi.length
  have hsz : its.toArray.toList.length ≤ sizeLine := by rw [List.toList_toArray, hlen, sizeLine_eq]; omega
  (k_with "call type:list" => (k_dflt (refine' kup_listOf ?F ?N ?b (zs := its) ?e ?_ ?z; (case F => k_asm); (case N => k_asm); (case b => k_mem); (case e => exact List.toList_toArray); (case z => exact hsz)); intro D' c' h' F' N' l1; (try k_lt l1); (try k_sweep); (try k_fold)))
  (k_with "binaryOp Mult int int" => (with_reducible refine mul_int ?_ (mulOk hx _)))
  (k_with "exec For Name Call cons nil" => (refine Halt.h ?_))
  k_steps
  (with_reducible rename Fr g1 L1 _ _ => kF)
  (with_reducible rename News g1 L1 _ (_ :: _) => kN)
  refine ⟨lforStep (g := g1) ns.length (-1) (ns.length - 1) (MvJ x tx ns D' rest) rfl rfl rfl ?_ ?_ ?_⟩
  · k_steps
    exact ⟨⟨_, _, _, _, _, _, _, _, _, rfl, rfl, by assumption, small_down (by omega) (by omega) (by decide) (by decide), (rangeSize_downNat _ _).trans (by omega), by k_asm, by k_asm, ⟨_, _, _, _, _, hi, rfl, ov4s _ _ _ _ _ rfl rfl rfl rfl⟩⟩⟩
  · intro i t m₁ nx h tk I o hin hJ0_9 off kF2 kN2
    refine foldG9 ?_
    intro GG
    obtain ⟨m9, gs, nn, kc, ke, hgi, rfl, rfl⟩ := hJ0_9
    dsimp only [GG]
    clear GG
    have o1 := neN (off _ (.head _))
    have o4 : ∀ p ∈ rest, p.1 ≠ I := fun p hp => off p (.tail _ hp)
    dsimp only at o1
    have hgl : gs.length = ns.length := hgi.length.trans (mvO_len ..)
    k_steps
    refine ⟨lforRange (g := g1) 1 (ns.length - i - 1) (MvK x tx (mvO x ns ns.length i) I D' o rest) rfl rfl rfl ?_ ?_ ?_⟩
    · k_steps
      exact ⟨⟨_, _, _, _, _, _, _, _, _, rfl, rfl, by assumption, small_one (by decide) (by decide) (by omega) (by omega), (rangeSize_nat _ _).trans (by omega), by k_asm, by k_asm, ⟨_, _, _, _, _, hgi, rfl, ov4s _ _ _ _ _ rfl rfl rfl rfl⟩⟩⟩
    · intro j t' m₂ nx2 h2 tk2 I2 o2 hjn hJ1_9 off2 kF3 kN3
      refine foldG9 ?_
      intro GG
      obtain ⟨m92, gs2, nn2, kc2, ke2, hgi2, rfl, rfl⟩ := hJ1_9
      dsimp only [GG]
      clear GG
      have o21 := neN (off2 _ (.head _))
      have o22 := neN (off2 _ (.tail _ (.head _)))
      have o24 : ∀ p ∈ rest, p.1 ≠ I2 := fun p hp => off2 p (.tail _ (.tail _ hp))
      dsimp only at o21 o22
      have hgl2 : gs2.length = ns.length := hgi2.length.trans ((mvI_len ..).trans (mvO_len ..))
      k_steps
      (with_reducible rename IntsAre _ (List.set _ _ _) => hi3)
      exact ⟨⟨_, _, _, (I, o) :: (D', W.listOf _ nn2) :: rest, rfl, by k_asm, by k_asm, (fun p hp => by
        rcases List.mem_cons.mp hp with rfl | hp
        · exact o21
        rcases List.mem_cons.mp hp with rfl | hp
        · exact o22
        · exact o24 p hp), ⟨_, _, _, _, _, mv_ints hi3, rfl, ov4s _ _ _ _ _ rfl rfl rfl rfl⟩⟩⟩
    · intro m₂ nx2 h2 tk2 hJ2_4 kF3 kN3
      refine foldG9 ?_
      intro GG
      obtain ⟨m92, gs2, nn2, kc2, ke2, hgi2, rfl, rfl⟩ := hJ2_4
      dsimp only [GG]
      clear GG
      k_steps
      exact ⟨⟨_, _, _, (D', W.listOf gs2.toArray nn2) :: rest, rfl, by k_asm, by k_asm, (fun p hp => by
        rcases List.mem_cons.mp hp with rfl | hp
        · exact o1
        · exact o4 p hp), ⟨_, _, _, _, _, hgi2, rfl, ov4s _ _ _ _ _ rfl rfl rfl rfl⟩⟩⟩
  · intro m₁ nx h tk hJ3_4 kF2 kN2
    refine foldG9 ?_
    intro GG
    obtain ⟨m9, gs, nn, kc, ke, hgi, rfl, rfl⟩ := hJ3_4
    dsimp only [GG]
    clear GG
    k_steps
    exact hret D' gs nn _ _ hgi (fun p hp => Nat.ne_of_lt (l1 p hp)) (by k_asm) (by k_asm)

theorem law_moved_spec (w : World) (loose : List Str) (mean : ExcName → Option Value) (mg mb : Str → Option Value) (rest : List (Addr × Obj)) (l : Addr) (ns : List Int) (its : List Value) (n : Nat) (x : Int) (tx : Tok) (hi : IntsAre its ns) (hl : ns.length ≤ 6) (h1 : 1 ≤ ns.length) (hx : x.natAbs ≤ 7) (hm : (l, W.listOf its.toArray n) ∈ rest) :
    Asks 10 w loose mean mg mb 147 rest [.ref l, .int x tx] (fun h₀ L m s Q => ∀ (D : Addr) (xs : List Value) (nn : Nat) (h' : Heap) (tk' : Nat), IntsAre xs (movedL x ns) → (∀ p ∈ rest, p.1 ≠ D) → Fr h₀ L h' m → News h₀ L h' ((D, W.listOf xs.toArray nn) :: rest) → Q (.ref D) { s with heap := h', toks := tk' }) :=
  fun dp un gd cn cs a ccd cl outer A₀ base h₀ L m s Q E => Classical.choose_spec law_moved_spec_K.ex9 law_moved_spec_at ((w, loose, mean, mg, mb, dp, un, gd, cn, cs, a, ccd, cl, outer, A₀, base, h₀, L, m, s, Q, E), rest, l, ns, its, n, x, tx) hi hl h1 hx hm
end

section
/-- the signs of those that are not nought -/
noncomputable def sgL (cs : List Int) : List Bool := (cs.filter fun c => !decide (c = 0)).map fun c => decide (0 < c)
noncomputable def chL2 (bs : List Bool) : Nat → Nat
  | 0 => 0
  | j + 1 => chL2 bs j + (if bs.getD (j + 1) false = bs.getD j false then 0 else 1)
theorem chL2_cons (b c : Bool) (bs : List Bool) : ∀ j, chL2 (b :: c :: bs) (j + 1) = (if c = b then 0 else 1) + chL2 (c :: bs) j
  | 0 => by show 0 + _ = _ + 0; rw [Nat.zero_add, Nat.add_zero]; rfl
  | j + 1 => by
    show chL2 (b :: c :: bs) (j + 1) + _ = _ + (chL2 (c :: bs) j + _)
    rw [chL2_cons b c bs j, Nat.add_assoc]; rfl
theorem chL2_vc : ∀ (us : List Int) (b : Bool), chL2 (b :: sgL us) (sgL us).length = vc b us
  | [], b => rfl
  | u :: us, b => by
    by_cases h : u = 0
    · rw [vc_0 h, show sgL (u :: us) = sgL us by unfold sgL; rw [List.filter_cons_of_neg (by simp [h])]]
      exact chL2_vc us b
    · have e : sgL (u :: us) = decide (0 < u) :: sgL us := by unfold sgL; rw [List.filter_cons_of_pos (by simp [h]), List.map_cons]
      rw [e, List.length_cons, chL2_cons, chL2_vc us]
      show _ = (if u = 0 then _ else _)
      rw [if_neg h]
theorem sgL_snoc (cs : List Int) (c : Int) : sgL (cs ++ [c]) = if c = 0 then sgL cs else sgL cs ++ [decide (0 < c)] := by
  unfold sgL
  rw [List.filter_append]
  by_cases h : c = 0
  · rw [if_pos h, List.filter_cons_of_neg (by simp [h])]; simp
  · rw [if_neg h, List.filter_cons_of_pos (by simp [h])]; simp
theorem sg_snoc {cs : List Int} {j : Nat} {c : Int} (h : cs[j]? = some c) (h0 : c ≠ 0) : (sgL (cs.take j)).map Value.bool ++ [.bool (decide (c > 0))] = (sgL (cs.take (j + 1))).map Value.bool := by
  rw [List.take_add_one, h, Option.toList_some, sgL_snoc, if_neg h0, List.map_append]; rfl
theorem sg_skip {cs : List Int} {j : Nat} {c : Int} (h : cs[j]? = some c) (h0 : c = 0) : (sgL (cs.take j)).map Value.bool = (sgL (cs.take (j + 1))).map Value.bool := by
  rw [List.take_add_one, h, Option.toList_some, sgL_snoc, if_pos h0]
theorem ch_up {bs : List Bool} {ys : List Value} {y : Value} {j : Nat} (h : ys.length = chL2 bs j) (h2 : (bs.getD ((1 : Int) + (j : Nat)).toNat false != bs.getD ((1 : Int) + (j : Nat) - 1).toNat false) = true) : (ys ++ [y]).length = chL2 bs (j + 1) := by
  rw [show ((1 : Int) + (j : Nat)).toNat = j + 1 by omega, show ((1 : Int) + (j : Nat) - 1).toNat = j by omega] at h2
  rw [List.length_append, h]
  show _ = _ + (if _ then 0 else 1)
  rw [if_neg (by simpa using h2)]; rfl
theorem ch_st {bs : List Bool} {ys : List Value} {j : Nat} (h : ys.length = chL2 bs j) (h2 : (bs.getD ((1 : Int) + (j : Nat)).toNat false != bs.getD ((1 : Int) + (j : Nat) - 1).toNat false) = false) : ys.length = chL2 bs (j + 1) := by
  rw [show ((1 : Int) + (j : Nat)).toNat = j + 1 by omega, show ((1 : Int) + (j : Nat) - 1).toNat = j by omega] at h2
  rw [h]
  show _ = _ + (if _ then 0 else 1)
  rw [if_pos (by simpa using h2)]; rfl
theorem vc_le : ∀ (us : List Int) (b : Bool), vc b us ≤ us.length
  | [], _ => Nat.le_refl _
  | u :: us, b => by
    have h1 := vc_le us b
    have h2 := vc_le us (decide (0 < u))
    rw [List.length_cons]
    unfold vc
    split
    · omega
    · split <;> omega
theorem bools_map : ∀ bs : List Bool, PyProof.Rows.LSm.BoolsAre (bs.map Value.bool) bs
  | [] => .nil
  | b :: bs => .cons _ (bools_map bs)
theorem off1_all {D : Addr} : ∀ {l : List (Addr × Obj)}, LCg.Off1 D l → ∀ p ∈ l, p.1 ≠ D
  | [], _, _, h => nomatch h
  | q :: l, x, p, h => by
    rcases List.mem_cons.mp h with rfl | h
    · exact x.1
    · exact off1_all x.2 p h
theorem sgL_len (cs : List Int) : (sgL cs).length ≤ cs.length := by unfold sgL; rw [List.length_map]; exact List.length_filter_le ..
namespace law_changes_spec_K
noncomputable def P9 (w : World) (loose : List Str) (mean : ExcName → Option Value) (mg : Str → Option Value) (mb : Str → Option Value) (dp : Nat) (un : Nat) (gd : Option (List Code)) (cn : Str) (cs : Scope) (a : Addr) (ccd : Value) (cl : List (Str × Addr)) (outer : List Env) (A₀ : Around) (base : Heap) (h₀ : Heap) (L : Addr) (m : Str → Option Value) (s : Shared) (Q : Value → Shared → Prop) (E : Value → Shared → Prop) (rest : List (Addr × Obj)) (l : Addr) (us : List Int) (its : List Value) (n : Nat) : Prop :=
  (hi : IntsAre its (1 :: us)) → (hl : us.length ≤ 5) → (hm : (l, W.listOf its.toArray n) ∈ rest) → AskV 10 w loose mean mg mb 152 rest [.ref l] (fun h₀ L m s Q => ∀ (h' : Heap) (tk' : Nat) (t : Tok), Fr h₀ L h' m → News h₀ L h' rest → Q (.int (vc true us : Nat) t) { s with heap := h', toks := tk' }) dp un gd cn cs a ccd cl outer A₀ base h₀ L m s Q E
noncomputable def PV9 (v : K9 × (List (Addr × Obj)) × (Addr) × (List Int) × (List Value) × (Nat)) : Prop := P9 v.1.1 v.1.2.1 v.1.2.2.1 v.1.2.2.2.1 v.1.2.2.2.2.1 v.1.2.2.2.2.2.1 v.1.2.2.2.2.2.2.1 v.1.2.2.2.2.2.2.2.1 v.1.2.2.2.2.2.2.2.2.1 v.1.2.2.2.2.2.2.2.2.2.1 v.1.2.2.2.2.2.2.2.2.2.2.1 v.1.2.2.2.2.2.2.2.2.2.2.2.1 v.1.2.2.2.2.2.2.2.2.2.2.2.2.1 v.1.2.2.2.2.2.2.2.2.2.2.2.2.2.1 v.1.2.2.2.2.2.2.2.2.2.2.2.2.2.2.1 v.1.2.2.2.2.2.2.2.2.2.2.2.2.2.2.2.1 v.1.2.2.2.2.2.2.2.2.2.2.2.2.2.2.2.2.1 v.1.2.2.2.2.2.2.2.2.2.2.2.2.2.2.2.2.2.1 v.1.2.2.2.2.2.2.2.2.2.2.2.2.2.2.2.2.2.2.1 v.1.2.2.2.2.2.2.2.2.2.2.2.2.2.2.2.2.2.2.2.1 v.1.2.2.2.2.2.2.2.2.2.2.2.2.2.2.2.2.2.2.2.2.1 v.1.2.2.2.2.2.2.2.2.2.2.2.2.2.2.2.2.2.2.2.2.2 v.2.1 v.2.2.1 v.2.2.2.1 v.2.2.2.2.1 v.2.2.2.2.2
theorem ex9 : ∃ c, PV9 c → ∀ v, PV9 v := sk9 ⟨(Classical.choice ne9, default, default, default, default, default)⟩ PV9
noncomputable def c9 : K9 × (List (Addr × Obj)) × (Addr) × (List Int) × (List Value) × (Nat) := Classical.choose ex9
noncomputable def w : World := c9.1.1
noncomputable def loose : List Str := c9.1.2.1
noncomputable def mean : ExcName → Option Value := c9.1.2.2.1
noncomputable def mg : Str → Option Value := c9.1.2.2.2.1
noncomputable def mb : Str → Option Value := c9.1.2.2.2.2.1
noncomputable def h₀ : Heap := c9.1.2.2.2.2.2.2.2.2.2.2.2.2.2.2.2.2.1
noncomputable def L : Addr := c9.1.2.2.2.2.2.2.2.2.2.2.2.2.2.2.2.2.2.1
noncomputable def m : Str → Option Value := c9.1.2.2.2.2.2.2.2.2.2.2.2.2.2.2.2.2.2.2.1
noncomputable def s : Shared := c9.1.2.2.2.2.2.2.2.2.2.2.2.2.2.2.2.2.2.2.2.1
noncomputable def Q : Value → Shared → Prop := c9.1.2.2.2.2.2.2.2.2.2.2.2.2.2.2.2.2.2.2.2.2.1
noncomputable def E : Value → Shared → Prop := c9.1.2.2.2.2.2.2.2.2.2.2.2.2.2.2.2.2.2.2.2.2.2
noncomputable def rest : List (Addr × Obj) := c9.2.1
noncomputable def l : Addr := c9.2.2.1
noncomputable def us : List Int := c9.2.2.2.1
noncomputable def its : List Value := c9.2.2.2.2.1
noncomputable def n : Nat := c9.2.2.2.2.2
end law_changes_spec_K
open law_changes_spec_K in
set_option maxHeartbeats 4000000 in
set_option maxRecDepth 100000 in
theorem law_changes_spec_at : P9 w loose mean mg mb (c9.1.2.2.2.2.2.1) (c9.1.2.2.2.2.2.2.1) (c9.1.2.2.2.2.2.2.2.1) (c9.1.2.2.2.2.2.2.2.2.1) (c9.1.2.2.2.2.2.2.2.2.2.1) (c9.1.2.2.2.2.2.2.2.2.2.2.1) (c9.1.2.2.2.2.2.2.2.2.2.2.2.1) (c9.1.2.2.2.2.2.2.2.2.2.2.2.2.1) (c9.1.2.2.2.2.2.2.2.2.2.2.2.2.2.1) (c9.1.2.2.2.2.2.2.2.2.2.2.2.2.2.2.1) (c9.1.2.2.2.2.2.2.2.2.2.2.2.2.2.2.2.1) h₀ L m s Q E rest l us its n := by
  k_with_none
  w_top off
  intro hi hl hm B F X N T hk hdp hun codeHd hret
  have fill9 : Challenge.rw_sr0027_02 = Challenge.rw_sr0027_02 ∧ hd.heap_39 = hd.heap_39 := by k_fill; exact ⟨rfl, rfl⟩
  k_dflt (refine' code_defC ?k1 ?k2 ?k3 ?k4 ?k5 ?kA ?kF ?kK ?k6 ?k7 ?k8 ?k9 ?kB ?kD ?_ ?c2 ?c3 ?c4; (case kA => exact rfl); (case kF => exact rfl); (case kK => first | exact rfl | assumption); (case k1 => k_asm); (case k2 => k_asm); (case k3 => k_asm); (case k4 => k_asm); (case k5 => k_asm); (case k6 => k_is); (case k7 => k_is); (case k8 => ktr_room); (case k9 => first | exact BindsTo.of_eq rfl | exact binds_K (by k_in) rfl (by k_is) rfl rfl rfl); (case kB => exact rfl); (case kD => decide +kernel); (case c2 => exact rfl); (case c3 => exact rfl); (case c4 => exact rfl))
  intro g1 L1 hh1 tk1 cells1 FG1 F1 N1 Y1 B1 X1 T1 l1
  (try k_lt l1)
  k_cells Y1
  (try simp only [List.cons_append, List.nil_append] at N1)
  (try dsimp only); (try k_lift B1); (try k_fold)
  refine foldE9 ?_
  intro QQ9 EE9
  (with_reducible rename _ = Data.cell _ => d9)
  (k_with "CompSrcT" => (refine Halt.h ?_))
  (k_with "exec For Name Call cons nil" => (refine Halt.h ?_))
  k_steps
  have hlen : its.length = us.length + 1 := hi.length
  have hsz : its.toArray.size ≤ sizeLine := by rw [List.size_toArray, hlen, sizeLine_eq]; omega
  refine ⟨LCt.CompSrcT.ledger (by rfl) (by k_asm) (by k_asm) (by k_mem) hsz ?_⟩
  intro g'
  refine restInvT (J := fun j ys nx => ys = (sgL ((1 :: us).take j)).map Value.bool ∧ nx = _) ⟨rfl, rfl⟩ ?_ ?_
  · intro j v ys news I' oI C oC D m₂ h' tk' E' hj hP hJ hC hx F' N' off' ne'
    refine foldG9 ?_
    intro GG
    obtain ⟨rfl, rfl⟩ := hJ
    dsimp only [GG]
    clear GG
    obtain ⟨bn, tb, rfl, hbn⟩ := hi.at j v (by simpa using hP)
    k_steps
    · exact LCg.CompEnd.intro (by assumption) (by assumption) _ (fun p hp => hp) off' (.inr ⟨_, by k_mem, rfl, _, rfl⟩) ⟨⟨sg_snoc hbn (by assumption), rfl⟩⟩
    · exact LCg.CompEnd.intro (by assumption) (by assumption) _ (fun p hp => hp) off' (.inr ⟨_, by k_mem, rfl, _, rfl⟩) ⟨⟨sg_skip hbn (by assumption), rfl⟩⟩
  · intro ys news hJ
    refine foldG9 ?_
    intro GG
    obtain ⟨rfl, rfl⟩ := hJ
    dsimp only [GG]
    clear GG
    intro D h3 tk3 F3 N3 off3
    rw [List.take_of_length_le (by rw [List.size_toArray, hlen, List.length_cons]; exact Nat.le_refl _)] at N3
    have hsg : (sgL (1 :: us)).length = (sgL us).length + 1 := rfl
    have hsl := sgL_len us
    have hbo := bools_map (sgL (1 :: us))
    have hND := neN off3.1
    dsimp only at hND
    have hoD := off1_all off3.2
    have hC0 : ∀ p ∈ rest, p.1 ≠ L1 + 1 := fun p hp => Nat.ne_of_lt (Nat.lt_succ_of_lt (l1 p hp))
    refine storeX_C F3 N3 rfl (UpdF.tail (Ne.symm hND) (UpdF.head hC0)) d9 (fun h4 oc' F4 N4 hd4 => ?_) rfl rfl
    (try dsimp only)
    (try k_fold)
    clear N3 F3
    k_steps
    have hk5 : (sgL us).length ≤ 5 := Nat.le_trans hsl hl
    refine ⟨LCt.CompSrcT.range (n := (sgL us).length) (by rfl) (by k_asm) (by k_asm) (by assumption) (small_one (by decide) (by decide) (by rw [hsg]; omega) (by rw [hsg]; omega)) ((rangeSize_nat _ _).trans (by rw [hsg]; omega)) (by rw [sizeLine_eq]; omega) ?_⟩
    intro g''
    refine restInvT (J := fun j ys nx => ys.length = chL2 (sgL (1 :: us)) j ∧ nx = _) ⟨rfl, rfl⟩ ?_ ?_
    · intro j v ys news I' oI C oC D2 m₂ h' tk' E' hj hP hJ hC hx F' N' off' ne'
      refine foldG9 ?_
      intro GG
      obtain ⟨hyl, rfl⟩ := hJ
      obtain ⟨tv, rfl⟩ := hP
      dsimp only [GG]
      clear GG
      have hj1 : (1 : Int) + (j : Nat) < ((sgL (1 :: us)).length : Nat) := by rw [hsg]; omega
      k_steps
      · exact LCg.CompEnd.intro (by assumption) (by assumption) _ (fun p hp => hp) off' trivial ⟨⟨ch_up hyl (by assumption), rfl⟩⟩
      · exact LCg.CompEnd.intro (by assumption) (by assumption) _ (fun p hp => hp) off' trivial ⟨⟨ch_st hyl (by assumption), rfl⟩⟩
    · intro ys news hJ
      refine foldG9 ?_
      intro GG
      obtain ⟨hyl, rfl⟩ := hJ
      dsimp only [GG]
      clear GG
      intro D3 h5 tk5 F5 N5 off5
      have hvc : ys.length = vc true us := hyl.trans (chL2_vc us true)
      have hvl := vc_le us true
      (try dsimp only)
      (try k_sweep)
      (try k_fold)
      k_steps
      refine KM.len_K (n := vc true us) N5 (.head _) ((List.size_toArray ..).trans hvc) (by omega) ?_
      (try k_fold)
      k_steps
      (with_reducible rename News h₀ L _ (_ :: _) => kM)
      exact hret _ _ _ (by k_asm) (fun p hp => kM p (.tail _ (.tail _ (.tail _ hp))))

theorem law_changes_spec (w : World) (loose : List Str) (mean : ExcName → Option Value) (mg mb : Str → Option Value) (rest : List (Addr × Obj)) (l : Addr) (us : List Int) (its : List Value) (n : Nat) (hi : IntsAre its (1 :: us)) (hl : us.length ≤ 5) (hm : (l, W.listOf its.toArray n) ∈ rest) :
    Asks 10 w loose mean mg mb 152 rest [.ref l] (fun h₀ L m s Q => ∀ (h' : Heap) (tk' : Nat) (t : Tok), Fr h₀ L h' m → News h₀ L h' rest → Q (.int (vc true us : Nat) t) { s with heap := h', toks := tk' }) :=
  fun dp un gd cn cs a ccd cl outer A₀ base h₀ L m s Q E => Classical.choose_spec law_changes_spec_K.ex9 law_changes_spec_at ((w, loose, mean, mg, mb, dp, un, gd, cn, cs, a, ccd, cl, outer, A₀, base, h₀, L, m, s, Q, E), rest, l, us, its, n) hi hl hm
end

section
theorem bit_eq : ∀ ch : Nat, ch < 32 → ∀ k : Nat, k < 5 → decide (Builtin.bitAnd ((ch : Int).fdiv (2 ^ k)) 1 ≠ 0) = ch.testBit k := by decide +kernel
theorem bit_t {ch k : Nat} (hc : ch < 32) (hk : k < 5) (h : Builtin.bitAnd (((0 : Int) + (ch : Nat)).fdiv (2 ^ ((0 : Int) + (k : Nat)).toNat)) 1 ≠ 0) : ch.testBit k = true := by
  rw [show ((0 : Int) + (k : Nat)).toNat = k by omega, Int.zero_add] at h
  rw [← bit_eq ch hc k hk]; exact decide_eq_true h
theorem bit_f {ch k : Nat} (hc : ch < 32) (hk : k < 5) (h : Builtin.bitAnd (((0 : Int) + (ch : Nat)).fdiv (2 ^ ((0 : Int) + (k : Nat)).toNat)) 1 = 0) : ch.testBit k = false := by
  rw [show ((0 : Int) + (k : Nat)).toNat = k by omega, Int.zero_add] at h
  rw [← bit_eq ch hc k hk]; exact decide_eq_false (fun z => z h)
theorem chP_t {rs : List Int} {ch k : Nat} (h : ch.testBit k = true) : -chP rs ch k * rs.getD ((0 : Int) + (k : Nat)).toNat 0 = chP rs ch (k + 1) := by
  rw [show ((0 : Int) + (k : Nat)).toNat = k by omega]
  show _ = if _ then _ else _
  rw [if_pos h]
theorem chP_f {rs : List Int} {ch k : Nat} (h : ch.testBit k = false) : chP rs ch k = chP rs ch (k + 1) := by
  show _ = if _ then _ else _
  rw [if_neg (by rw [h]; exact Bool.false_ne_true)]
theorem chS_t {ch k : Nat} (h : ch.testBit k = true) : ((chS ch k : Nat) : Int) + 1 = ((chS ch (k + 1) : Nat) : Int) := by
  show _ = (((if _ then _ else _ : Nat)) : Int)
  rw [if_pos h]; rfl
theorem chS_f {ch k : Nat} (h : ch.testBit k = false) : ((chS ch k : Nat) : Int) = ((chS ch (k + 1) : Nat) : Int) := by
  show _ = (((if _ then _ else _ : Nat)) : Int)
  rw [if_neg (by rw [h]; exact Bool.false_ne_true)]
theorem off1_all2 {D : Addr} : ∀ {l : List (Addr × Obj)}, LCg.Off1 D l → ∀ p ∈ l, p.1 ≠ D
  | [], _, _, h => nomatch h
  | q :: l, x, p, h => by
    rcases List.mem_cons.mp h with rfl | h
    · exact x.1
    · exact off1_all2 x.2 p h
theorem two_pow (n : Nat) : (2 : Int) ^ ((n : Nat) : Int).toNat = ((2 ^ n : Nat) : Int) := by rw [Int.toNat_natCast]; exact (Int.natCast_pow 2 n).symm
theorem rg_small {n : Nat} (h : 2 ^ n ≤ 32) : Builtin.Range.small 0 ((2 : Int) ^ ((n : Nat) : Int).toNat) 1 = true := by
  rw [two_pow]
  generalize 2 ^ n = P at *
  exact small_one (by decide) (by decide) (by omega) (by omega)
theorem rg_size (n : Nat) : Builtin.Range.rangeSize 0 ((2 : Int) ^ ((n : Nat) : Int).toNat) 1 = ((2 ^ n : Nat) : Int) := by
  rw [two_pow, rangeSize_nat]
  generalize 2 ^ n = P
  omega
theorem chS_le (ch : Nat) : ∀ k, chS ch k ≤ k
  | 0 => Nat.le_refl _
  | k + 1 => by
    have := chS_le ch k
    show (if ch.testBit k then chS ch k + 1 else chS ch k) ≤ k + 1
    split <;> omega
theorem chL_len (rs : List Int) : ∀ i, (chL rs i).length = rs.length + 1
  | 0 => List.length_replicate ..
  | i + 1 => (List.length_set ..).trans (chL_len rs i)
theorem chL_step {rs : List Int} {i : Nat} {vs : List Value} (h : IntsAre vs ((chL rs i).set ((chS i rs.length : Nat) : Int).toNat ((chL rs i).getD ((chS i rs.length : Nat) : Int).toNat 0 + chP rs i rs.length))) : IntsAre vs (chL rs (i + 1)) := h
theorem getD_nat {rs : List Int} (hb : ∀ v ∈ rs, v.natAbs ≤ 7) (i : Nat) : (rs.getD i 0).natAbs ≤ 7 := by
  rw [List.getD_eq_getElem?_getD]
  cases h : rs[i]? with
  | none => exact Nat.zero_le _
  | some v => exact hb v (List.mem_of_getElem? h)
/-- a choice's turn -/
inductive CcJ (rs : List Int) (l D : Addr) (rest : List (Addr × Obj)) (i : Nat) (m : Str → Option Value) (nx : List (Addr × Obj)) : Prop
  | mk (m9 : Str → Option Value) (gs : List Value) (nn : Nat) (kc sz pr ch : Option Value) : IntsAre gs (chL rs i) → nx = (D, W.listOf gs.toArray nn) :: rest → m = ov1 (Str.ofString "k") (ov1 (Str.ofString "size") (ov1 (Str.ofString "product") (ov1 (Str.ofString "choice") (ov1 (Str.ofString "sums") (ov1 (Str.ofString "roots") m9 (some (.ref l))) (some (.ref D))) ch) pr) sz) kc → CcJ rs l D rest i m nx
/-- a root's turn -/
inductive CcK (rs : List Int) (l I D : Addr) (o : Obj) (rest : List (Addr × Obj)) (gs : List Value) (nn : Nat) (ch : Nat) (k : Nat) (m : Str → Option Value) (nx : List (Addr × Obj)) : Prop
  | mk (m9 : Str → Option Value) (kc : Option Value) (t1 t2 t3 : Tok) : nx = (I, o) :: (D, W.listOf gs.toArray nn) :: rest → m = ov1 (Str.ofString "k") (ov1 (Str.ofString "size") (ov1 (Str.ofString "product") (ov1 (Str.ofString "choice") (ov1 (Str.ofString "sums") (ov1 (Str.ofString "roots") m9 (some (.ref l))) (some (.ref D))) (some (.int ((0 : Int) + (ch : Nat)) t1))) (some (.int (chP rs ch k) t2))) (some (.int ((chS ch k : Nat) : Int) t3))) kc → CcK rs l I D o rest gs nn ch k m nx
namespace law_by_choices_spec_K
noncomputable def P9 (w : World) (loose : List Str) (mean : ExcName → Option Value) (mg : Str → Option Value) (mb : Str → Option Value) (dp : Nat) (un : Nat) (gd : Option (List Code)) (cn : Str) (cs : Scope) (a : Addr) (ccd : Value) (cl : List (Str × Addr)) (outer : List Env) (A₀ : Around) (base : Heap) (h₀ : Heap) (L : Addr) (m : Str → Option Value) (s : Shared) (Q : Value → Shared → Prop) (E : Value → Shared → Prop) (rest : List (Addr × Obj)) (l : Addr) (rs : List Int) (its : List Value) (n : Nat) : Prop :=
  (hi : IntsAre its rs) → (hl : rs.length ≤ 5) → (hb : ∀ v ∈ rs, v.natAbs ≤ 7) → (hm : (l, W.listOf its.toArray n) ∈ rest) → AskV 10 w loose mean mg mb 140 rest [.ref l] (fun h₀ L m s Q => ∀ (D : Addr) (xs : List Value) (nn : Nat) (h' : Heap) (tk' : Nat), IntsAre xs (chL rs (2 ^ rs.length)) → (∀ p ∈ rest, p.1 ≠ D) → Fr h₀ L h' m → News h₀ L h' ((D, W.listOf xs.toArray nn) :: rest) → Q (.ref D) { s with heap := h', toks := tk' }) dp un gd cn cs a ccd cl outer A₀ base h₀ L m s Q E
noncomputable def PV9 (v : K9 × (List (Addr × Obj)) × (Addr) × (List Int) × (List Value) × (Nat)) : Prop := P9 v.1.1 v.1.2.1 v.1.2.2.1 v.1.2.2.2.1 v.1.2.2.2.2.1 v.1.2.2.2.2.2.1 v.1.2.2.2.2.2.2.1 v.1.2.2.2.2.2.2.2.1 v.1.2.2.2.2.2.2.2.2.1 v.1.2.2.2.2.2.2.2.2.2.1 v.1.2.2.2.2.2.2.2.2.2.2.1 v.1.2.2.2.2.2.2.2.2.2.2.2.1 v.1.2.2.2.2.2.2.2.2.2.2.2.2.1 v.1.2.2.2.2.2.2.2.2.2.2.2.2.2.1 v.1.2.2.2.2.2.2.2.2.2.2.2.2.2.2.1 v.1.2.2.2.2.2.2.2.2.2.2.2.2.2.2.2.1 v.1.2.2.2.2.2.2.2.2.2.2.2.2.2.2.2.2.1 v.1.2.2.2.2.2.2.2.2.2.2.2.2.2.2.2.2.2.1 v.1.2.2.2.2.2.2.2.2.2.2.2.2.2.2.2.2.2.2.1 v.1.2.2.2.2.2.2.2.2.2.2.2.2.2.2.2.2.2.2.2.1 v.1.2.2.2.2.2.2.2.2.2.2.2.2.2.2.2.2.2.2.2.2.1 v.1.2.2.2.2.2.2.2.2.2.2.2.2.2.2.2.2.2.2.2.2.2 v.2.1 v.2.2.1 v.2.2.2.1 v.2.2.2.2.1 v.2.2.2.2.2
theorem ex9 : ∃ c, PV9 c → ∀ v, PV9 v := sk9 ⟨(Classical.choice ne9, default, default, default, default, default)⟩ PV9
noncomputable def c9 : K9 × (List (Addr × Obj)) × (Addr) × (List Int) × (List Value) × (Nat) := Classical.choose ex9
noncomputable def w : World := c9.1.1
noncomputable def loose : List Str := c9.1.2.1
noncomputable def mean : ExcName → Option Value := c9.1.2.2.1
noncomputable def mg : Str → Option Value := c9.1.2.2.2.1
noncomputable def mb : Str → Option Value := c9.1.2.2.2.2.1
noncomputable def h₀ : Heap := c9.1.2.2.2.2.2.2.2.2.2.2.2.2.2.2.2.2.1
noncomputable def L : Addr := c9.1.2.2.2.2.2.2.2.2.2.2.2.2.2.2.2.2.2.1
noncomputable def m : Str → Option Value := c9.1.2.2.2.2.2.2.2.2.2.2.2.2.2.2.2.2.2.2.1
noncomputable def s : Shared := c9.1.2.2.2.2.2.2.2.2.2.2.2.2.2.2.2.2.2.2.2.1
noncomputable def Q : Value → Shared → Prop := c9.1.2.2.2.2.2.2.2.2.2.2.2.2.2.2.2.2.2.2.2.2.1
noncomputable def E : Value → Shared → Prop := c9.1.2.2.2.2.2.2.2.2.2.2.2.2.2.2.2.2.2.2.2.2.2
noncomputable def rest : List (Addr × Obj) := c9.2.1
noncomputable def l : Addr := c9.2.2.1
noncomputable def rs : List Int := c9.2.2.2.1
noncomputable def its : List Value := c9.2.2.2.2.1
noncomputable def n : Nat := c9.2.2.2.2.2
end law_by_choices_spec_K
open law_by_choices_spec_K in
set_option maxHeartbeats 4000000 in
set_option maxRecDepth 100000 in
theorem law_by_choices_spec_at : P9 w loose mean mg mb (c9.1.2.2.2.2.2.1) (c9.1.2.2.2.2.2.2.1) (c9.1.2.2.2.2.2.2.2.1) (c9.1.2.2.2.2.2.2.2.2.1) (c9.1.2.2.2.2.2.2.2.2.2.1) (c9.1.2.2.2.2.2.2.2.2.2.2.1) (c9.1.2.2.2.2.2.2.2.2.2.2.2.1) (c9.1.2.2.2.2.2.2.2.2.2.2.2.2.1) (c9.1.2.2.2.2.2.2.2.2.2.2.2.2.2.1) (c9.1.2.2.2.2.2.2.2.2.2.2.2.2.2.2.1) (c9.1.2.2.2.2.2.2.2.2.2.2.2.2.2.2.2.1) h₀ L m s Q E rest l rs its n := by
  k_with_none
  w_top off
  intro hi hl hb hm B F X N T hk hdp hun codeHd hret
  have fill9 : Challenge.rw_sr0027_02 = Challenge.rw_sr0027_02 ∧ hd.heap_39 = hd.heap_39 := by k_fill; exact ⟨rfl, rfl⟩
  k_dflt (refine' code_def ?k1 ?k2 ?k3 ?k4 ?k5 ?kA ?kF ?kK ?k6 ?k7 ?k8 ?k9 ?kB ?_ ?c2 ?c3 ?c4 ?c5; (case kA => exact rfl); (case kF => exact rfl); (case kK => first | exact rfl | assumption); (case k1 => k_asm); (case k2 => k_asm); (case k3 => k_asm); (case k4 => k_asm); (case k5 => k_asm); (case k6 => k_is); (case k7 => k_is); (case k8 => ktr_room); (case k9 => first | exact BindsTo.of_eq rfl | exact binds_K (by k_in) rfl (by k_is) rfl rfl rfl | (refine' kp_binds ?kx ?ke; (case kx => k_in); (case ke => exact fun _ => rfl)) | fail "k9"); (case c5 => decide); (case kB => exact locs rfl); (case c2 => exact rfl); (case c3 => exact rfl); (case c4 => exact rfl))
  intro g1 L1 hh1 FG1 F1 N1 B1 X1 T1
  (try dsimp only); (try k_fold)
  have hlen : its.length = rs.length := hi.length
  have hb' := getD_nat hb
  (k_with "binaryOp Mult int int" => (with_reducible refine mul_int ?_ (mulOkR (hb' _) _)))
  (k_with "call builtin:len" => (refine KM.len_K (n := rs.length) (by k_asm) (by k_mem) ((List.size_toArray ..).trans hlen) (by omega) ?_))
  (k_with "CompSrc" => (refine Halt.h ?_))
  (k_with "exec For Name Call cons nil" => (refine Halt.h ?_))
  k_steps
  refine ⟨LCg.CompSrc.range (n := rs.length + 1) (by rfl) (by k_asm) (by k_asm) (by assumption) (small_one (by decide) (by decide) (by omega) (by omega)) ((rangeSize_nat _ _).trans (by omega)) (by rw [sizeLine_eq]; omega) ?_⟩
  intro g'
  refine restInv (J := fun j zs nx => IntsAre zs (List.replicate j 0) ∧ nx = _) ⟨.nil, rfl⟩ ?_ ?_
  · intro j v zs news I' oI C oC D m₂ h' tk' E' hj hP hJ hC hx F' N' off' ne'
    refine foldG9 ?_
    intro GG
    obtain ⟨hzs, rfl⟩ := hJ
    obtain ⟨tv, rfl⟩ := hP
    dsimp only [GG]
    clear GG
    k_steps
    exact LCg.CompEnd.intro (by assumption) (by assumption) _ (fun p hp => hp) off' trivial ⟨⟨(by rw [List.replicate_succ']; exact hzs.append (.cons _ _ .nil)), rfl⟩⟩
  · intro zs news hJ
    refine foldG9 ?_
    intro GG
    obtain ⟨hzs, e9⟩ := hJ
    have e9 := e9.symm
    subst e9
    dsimp only [GG]
    clear GG
    intro D h3 tk3 F3 N3 off3
    have hoD := off1_all2 off3
    (try dsimp only)
    (try k_sweep)
    (try k_fold)
    k_steps
    (try clear F1); (try clear N1)
    have hp2 : 2 ^ rs.length ≤ 32 := Nat.le_trans (Nat.pow_le_pow_right (by decide) hl) (by decide)
    refine ⟨lforRange (g := g1) 0 (2 ^ rs.length) (CcJ rs l D rest) rfl rfl rfl ?_ ?_ ?_⟩
    · k_steps
      exact ⟨⟨_, _, _, _, _, _, _, _, _, rfl, rfl, by assumption, rg_small hp2, rg_size _, by k_asm, by k_asm, ⟨_, _, _, _, _, _, _, hzs, rfl, ov6s _ _ _ _ _ _ _ rfl rfl rfl rfl rfl rfl⟩⟩⟩
    · intro i t m₁ nx h tk I o hin hJ0_9 off kF2 kN2
      refine foldG9 ?_
      intro GG
      obtain ⟨m9, gs, nn, kc, sz, pr, ch, hgi, rfl, rfl⟩ := hJ0_9
      dsimp only [GG]
      clear GG
      have o1 := neN (off _ (.head _))
      have o4 : ∀ p ∈ rest, p.1 ≠ I := fun p hp => off p (.tail _ hp)
      dsimp only at o1
      have hgl : gs.length = rs.length + 1 := hgi.length.trans (chL_len ..)
      k_steps
      refine ⟨lforRange (g := g1) 0 rs.length (CcK rs l I D o rest gs nn i) rfl rfl rfl ?_ ?_ ?_⟩
      · k_steps
        exact ⟨⟨_, _, _, _, _, _, _, _, _, rfl, rfl, by assumption, small_one (by decide) (by decide) (by omega) (by omega), (rangeSize_nat _ _).trans (by omega), by k_asm, by k_asm, ⟨_, _, _, _, _, rfl, ov6s _ _ _ _ _ _ _ rfl rfl rfl rfl rfl rfl⟩⟩⟩
      · intro k t' m₂ nx2 h2 tk2 I2 o2 hkn hJ1_9 off2 kF3 kN3
        refine foldG9 ?_
        intro GG
        obtain ⟨m92, kc2, t1, t2, t3, rfl, rfl⟩ := hJ1_9
        dsimp only [GG]
        clear GG
        have o21 := neN (off2 _ (.head _))
        have o22 := neN (off2 _ (.tail _ (.head _)))
        have o24 : ∀ p ∈ rest, p.1 ≠ I2 := fun p hp => off2 p (.tail _ (.tail _ hp))
        dsimp only at o21 o22
        k_steps
        · (with_reducible rename Builtin.bitAnd _ _ ≠ 0 => hb9)
          have hb8 := bit_t (Nat.lt_of_lt_of_le hin hp2) (Nat.lt_of_lt_of_le hkn hl) hb9
          exact ⟨⟨_, _, _, (I, o) :: (D, W.listOf gs.toArray nn) :: rest, rfl, by k_asm, by k_asm, off2, ⟨_, _, _, _, _, rfl, ov6s _ _ _ _ _ _ _ rfl (congrArg (fun z => some (Value.int z _)) (chS_t hb8)) (congrArg (fun z => some (Value.int z _)) (chP_t hb8)) rfl rfl rfl⟩⟩⟩
        · (with_reducible rename Builtin.bitAnd _ _ = 0 => hb9)
          have hb8 := bit_f (Nat.lt_of_lt_of_le hin hp2) (Nat.lt_of_lt_of_le hkn hl) hb9
          exact ⟨⟨_, _, _, (I, o) :: (D, W.listOf gs.toArray nn) :: rest, rfl, by k_asm, by k_asm, off2, ⟨_, _, _, _, _, rfl, ov6s _ _ _ _ _ _ _ rfl (congrArg (fun z => some (Value.int z _)) (chS_f hb8)) (congrArg (fun z => some (Value.int z _)) (chP_f hb8)) rfl rfl rfl⟩⟩⟩
      · intro m₂ nx2 h2 tk2 hJ2_4 kF3 kN3
        refine foldG9 ?_
        intro GG
        obtain ⟨m92, kc2, t1, t2, t3, rfl, rfl⟩ := hJ2_4
        dsimp only [GG]
        clear GG
        have hcl := chL_len rs i
        have hsl := chS_le i rs.length
        k_steps
        (with_reducible rename IntsAre _ (List.set _ _ _) => hi3)
        exact ⟨⟨_, _, _, (D, W.listOf _ nn) :: rest, rfl, by k_asm, by k_asm, (fun p hp => by
          rcases List.mem_cons.mp hp with rfl | hp
          · exact o1
          · exact o4 p hp), ⟨_, _, _, _, _, _, _, chL_step hi3, rfl, ov6s _ _ _ _ _ _ _ rfl rfl rfl rfl rfl rfl⟩⟩⟩
    · intro m₁ nx h tk hJ3_4 kF2 kN2
      refine foldG9 ?_
      intro GG
      obtain ⟨m9, gs, nn, kc, sz, pr, ch, hgi, rfl, rfl⟩ := hJ3_4
      dsimp only [GG]
      clear GG
      k_steps
      exact hret D gs nn _ _ hgi hoD (by k_asm) (by k_asm)

theorem law_by_choices_spec (w : World) (loose : List Str) (mean : ExcName → Option Value) (mg mb : Str → Option Value) (rest : List (Addr × Obj)) (l : Addr) (rs : List Int) (its : List Value) (n : Nat) (hi : IntsAre its rs) (hl : rs.length ≤ 5) (hb : ∀ v ∈ rs, v.natAbs ≤ 7) (hm : (l, W.listOf its.toArray n) ∈ rest) :
    Asks 10 w loose mean mg mb 140 rest [.ref l] (fun h₀ L m s Q => ∀ (D : Addr) (xs : List Value) (nn : Nat) (h' : Heap) (tk' : Nat), IntsAre xs (chL rs (2 ^ rs.length)) → (∀ p ∈ rest, p.1 ≠ D) → Fr h₀ L h' m → News h₀ L h' ((D, W.listOf xs.toArray nn) :: rest) → Q (.ref D) { s with heap := h', toks := tk' }) :=
  fun dp un gd cn cs a ccd cl outer A₀ base h₀ L m s Q E => Classical.choose_spec law_by_choices_spec_K.ex9 law_by_choices_spec_at ((w, loose, mean, mg, mb, dp, un, gd, cn, cs, a, ccd, cl, outer, A₀, base, h₀, L, m, s, Q, E), rest, l, rs, its, n) hi hl hb hm
end

section
/-- where a coefficient stands that is not nought -/
noncomputable def nzL (cs : List Int) : Nat → List Int
  | 0 => []
  | j + 1 => if cs.getD j 0 = 0 then nzL cs j else nzL cs j ++ [(j : Int)]
theorem mem_nz {cs : List Int} {x : Int} : ∀ {j : Nat}, x ∈ nzL cs j ↔ ∃ k, k < j ∧ x = (k : Nat) ∧ cs.getD k 0 ≠ 0
  | 0 => ⟨fun h => (nomatch h), fun ⟨k, h, _⟩ => absurd h (Nat.not_lt_zero _)⟩
  | j + 1 => by
    unfold nzL
    split
    case isTrue h0 =>
      rw [mem_nz (j := j)]
      constructor
      · rintro ⟨k, h, e, z⟩; exact ⟨k, Nat.lt_succ_of_lt h, e, z⟩
      · rintro ⟨k, h, e, z⟩
        refine ⟨k, Nat.lt_of_le_of_ne (Nat.le_of_lt_succ h) fun z2 => ?_, e, z⟩
        subst z2; exact z h0
    case isFalse h0 =>
      rw [List.mem_append, List.mem_singleton, mem_nz (j := j)]
      constructor
      · rintro (⟨k, h, e, z⟩ | e)
        · exact ⟨k, Nat.lt_succ_of_lt h, e, z⟩
        · exact ⟨j, Nat.lt_succ_self j, e, h0⟩
      · rintro ⟨k, h, e, z⟩
        rcases Nat.lt_or_eq_of_le (Nat.le_of_lt_succ h) with h | h
        · exact .inl ⟨k, h, e, z⟩
        · subst h; exact .inr e
theorem dz_ne : ∀ (t : List Int) (k : Nat), t.getD k 0 ≠ 0 → k + 1 ≤ dz t
  | [], k, h => absurd (by simp) h
  | c :: cs, 0, h => by
    rw [dz_cons, if_neg (fun z => h z.2)]; omega
  | c :: cs, k + 1, h => by
    have := dz_ne cs k h
    rw [dz_cons, if_neg (fun z => by omega)]; omega
theorem dz_at : ∀ (t : List Int), dz t ≠ 0 → t.getD (dz t - 1) 0 ≠ 0
  | [], h => absurd rfl h
  | c :: cs, h => by
    rw [dz_cons] at h ⊢
    split at h
    case isTrue => exact absurd rfl h
    case isFalse h1 =>
      rw [if_neg h1]
      by_cases h2 : dz cs = 0
      · rw [h2]; exact fun z => h1 ⟨h2, z⟩
      · have := dz_at cs h2
        rw [show dz cs + 1 - 1 = (dz cs - 1) + 1 by omega]; exact this
theorem nz_max {us : List Int} {M : Int} (h1 : M ∈ nzL (1 :: us) (us.length + 1)) (h2 : ∀ a, a ∈ nzL (1 :: us) (us.length + 1) → a ≤ M) : M = (dz us : Nat) := by
  obtain ⟨k, hk, rfl, hz⟩ := mem_nz.mp h1
  have h3 : (1 :: us).getD (dz us) 0 ≠ 0 := by
    by_cases h : dz us = 0
    · rw [h]; exact fun z => by cases z
    · rw [show dz us = (dz us - 1) + 1 by omega]; exact dz_at us h
  have h4 := h2 (dz us : Nat) (mem_nz.mpr ⟨dz us, Nat.lt_succ_of_le (dz_le us), rfl, h3⟩)
  have h5 : k ≤ dz us := by
    cases k with
    | zero => exact Nat.zero_le _
    | succ k => exact dz_ne us k hz
  omega
theorem nz_ne (us : List Int) : 0 < (nzL (1 :: us) (us.length + 1)).length :=
  List.length_pos_of_mem (mem_nz.mpr ⟨0, Nat.zero_lt_succ _, rfl, by intro z; cases z⟩)
theorem nz_T {cs : List Int} {j : Nat} {ys : List Value} {t : Tok} (h : IntsAre ys (nzL cs j)) (h2 : cs.getD ((0 : Int) + (j : Nat)).toNat 0 ≠ 0) : IntsAre (ys ++ [.int ((0 : Int) + (j : Nat)) t]) (nzL cs (j + 1)) := by
  rw [show ((0 : Int) + (j : Nat)).toNat = j by omega] at h2
  unfold nzL
  rw [if_neg h2, Int.zero_add]
  exact h.append (.cons _ _ .nil)
theorem nz_F {cs : List Int} {j : Nat} {ys : List Value} (h : IntsAre ys (nzL cs j)) (h2 : cs.getD ((0 : Int) + (j : Nat)).toNat 0 = 0) : IntsAre ys (nzL cs (j + 1)) := by
  rw [show ((0 : Int) + (j : Nat)).toNat = j by omega] at h2
  unfold nzL
  rw [if_pos h2]; exact h
namespace law_noughts_spec_K
noncomputable def P9 (w : World) (loose : List Str) (mean : ExcName → Option Value) (mg : Str → Option Value) (mb : Str → Option Value) (dp : Nat) (un : Nat) (gd : Option (List Code)) (cn : Str) (cs : Scope) (a : Addr) (ccd : Value) (cl : List (Str × Addr)) (outer : List Env) (A₀ : Around) (base : Heap) (h₀ : Heap) (L : Addr) (m : Str → Option Value) (s : Shared) (Q : Value → Shared → Prop) (E : Value → Shared → Prop) (rest : List (Addr × Obj)) (l : Addr) (us : List Int) (its : List Value) (n : Nat) : Prop :=
  (hi : IntsAre its (1 :: us)) → (hl : us.length ≤ 5) → (hm : (l, W.listOf its.toArray n) ∈ rest) → AskV 10 w loose mean mg mb 162 rest [.ref l] (fun h₀ L m s Q => ∀ (h' : Heap) (tk' : Nat) (t : Tok), Fr h₀ L h' m → News h₀ L h' rest → Q (.int ((us.length : Nat) - (dz us : Nat)) t) { s with heap := h', toks := tk' }) dp un gd cn cs a ccd cl outer A₀ base h₀ L m s Q E
noncomputable def PV9 (v : K9 × (List (Addr × Obj)) × (Addr) × (List Int) × (List Value) × (Nat)) : Prop := P9 v.1.1 v.1.2.1 v.1.2.2.1 v.1.2.2.2.1 v.1.2.2.2.2.1 v.1.2.2.2.2.2.1 v.1.2.2.2.2.2.2.1 v.1.2.2.2.2.2.2.2.1 v.1.2.2.2.2.2.2.2.2.1 v.1.2.2.2.2.2.2.2.2.2.1 v.1.2.2.2.2.2.2.2.2.2.2.1 v.1.2.2.2.2.2.2.2.2.2.2.2.1 v.1.2.2.2.2.2.2.2.2.2.2.2.2.1 v.1.2.2.2.2.2.2.2.2.2.2.2.2.2.1 v.1.2.2.2.2.2.2.2.2.2.2.2.2.2.2.1 v.1.2.2.2.2.2.2.2.2.2.2.2.2.2.2.2.1 v.1.2.2.2.2.2.2.2.2.2.2.2.2.2.2.2.2.1 v.1.2.2.2.2.2.2.2.2.2.2.2.2.2.2.2.2.2.1 v.1.2.2.2.2.2.2.2.2.2.2.2.2.2.2.2.2.2.2.1 v.1.2.2.2.2.2.2.2.2.2.2.2.2.2.2.2.2.2.2.2.1 v.1.2.2.2.2.2.2.2.2.2.2.2.2.2.2.2.2.2.2.2.2.1 v.1.2.2.2.2.2.2.2.2.2.2.2.2.2.2.2.2.2.2.2.2.2 v.2.1 v.2.2.1 v.2.2.2.1 v.2.2.2.2.1 v.2.2.2.2.2
theorem ex9 : ∃ c, PV9 c → ∀ v, PV9 v := sk9 ⟨(Classical.choice ne9, default, default, default, default, default)⟩ PV9
noncomputable def c9 : K9 × (List (Addr × Obj)) × (Addr) × (List Int) × (List Value) × (Nat) := Classical.choose ex9
noncomputable def w : World := c9.1.1
noncomputable def loose : List Str := c9.1.2.1
noncomputable def mean : ExcName → Option Value := c9.1.2.2.1
noncomputable def mg : Str → Option Value := c9.1.2.2.2.1
noncomputable def mb : Str → Option Value := c9.1.2.2.2.2.1
noncomputable def h₀ : Heap := c9.1.2.2.2.2.2.2.2.2.2.2.2.2.2.2.2.2.1
noncomputable def L : Addr := c9.1.2.2.2.2.2.2.2.2.2.2.2.2.2.2.2.2.2.1
noncomputable def m : Str → Option Value := c9.1.2.2.2.2.2.2.2.2.2.2.2.2.2.2.2.2.2.2.1
noncomputable def s : Shared := c9.1.2.2.2.2.2.2.2.2.2.2.2.2.2.2.2.2.2.2.2.1
noncomputable def Q : Value → Shared → Prop := c9.1.2.2.2.2.2.2.2.2.2.2.2.2.2.2.2.2.2.2.2.2.1
noncomputable def E : Value → Shared → Prop := c9.1.2.2.2.2.2.2.2.2.2.2.2.2.2.2.2.2.2.2.2.2.2
noncomputable def rest : List (Addr × Obj) := c9.2.1
noncomputable def l : Addr := c9.2.2.1
noncomputable def us : List Int := c9.2.2.2.1
noncomputable def its : List Value := c9.2.2.2.2.1
noncomputable def n : Nat := c9.2.2.2.2.2
end law_noughts_spec_K
open law_noughts_spec_K in
set_option maxHeartbeats 4000000 in
set_option maxRecDepth 100000 in
theorem law_noughts_spec_at : P9 w loose mean mg mb (c9.1.2.2.2.2.2.1) (c9.1.2.2.2.2.2.2.1) (c9.1.2.2.2.2.2.2.2.1) (c9.1.2.2.2.2.2.2.2.2.1) (c9.1.2.2.2.2.2.2.2.2.2.1) (c9.1.2.2.2.2.2.2.2.2.2.2.1) (c9.1.2.2.2.2.2.2.2.2.2.2.2.1) (c9.1.2.2.2.2.2.2.2.2.2.2.2.2.1) (c9.1.2.2.2.2.2.2.2.2.2.2.2.2.2.1) (c9.1.2.2.2.2.2.2.2.2.2.2.2.2.2.2.1) (c9.1.2.2.2.2.2.2.2.2.2.2.2.2.2.2.2.1) h₀ L m s Q E rest l us its n := by
  k_with_none
  w_top off
  intro hi hl hm B F X N T hk hdp hun codeHd hret
  have fill9 : Challenge.rw_sr0027_02 = Challenge.rw_sr0027_02 ∧ hd.heap_39 = hd.heap_39 := by k_fill; exact ⟨rfl, rfl⟩
  k_dflt (refine' code_defC ?k1 ?k2 ?k3 ?k4 ?k5 ?kA ?kF ?kK ?k6 ?k7 ?k8 ?k9 ?kB ?kD ?_ ?c2 ?c3 ?c4; (case kA => exact rfl); (case kF => exact rfl); (case kK => first | exact rfl | assumption); (case k1 => k_asm); (case k2 => k_asm); (case k3 => k_asm); (case k4 => k_asm); (case k5 => k_asm); (case k6 => k_is); (case k7 => k_is); (case k8 => ktr_room); (case k9 => first | exact BindsTo.of_eq rfl | exact binds_K (by k_in) rfl (by k_is) rfl rfl rfl); (case kB => exact rfl); (case kD => decide +kernel); (case c2 => exact rfl); (case c3 => exact rfl); (case c4 => exact rfl))
  intro g1 L1 hh1 tk1 cells1 FG1 F1 N1 Y1 B1 X1 T1 l1
  (try k_lt l1)
  k_cells Y1
  (try simp only [List.cons_append, List.nil_append] at N1)
  (try dsimp only); (try k_lift B1); (try k_fold)
  refine foldE9 ?_
  intro QQ9 EE9
  have hlen : its.length = us.length + 1 := hi.length
  (k_with "call builtin:len" => (refine KM.len_K (n := us.length + 1) (by k_asm) (by k_mem) ((List.size_toArray ..).trans hlen) (by omega) ?_))
  (k_with "CompSrcT" => (refine Halt.h ?_))
  (k_with "call builtin:max" => (refine Halt.h ?_))
  k_steps
  refine ⟨LCt.CompSrcT.range (n := us.length + 1) (by rfl) (by k_asm) (by k_asm) (by assumption) (small_one (by decide) (by decide) (by omega) (by omega)) ((rangeSize_nat _ _).trans (by omega)) (by rw [sizeLine_eq]; omega) ?_⟩
  intro g'
  refine restInvT (J := fun j ys nx => IntsAre ys (nzL (1 :: us) j) ∧ nx = _) ⟨.nil, rfl⟩ ?_ ?_
  · intro j v ys news I' oI C oC D m₂ h' tk' E' hj hP hJ hC hx F' N' off' ne'
    refine foldG9 ?_
    intro GG
    obtain ⟨hys, rfl⟩ := hJ
    obtain ⟨tv, rfl⟩ := hP
    dsimp only [GG]
    clear GG
    k_steps
    · exact LCg.CompEnd.intro (by assumption) (by assumption) _ (fun p hp => hp) off' trivial ⟨⟨nz_T hys (by assumption), rfl⟩⟩
    · exact LCg.CompEnd.intro (by assumption) (by assumption) _ (fun p hp => hp) off' trivial ⟨⟨nz_F hys (by assumption), rfl⟩⟩
  · intro ys news hJ
    refine foldG9 ?_
    intro GG
    obtain ⟨hys, rfl⟩ := hJ
    dsimp only [GG]
    clear GG
    intro D h3 tk3 F3 N3 off3
    (try dsimp only)
    (try k_sweep)
    (try k_fold)
    k_steps
    refine ⟨?_⟩
    refine kso_max F3 N3 (News.isList N3 (.head _)) hys (nz_ne us) rfl ?_
    intro h4 M t4 tk4 F4 N4 hM1 hM2
    have hM := nz_max hM1 hM2
    subst hM
    (try dsimp only)
    (try k_fold)
    k_steps
    rw [show ((us.length + 1 : Nat) : Int) - 1 - ((dz us : Nat) : Int) = (us.length : Nat) - (dz us : Nat) by omega]
    (with_reducible rename News h₀ L _ (_ :: _) => kM)
    exact hret _ _ _ (by k_asm) (fun p hp => kM p (.tail _ (.tail _ hp)))

theorem law_noughts_spec (w : World) (loose : List Str) (mean : ExcName → Option Value) (mg mb : Str → Option Value) (rest : List (Addr × Obj)) (l : Addr) (us : List Int) (its : List Value) (n : Nat) (hi : IntsAre its (1 :: us)) (hl : us.length ≤ 5) (hm : (l, W.listOf its.toArray n) ∈ rest) :
    Asks 10 w loose mean mg mb 162 rest [.ref l] (fun h₀ L m s Q => ∀ (h' : Heap) (tk' : Nat) (t : Tok), Fr h₀ L h' m → News h₀ L h' rest → Q (.int ((us.length : Nat) - (dz us : Nat)) t) { s with heap := h', toks := tk' }) :=
  fun dp un gd cn cs a ccd cl outer A₀ base h₀ L m s Q E => Classical.choose_spec law_noughts_spec_K.ex9 law_noughts_spec_at ((w, loose, mean, mg, mb, dp, un, gd, cn, cs, a, ccd, cl, outer, A₀, base, h₀, L, m, s, Q, E), rest, l, us, its, n) hi hl hm
end

section
/-- a number's word -/
noncomputable abbrev wS (v : Int) : Str := ⟨(wl v).toArray⟩
/-- the machine's own ledger, the pushback aside, ahead of the page's number j -/
noncomputable def ZAt (w : World) (loose : List Str) (mean : ExcName → Option Value) (mg mb : Str → Option Value) (x pb : Addr) (ns : List Int) (N : Nat) (nb : List (Addr × Obj)) (j : Nat) (Z : List (Addr × Obj)) : Prop :=
  ∃ (d la st : Addr) (k1 k2 k3 k4 k5 k6 ti : Tok) (nl : Nat), Mach w loose mean mg mb x d pb la st ⟨(pageL ns N).toArray⟩ nb ∧
    Z = (x, instObj 86 d) :: (d, mDict w (1 + ((lnOf ns j : Nat) : Int)) st pb k1 k2 k3 k4 k5 k6) :: (la, W.listOf #[.int (posOf ns j : Nat) ti] nl) :: nb
/-- other objects beside the machine -/
noncomputable def XOff (pb : Addr) (Z : List (Addr × Obj)) (X : List (Addr × Obj)) : Prop := ∀ p ∈ X, p.1 ≠ pb ∧ ∀ z ∈ Z, z.1 ≠ p.1
theorem XOff.nil {pb : Addr} {Z : List (Addr × Obj)} : XOff pb Z [] := fun _ h => nomatch h
theorem XOff.cons {pb : Addr} {Z X : List (Addr × Obj)} {a : Addr} {o : Obj} (h1 : a ≠ pb) (h2 : ∀ z ∈ Z, z.1 ≠ a) (h : XOff pb Z X) : XOff pb Z ((a, o) :: X) := fun p hp => by
  rcases List.mem_cons.mp hp with rfl | hp
  · exact ⟨h1, h2⟩
  · exact h p hp
theorem off_same {Z Z' : List (Addr × Obj)} (e : Z'.map (·.1) = Z.map (·.1)) {a : Addr} (h : ∀ z ∈ Z, z.1 ≠ a) : ∀ z ∈ Z', z.1 ≠ a := fun z hz => by
  have h1 : z.1 ∈ Z.map (·.1) := e ▸ List.mem_map.mpr ⟨z, hz, rfl⟩
  obtain ⟨y, hy, hye⟩ := List.mem_map.mp h1
  exact hye ▸ h y hy
theorem XOff.same {pb : Addr} {Z Z' X : List (Addr × Obj)} (e : Z'.map (·.1) = Z.map (·.1)) (h : XOff pb Z X) : XOff pb Z' X := fun p hp => ⟨(h p hp).1, off_same e (h p hp).2⟩
section
variable {w : World} {loose : List Str} {mean : ExcName → Option Value} {mg mb : Str → Option Value} {x pb : Addr} {ns : List Int} {N j : Nat} {nb Z X : List (Addr × Obj)}
theorem ZAt.mach {d la st : Addr} {o1 o2 o3 : Obj} {txt : Str} (M : Mach w loose mean mg mb x d pb la st txt nb) (h : XOff pb ((x, o1) :: (d, o2) :: (la, o3) :: nb) X) : Mach w loose mean mg mb x d pb la st txt (X ++ nb) := by
  refine M.more (fun p hp => List.mem_append_right _ hp) (fun p hp => ?_) (fun p hp => ?_) (fun p hp => ?_)
  · rcases List.mem_append.mp hp with hp | hp
    · exact Ne.symm ((h p hp).2 _ (.tail _ (.head _)))
    · exact M.nd p hp
  · rcases List.mem_append.mp hp with hp | hp
    · exact (h p hp).1
    · exact M.npb p hp
  · rcases List.mem_append.mp hp with hp | hp
    · exact Ne.symm ((h p hp).2 _ (.tail _ (.tail _ (.head _))))
    · exact M.nla p hp
theorem z_in {a b c : Addr × Obj} {X nb : List (Addr × Obj)} (p : Addr × Obj) : p ∈ X ++ (a :: b :: c :: nb) ↔ p ∈ a :: b :: c :: (X ++ nb) := by
  simp only [List.mem_append, List.mem_cons]
  constructor
  · rintro (h | h | h | h | h) <;> simp [h]
  · rintro (h | h | h | h | h) <;> simp [h]
theorem ZAt.qm (H : ZAt w loose mean mg mb x pb ns N nb j Z) (h : XOff pb Z X) : QM w loose mean mg mb x pb (X ++ Z) := by
  obtain ⟨d, la, st, k1, k2, k3, k4, k5, k6, ti, nl, M, rfl⟩ := H
  exact ⟨d, la, st, _, k1, k2, k3, k4, k5, k6, ti, nl, posOf ns j, _, X ++ nb, ZAt.mach M h, fun p => z_in p⟩
/-- the next number of the page -/
theorem ztok (H : ZAt w loose mean mg mb x pb ns N nb j Z) (h : XOff pb Z X) (nq : Nat) (hj : j < N) (hx : (⟨(pageL ns N).toArray⟩ : Str).length < 1000) :
    Asks 16 w loose mean mg mb 76 ((pb, W.listOf #[] nq) :: (X ++ Z)) [.ref x] (fun h₀ L m s Q => ∀ (Z' : List (Addr × Obj)) (t : Tok) (h' : Heap) (tk' : Nat), ZAt w loose mean mg mb x pb ns N nb (j + 1) Z' → Z'.map (·.1) = Z.map (·.1) → Fr h₀ L h' m →
      News h₀ L h' ((pb, W.listOf #[] nq) :: (X ++ Z')) → Q (.str (wS (ns.getD j 0)) t) { s with heap := h', toks := tk' }) := by
  obtain ⟨d, la, st, k1, k2, k3, k4, k5, k6, ti, nl, M, rfl⟩ := H
  refine asks_sub (tok_spec w loose mean mg mb (X ++ nb) ns N j x d pb la st k1 k2 k3 k4 k5 k6 ti nq nl hj hx (ZAt.mach M h)) (fun p hp => ?_) fun _ _ _ _ _ hr k2' ti' t h' tk' F Nw => hr _ t h' tk' ⟨d, la, st, k1, k2', k3, k4, k5, k6, ti', nl, M, rfl⟩ rfl F fun p hp => Nw p ?_
  · rcases List.mem_cons.mp hp with rfl | hp
    · exact .head _
    · exact .tail _ ((z_in p).mpr hp)
  · rcases List.mem_cons.mp hp with rfl | hp
    · exact .head _
    · exact .tail _ ((z_in p).mp hp)
end
end

section
/-- a contract with keyword arguments -/
noncomputable abbrev AsksW (lv : Nat) (w : World) (loose : List Str) (mean : ExcName → Option Value) (mg mb : Str → Option Value) (f : Addr) (led : List (Addr × Obj)) (vs : List Value) (kws : List (Str × Value))
    (ret : Heap → Addr → (Str → Option Value) → Shared → (Value → Shared → Prop) → Prop) : Prop :=
  ∀ (dp un : Nat) (gd : Option (List Code)) (cn : Str) (cs : Scope) (a : Addr) (ccd : Value) (cl : List (Str × Addr)) (outer : List Env) (A₀ : Around) (base h₀ : Heap) (L : Addr) (m : Str → Option Value) (s : Shared) (Q E : Value → Shared → Prop),
    Below A₀ base outer h₀ → Fr h₀ L s.heap m → (hd.heap_39 w.params).In h₀ → News h₀ L s.heap led → Top topProg loose mean mg mb h₀ → cs.kind = .function →
    dp + lv < recursionLimit → un + 10 * lv < cLine → CodeHd base 96 92 → ret h₀ L m s Q →
      codeAny (model Challenge.rw_sr0027_02.row.prog w) (ktrTop dp un gd cn cs L a ccd cl outer) (.call (.ref f) ⟨vs, kws⟩) (fun r s' => match r with | .ok (.ret v) => Q v s' | .ok _ => False | .error e => E e s') s
noncomputable abbrev AskWV (lv : Nat) (w : World) (loose : List Str) (mean : ExcName → Option Value) (mg mb : Str → Option Value) (f : Addr) (led : List (Addr × Obj)) (vs : List Value) (kws : List (Str × Value))
    (ret : Heap → Addr → (Str → Option Value) → Shared → (Value → Shared → Prop) → Prop)
    (dp un : Nat) (gd : Option (List Code)) (cn : Str) (cs : Scope) (a : Addr) (ccd : Value) (cl : List (Str × Addr)) (outer : List Env) (A₀ : Around) (base h₀ : Heap) (L : Addr) (m : Str → Option Value) (s : Shared) (Q E : Value → Shared → Prop) : Prop :=
    Below A₀ base outer h₀ → Fr h₀ L s.heap m → (hd.heap_39 w.params).In h₀ → News h₀ L s.heap led → Top topProg loose mean mg mb h₀ → cs.kind = .function →
    dp + lv < recursionLimit → un + 10 * lv < cLine → CodeHd base 96 92 → ret h₀ L m s Q →
      codeAny (model Challenge.rw_sr0027_02.row.prog w) (ktrTop dp un gd cn cs L a ccd cl outer) (.call (.ref f) ⟨vs, kws⟩) (fun r s' => match r with | .ok (.ret v) => Q v s' | .ok _ => False | .error e => E e s') s
theorem p_below {p : Int → Bool} (mono : ∀ a b, a ≤ b → p b = true → p a = true) : ∀ {ns : List Int}, ns.Pairwise (· ≤ ·) → ∀ {i : Nat}, i < ns.countP p → p (ns.getD i 0) = true
  | [], _, i, h => absurd h (Nat.not_lt_zero _)
  | a :: r, hs, i, h => by
    have ha := (List.pairwise_cons.mp hs).1
    cases e : p a with
    | true =>
      rw [List.countP_cons_of_pos e] at h
      cases i with
      | zero => exact e
      | succ i => exact p_below mono (List.pairwise_cons.mp hs).2 (by omega)
    | false =>
      exfalso
      rw [List.countP_eq_zero.mpr] at h
      · exact Nat.not_lt_zero _ h
      · intro b hb hpb
        rcases List.mem_cons.mp hb with rfl | hb
        · rw [e] at hpb; cases hpb
        · rw [mono a b (ha b hb) hpb] at e; cases e
theorem map_getD {K : Int → Int} {ns : List Int} {i : Nat} (h : i < ns.length) : (ns.map K).getD i 0 = K (ns.getD i 0) := by
  rw [List.getD_eq_getElem?_getD, List.getD_eq_getElem?_getD, List.getElem?_map, List.getElem?_eq_getElem h]; rfl
noncomputable abbrev KInv (K : Int → Int) (x : Int) (ns : List Int) (lo hi : Int) : Prop := BInv (PR x) (ns.map K) lo hi
theorem kinv_start {K : Int → Int} {x : Int} {ns : List Int} {lo : Int} (hs : (ns.map K).Pairwise (· ≤ ·)) (h0 : 0 ≤ lo) (h1 : lo ≤ (cntLe x (ns.map K) : Nat)) : KInv K x ns lo (ns.length : Int) := by
  have h2 : cntLe x (ns.map K) ≤ (ns.map K).length := List.countP_le_length
  have h3 : (ns.map K).length = ns.length := List.length_map ..
  refine ⟨h0, by omega, by omega, fun i h => p_below (PR_mono x) hs (i := i) ?_, fun i h h2 => by omega⟩
  show i < cntLe x (ns.map K)
  omega
theorem kinv_idx {K : Int → Int} {x : Int} {ns : List Int} {lo hi : Int} (h : KInv K x ns lo hi) (hlt : lo < hi) : ((lo + hi).fdiv 2).toNat < ns.length := by
  have h3 : (ns.map K).length = ns.length := List.length_map ..
  exact h3 ▸ (Int.toNat_lt (Int.le_trans h.1 (fd2 h.1 hlt).1)).mpr (Int.lt_of_lt_of_le (fd2 h.1 hlt).2 h.2.2.1)
theorem kinv_up {K : Int → Int} {x : Int} {ns : List Int} {lo hi : Int} (hs : (ns.map K).Pairwise (· ≤ ·)) (h : KInv K x ns lo hi) (hlt : lo < hi) (hp : ¬ x < K (ns.getD ((lo + hi).fdiv 2).toNat 0)) : KInv K x ns ((lo + hi).fdiv 2 + 1) hi :=
  binv_up (PR_mono x) hs h hlt (by rw [map_getD (kinv_idx h hlt)]; exact PR_tt hp)
theorem kinv_down {K : Int → Int} {x : Int} {ns : List Int} {lo hi : Int} (hs : (ns.map K).Pairwise (· ≤ ·)) (h : KInv K x ns lo hi) (hlt : lo < hi) (hp : x < K (ns.getD ((lo + hi).fdiv 2).toNat 0)) : KInv K x ns lo ((lo + hi).fdiv 2) :=
  binv_down (PR_mono x) hs h hlt (by rw [map_getD (kinv_idx h hlt)]; exact PR_ff hp)
theorem getD_mem {ns : List Int} {i : Nat} (h : i < ns.length) : ns.getD i 0 ∈ ns := by
  rw [List.getD_eq_getElem?_getD, List.getElem?_eq_getElem h]; exact List.getElem_mem h
/-- a key function's contract -/
noncomputable abbrev KeyOk (w : World) (loose : List Str) (mean : ExcName → Option Value) (mg mb : Str → Option Value) (rest : List (Addr × Obj)) (f : Addr) (ns : List Int) (K : Int → Int) : Prop :=
  ∀ (v : Int) (tv : Tok), v ∈ ns → Asks 13 w loose mean mg mb f rest [.int v tv] (fun h₀ L m s Q => ∀ (h' : Heap) (tk' : Nat) (t : Tok), Fr h₀ L h' m → News h₀ L h' rest → Q (.int (K v) t) { s with heap := h', toks := tk' })
namespace bisect_key_spec_K
noncomputable def P9 (w : World) (loose : List Str) (mean : ExcName → Option Value) (mg : Str → Option Value) (mb : Str → Option Value) (dp : Nat) (un : Nat) (gd : Option (List Code)) (cn : Str) (cs : Scope) (a : Addr) (ccd : Value) (cl : List (Str × Addr)) (outer : List Env) (A₀ : Around) (base : Heap) (h₀ : Heap) (L : Addr) (m : Str → Option Value) (s : Shared) (Q : Value → Shared → Prop) (E : Value → Shared → Prop) (rest : List (Addr × Obj)) (l : Addr) (f : Addr) (oc : Value) (od : Option Addr) (fd : FuncData) (sl : Array (Option Value)) (ns : List Int) (its : List Value) (n : Nat) (tx : Tok) (t0 : Tok) : Prop :=
  (x : Int) → (lo : Int) → (K : Int → Int) → (hi : IntsAre its ns) → (hl : ns.length < 64) → (hs : (ns.map K).Pairwise (· ≤ ·)) → (h0 : 0 ≤ lo) → (h1 : lo ≤ (cntLe x (ns.map K) : Nat)) → (hm : (l, W.listOf its.toArray n) ∈ rest) → (hf : (f, (⟨oc, od, .func fd, sl⟩ : Obj)) ∈ rest) → (hkey : KeyOk w loose mean mg mb rest f ns K) → AskWV 15 w loose mean mg mb 32 rest [.ref l, .int x tx, .int lo t0] [(Str.ofString "key", .ref f)] (fun h₀ L m s Q => ∀ (h' : Heap) (tk' : Nat) (t : Tok), Fr h₀ L h' m → News h₀ L h' rest → Q (.int (cntLe x (ns.map K) : Nat) t) { s with heap := h', toks := tk' }) dp un gd cn cs a ccd cl outer A₀ base h₀ L m s Q E
noncomputable def PV9 (v : K9 × (List (Addr × Obj)) × (Addr) × (Addr) × (Value) × (Option Addr) × (FuncData) × (Array (Option Value)) × (List Int) × (List Value) × (Nat) × (Tok) × (Tok)) : Prop := P9 v.1.1 v.1.2.1 v.1.2.2.1 v.1.2.2.2.1 v.1.2.2.2.2.1 v.1.2.2.2.2.2.1 v.1.2.2.2.2.2.2.1 v.1.2.2.2.2.2.2.2.1 v.1.2.2.2.2.2.2.2.2.1 v.1.2.2.2.2.2.2.2.2.2.1 v.1.2.2.2.2.2.2.2.2.2.2.1 v.1.2.2.2.2.2.2.2.2.2.2.2.1 v.1.2.2.2.2.2.2.2.2.2.2.2.2.1 v.1.2.2.2.2.2.2.2.2.2.2.2.2.2.1 v.1.2.2.2.2.2.2.2.2.2.2.2.2.2.2.1 v.1.2.2.2.2.2.2.2.2.2.2.2.2.2.2.2.1 v.1.2.2.2.2.2.2.2.2.2.2.2.2.2.2.2.2.1 v.1.2.2.2.2.2.2.2.2.2.2.2.2.2.2.2.2.2.1 v.1.2.2.2.2.2.2.2.2.2.2.2.2.2.2.2.2.2.2.1 v.1.2.2.2.2.2.2.2.2.2.2.2.2.2.2.2.2.2.2.2.1 v.1.2.2.2.2.2.2.2.2.2.2.2.2.2.2.2.2.2.2.2.2.1 v.1.2.2.2.2.2.2.2.2.2.2.2.2.2.2.2.2.2.2.2.2.2 v.2.1 v.2.2.1 v.2.2.2.1 v.2.2.2.2.1 v.2.2.2.2.2.1 v.2.2.2.2.2.2.1 v.2.2.2.2.2.2.2.1 v.2.2.2.2.2.2.2.2.1 v.2.2.2.2.2.2.2.2.2.1 v.2.2.2.2.2.2.2.2.2.2.1 v.2.2.2.2.2.2.2.2.2.2.2.1 v.2.2.2.2.2.2.2.2.2.2.2.2
theorem ex9 : ∃ c, PV9 c → ∀ v, PV9 v := sk9 ⟨(Classical.choice ne9, default, default, default, default, default, default, default, default, default, default, default, default)⟩ PV9
noncomputable def c9 : K9 × (List (Addr × Obj)) × (Addr) × (Addr) × (Value) × (Option Addr) × (FuncData) × (Array (Option Value)) × (List Int) × (List Value) × (Nat) × (Tok) × (Tok) := Classical.choose ex9
noncomputable def w : World := c9.1.1
noncomputable def loose : List Str := c9.1.2.1
noncomputable def mean : ExcName → Option Value := c9.1.2.2.1
noncomputable def mg : Str → Option Value := c9.1.2.2.2.1
noncomputable def mb : Str → Option Value := c9.1.2.2.2.2.1
noncomputable def h₀ : Heap := c9.1.2.2.2.2.2.2.2.2.2.2.2.2.2.2.2.2.1
noncomputable def L : Addr := c9.1.2.2.2.2.2.2.2.2.2.2.2.2.2.2.2.2.2.1
noncomputable def m : Str → Option Value := c9.1.2.2.2.2.2.2.2.2.2.2.2.2.2.2.2.2.2.2.1
noncomputable def s : Shared := c9.1.2.2.2.2.2.2.2.2.2.2.2.2.2.2.2.2.2.2.2.1
noncomputable def Q : Value → Shared → Prop := c9.1.2.2.2.2.2.2.2.2.2.2.2.2.2.2.2.2.2.2.2.2.1
noncomputable def E : Value → Shared → Prop := c9.1.2.2.2.2.2.2.2.2.2.2.2.2.2.2.2.2.2.2.2.2.2
noncomputable def rest : List (Addr × Obj) := c9.2.1
noncomputable def l : Addr := c9.2.2.1
noncomputable def f : Addr := c9.2.2.2.1
noncomputable def oc : Value := c9.2.2.2.2.1
noncomputable def od : Option Addr := c9.2.2.2.2.2.1
noncomputable def fd : FuncData := c9.2.2.2.2.2.2.1
noncomputable def sl : Array (Option Value) := c9.2.2.2.2.2.2.2.1
noncomputable def ns : List Int := c9.2.2.2.2.2.2.2.2.1
noncomputable def its : List Value := c9.2.2.2.2.2.2.2.2.2.1
noncomputable def n : Nat := c9.2.2.2.2.2.2.2.2.2.2.1
noncomputable def tx : Tok := c9.2.2.2.2.2.2.2.2.2.2.2.1
noncomputable def t0 : Tok := c9.2.2.2.2.2.2.2.2.2.2.2.2
end bisect_key_spec_K
open bisect_key_spec_K in
set_option maxHeartbeats 4000000 in
set_option maxRecDepth 100000 in
theorem bisect_key_spec_at : P9 w loose mean mg mb (c9.1.2.2.2.2.2.1) (c9.1.2.2.2.2.2.2.1) (c9.1.2.2.2.2.2.2.2.1) (c9.1.2.2.2.2.2.2.2.2.1) (c9.1.2.2.2.2.2.2.2.2.2.1) (c9.1.2.2.2.2.2.2.2.2.2.2.1) (c9.1.2.2.2.2.2.2.2.2.2.2.2.1) (c9.1.2.2.2.2.2.2.2.2.2.2.2.2.1) (c9.1.2.2.2.2.2.2.2.2.2.2.2.2.2.1) (c9.1.2.2.2.2.2.2.2.2.2.2.2.2.2.2.1) (c9.1.2.2.2.2.2.2.2.2.2.2.2.2.2.2.2.1) h₀ L m s Q E rest l f oc od fd sl ns its n tx t0 := by
  k_with_none
  w_top off
  intro x lo K hi hl hs h0 h1 hm hf hkey B F X N T hk hdp hun codeHd hret
  have fill9 : Challenge.rw_sr0027_02 = Challenge.rw_sr0027_02 ∧ hd.heap_39 = hd.heap_39 := by k_fill; exact ⟨rfl, rfl⟩
  k_dflt (refine' code_def ?k1 ?k2 ?k3 ?k4 ?k5 ?kA ?kF ?kK ?k6 ?k7 ?k8 ?k9 ?kB ?_ ?c2 ?c3 ?c4 ?c5; (case kA => exact rfl); (case kF => exact rfl); (case kK => first | exact rfl | assumption); (case k1 => k_asm); (case k2 => k_asm); (case k3 => k_asm); (case k4 => k_asm); (case k5 => k_asm); (case k6 => k_is); (case k7 => k_is); (case k8 => ktr_room); (case k9 => first | exact BindsTo.of_eq rfl | exact binds_K (by k_in) rfl (by k_is) rfl rfl rfl | (refine' kp_binds ?kx ?ke; (case kx => k_in); (case ke => exact fun _ => rfl)) | fail "k9"); (case c5 => decide); (case kB => exact locs rfl); (case c2 => exact rfl); (case c3 => exact rfl); (case c4 => exact rfl))
  intro g1 L1 hh1 FG1 F1 N1 B1 X1 T1
  (try dsimp only); (try k_fold)
  have hlen : its.length = ns.length := hi.length
  have hlo : ¬ lo < 0 := by omega
  (k_with "call builtin:len" => (refine KM.len_K (n := ns.length) (by k_asm) (by k_mem) ((List.size_toArray ..).trans hlen) (by omega) ?_))
  (k_with "exec While Compare cons nil" => k_while (fun (_ : List Int) lo hi => KInv K x ns lo hi) (fun (_ : List Int) lo hi => (hi - lo).toNat) "lo" "hi")
  (k_with "state" => first | exact kinv_start hs h0 h1 | exact kinv_up hs ⟨by assumption, by assumption, by assumption, by assumption, by assumption⟩ (by assumption) (by assumption) | exact kinv_down hs ⟨by assumption, by assumption, by assumption, by assumption, by assumption⟩ (by assumption) (by assumption))
  (k_with "measure" => first | exact fd2_less1 (by assumption) (by assumption) | exact fd2_less2 (by assumption) (by assumption))
  (k_with "call ref" => ((with_reducible show wpAny _ _ (call (Value.ref f) _) _ _ _); k_dflt (refine' wpAny_call (hkey _ _ (getD_mem (kinv_idx ⟨by assumption, by assumption, by assumption, by assumption, by assumption⟩ (by assumption))) _ _ _ _ _ _ _ _ _ _ _ _ _ _ _ _ _ (by k_asm) (by k_asm) (by k_asm) (by k_asm) (by k_asm) (by first | exact rfl | assumption) (by ktr_room) (by ktr_units) (by assumption) ?_)); intro h' tk' t9 F9 N9; (try dsimp only); (try k_sweep); (try k_fold)))
  k_steps
  have e := binv_end (p := PR x) (ns := ns.map K) ⟨by assumption, by assumption, by assumption, by assumption, by assumption⟩ (by assumption)
  rw [show ((cntLe x (ns.map K) : Nat) : Int) = _ from e] at hret
  exact hret _ _ _ (by k_asm) (by k_asm)

theorem bisect_key_spec (w : World) (loose : List Str) (mean : ExcName → Option Value) (mg mb : Str → Option Value) (rest : List (Addr × Obj)) (l f : Addr) (oc : Value) (od : Option Addr) (fd : FuncData) (sl : Array (Option Value)) (ns : List Int) (its : List Value) (n : Nat) (x : Int) (tx : Tok) (lo : Int) (t0 : Tok) (K : Int → Int) (hi : IntsAre its ns) (hl : ns.length < 64) (hs : (ns.map K).Pairwise (· ≤ ·)) (h0 : 0 ≤ lo) (h1 : lo ≤ (cntLe x (ns.map K) : Nat)) (hm : (l, W.listOf its.toArray n) ∈ rest) (hf : (f, (⟨oc, od, .func fd, sl⟩ : Obj)) ∈ rest) (hkey : KeyOk w loose mean mg mb rest f ns K) :
    AsksW 15 w loose mean mg mb 32 rest [.ref l, .int x tx, .int lo t0] [(Str.ofString "key", .ref f)] (fun h₀ L m s Q => ∀ (h' : Heap) (tk' : Nat) (t : Tok), Fr h₀ L h' m → News h₀ L h' rest → Q (.int (cntLe x (ns.map K) : Nat) t) { s with heap := h', toks := tk' }) :=
  fun dp un gd cn cs a ccd cl outer A₀ base h₀ L m s Q E => Classical.choose_spec bisect_key_spec_K.ex9 bisect_key_spec_at ((w, loose, mean, mg, mb, dp, un, gd, cn, cs, a, ccd, cl, outer, A₀, base, h₀, L, m, s, Q, E), rest, l, f, oc, od, fd, sl, ns, its, n, tx, t0) x lo K hi hl hs h0 h1 hm hf hkey
end

section
/-- the numbers from -7 to 7 -/
noncomputable def spotsL (j : Nat) : List Int := (List.range j).map fun (i : Nat) => (i : Int) - 7
theorem spots_keys (rs : List Int) : (spotsL 15).map (fun x => ((leN rs x : Nat) : Int)) = keysL rs := by
  unfold spotsL keysL
  rw [List.map_map]; rfl
/-- the place that the last round found -/
noncomputable def plc (S : List Int) : Nat → Int
  | 0 => 0
  | k + 1 => S.getD k 0 + 7
/-- a contract that lays its key functions' records in table 154 -/
noncomputable abbrev AsksT (lv : Nat) (w : World) (loose : List Str) (mean : ExcName → Option Value) (mg mb : Str → Option Value) (f : Addr) (led : List (Addr × Obj)) (vs : List Value)
    (ret : Heap → Addr → (Str → Option Value) → Shared → (Value → Shared → Prop) → Prop) : Prop :=
  ∀ (dp un : Nat) (gd : Option (List Code)) (cn : Str) (cs : Scope) (a : Addr) (ccd : Value) (cl : List (Str × Addr)) (outer : List Env) (A₀ : Around) (base h₀ : Heap) (L : Addr) (m : Str → Option Value) (s : Shared) (Q E : Value → Shared → Prop),
    Below A₀ base outer h₀ → Fr h₀ L s.heap m → (hd.heap_39 w.params).In h₀ → News h₀ L s.heap led → Top topProg loose mean mg mb h₀ → cs.kind = .function →
    dp + lv < recursionLimit → un + 10 * lv < cLine → CodeHd base 96 92 → CodeHd base 156 154 → ret h₀ L m s Q →
      codeAny (model Challenge.rw_sr0027_02.row.prog w) (ktrTop dp un gd cn cs L a ccd cl outer) (.call (.ref f) ⟨vs, []⟩) (fun r s' => match r with | .ok (.ret v) => Q v s' | .ok _ => False | .error e => E e s') s
noncomputable abbrev AskTV (lv : Nat) (w : World) (loose : List Str) (mean : ExcName → Option Value) (mg mb : Str → Option Value) (f : Addr) (led : List (Addr × Obj)) (vs : List Value)
    (ret : Heap → Addr → (Str → Option Value) → Shared → (Value → Shared → Prop) → Prop)
    (dp un : Nat) (gd : Option (List Code)) (cn : Str) (cs : Scope) (a : Addr) (ccd : Value) (cl : List (Str × Addr)) (outer : List Env) (A₀ : Around) (base h₀ : Heap) (L : Addr) (m : Str → Option Value) (s : Shared) (Q E : Value → Shared → Prop) : Prop :=
    Below A₀ base outer h₀ → Fr h₀ L s.heap m → (hd.heap_39 w.params).In h₀ → News h₀ L s.heap led → Top topProg loose mean mg mb h₀ → cs.kind = .function →
    dp + lv < recursionLimit → un + 10 * lv < cLine → CodeHd base 96 92 → CodeHd base 156 154 → ret h₀ L m s Q →
      codeAny (model Challenge.rw_sr0027_02.row.prog w) (ktrTop dp un gd cn cs L a ccd cl outer) (.call (.ref f) ⟨vs, []⟩) (fun r s' => match r with | .ok (.ret v) => Q v s' | .ok _ => False | .error e => E e s') s
/-- where the key function stands -/
noncomputable abbrev lamPos : Pos := { line := 177, col := 50, endLine := 177, endCol := 108 }
noncomputable abbrev lamQual : Str := Str.ofString "_law_halved" ++ Str.ofString ".<locals>." ++ Str.ofString "<lambda>"
inductive HvJ (ps : Array Value) (S : List Int) (zs : List Value) (D DF L1 : Addr) (oA oB : Obj) (rest : List (Addr × Obj)) (i : Nat) (m : Str → Option Value) (nx : List (Addr × Obj)) : Prop
  | mk (m9 : Str → Option Value) (gs : List Value) (nn : Nat) (kc : Option Value) (tp : Tok) (X : List (Addr × Obj)) : IntsAre gs (S.take i) → TabX 154 ps lamPos lamQual ((DF, W.listOf gs.toArray nn) :: (D, LCg.lst zs) :: (L1 + 1 + 1, oA) :: (L1 + 1, oB) :: rest) X → nx = X ++ ((DF, W.listOf gs.toArray nn) :: (D, LCg.lst zs) :: (L1 + 1 + 1, oA) :: (L1 + 1, oB) :: rest) → m = ov1 (Str.ofString "k") (ov1 (Str.ofString "place") (ov1 (Str.ofString "found") (ov1 (Str.ofString "spots") m9 (some (.ref D))) (some (.ref DF))) (some (.int (plc S i) tp))) kc → HvJ ps S zs D DF L1 oA oB rest i m nx
theorem tabX_ne {P : Addr} {ps : Array Value} {pos : Pos} {qual : Str} {R X R' : List (Addr × Obj)} {I : Addr} (h : TabX P ps pos qual R X) (off : ∀ q ∈ X ++ R', q.1 ≠ I) : P ≠ I := by
  cases h with
  | fresh => exact off _ (.head _)
  | hit c' oc vs t d1 d2 h1 h2 => exact off _ (.tail _ (.head _))
theorem tabX_mem {P : Addr} {ps : Array Value} {pos : Pos} {qual : Str} {R X : List (Addr × Obj)} (h : TabX P ps pos qual R X) : ∃ ps', (P, tabObj ps') ∈ X := by
  cases h with
  | fresh => exact ⟨_, .head _⟩
  | hit c' oc vs t d1 d2 h1 h2 => exact ⟨_, .tail _ (.head _)⟩
noncomputable abbrev KF (rs : List Int) : Int → Int := fun x => ((leN rs x : Nat) : Int)
theorem hv_s (rs : List Int) : ((spotsL 15).map (KF rs)).Pairwise (· ≤ ·) := by
  rw [spots_keys]; exact keys_sorted rs
theorem hv_2 {rs S : List Int} (hp : S.Perm rs) (hs : S.Pairwise (· ≤ ·)) (hb : ∀ r ∈ rs, -7 ≤ r ∧ r ≤ 7) {i : Nat} (hi : i < rs.length) : ((cntLe ((0 : Int) + (i : Nat)) ((spotsL 15).map (KF rs)) : Nat) : Int) = plc S (i + 1) := by
  rw [spots_keys, Int.zero_add]
  exact place_at hp hs hb (by rw [hp.length_eq]; exact hi)
theorem hv_b {rs S : List Int} (hp : S.Perm rs) (hb : ∀ r ∈ rs, -7 ≤ r ∧ r ≤ 7) {i : Nat} (hi : i < rs.length) : -7 ≤ S.getD i 0 ∧ S.getD i 0 ≤ 7 := by
  have hl : i < S.length := by rw [hp.length_eq]; exact hi
  have hm : S.getD i 0 ∈ S := by rw [getD_lt hl]; exact List.getElem_mem hl
  exact hb _ (hp.mem_iff.mp hm)
theorem hv_0 {rs S : List Int} (hp : S.Perm rs) (hb : ∀ r ∈ rs, -7 ≤ r ∧ r ≤ 7) {i : Nat} (hi : i < rs.length) : 0 ≤ plc S i := by
  cases i with
  | zero => exact Int.le_refl _
  | succ k =>
    have := hv_b hp hb (Nat.lt_of_succ_lt hi)
    show 0 ≤ S.getD k 0 + 7
    omega
theorem hv_1 {rs S : List Int} (hp : S.Perm rs) (hs : S.Pairwise (· ≤ ·)) (hb : ∀ r ∈ rs, -7 ≤ r ∧ r ≤ 7) {i : Nat} (hi : i < rs.length) : plc S i ≤ (cntLe ((0 : Int) + (i : Nat)) ((spotsL 15).map (KF rs)) : Nat) := by
  rw [hv_2 hp hs hb hi]
  have h1 := hv_b hp hb hi
  show _ ≤ S.getD i 0 + 7
  cases i with
  | zero => show (0 : Int) ≤ _; omega
  | succ k =>
    have hl : k + 1 < S.length := by rw [hp.length_eq]; exact hi
    have h3 : S.getD k 0 ≤ S.getD (k + 1) 0 := sorted_getD hs (Nat.le_succ k) hl
    show S.getD k 0 + 7 ≤ S.getD (k + 1) 0 + 7
    omega
theorem spots_at {k : Int} (h : -7 ≤ k ∧ k ≤ 7) : (spotsL 15).getD (k + 7).toNat 0 = k := by
  have e : ∀ j : Nat, j < 15 → (spotsL 15).getD j 0 = (j : Int) - 7 := by decide +kernel
  rw [e _ (by omega)]; omega
theorem spots_mem {v : Int} (h : v ∈ spotsL 15) : v.natAbs ≤ 7 := by
  obtain ⟨i, hi, rfl⟩ := List.mem_map.mp h
  have := List.mem_range.mp hi
  omega
theorem take_snoc {S : List Int} {gs : List Value} {i : Nat} {t : Tok} (hg : IntsAre gs (S.take i)) (hi : i < S.length) {x : Int} (hx : x = S.getD i 0) : IntsAre (gs ++ [.int x t]) (S.take (i + 1)) := by
  rw [List.take_add_one, List.getElem?_eq_getElem hi, hx, getD_lt hi]
  exact hg.append (.cons _ _ .nil)
theorem spots_snoc {zs : List Value} {j : Nat} {t : Tok} (hz : IntsAre zs (spotsL j)) : IntsAre (zs ++ [.int ((0 : Int) + (j : Nat) - 7) t]) (spotsL (j + 1)) := by
  unfold spotsL at *
  rw [List.range_succ, List.map_append, Int.zero_add]
  exact hz.append (.cons _ _ .nil)
namespace law_halved_spec_K
noncomputable def P9 (w : World) (loose : List Str) (mean : ExcName → Option Value) (mg : Str → Option Value) (mb : Str → Option Value) (dp : Nat) (un : Nat) (gd : Option (List Code)) (cn : Str) (cs : Scope) (a : Addr) (ccd : Value) (cl : List (Str × Addr)) (outer : List Env) (A₀ : Around) (base : Heap) (h₀ : Heap) (L : Addr) (m : Str → Option Value) (s : Shared) (Q : Value → Shared → Prop) (E : Value → Shared → Prop) (rest : List (Addr × Obj)) (l : Addr) (rs : List Int) (S : List Int) (its : List Value) (n : Nat) (tc : Tok) (ps : Array Value) : Prop :=
  (hi : IntsAre its (1 :: mulT rs)) → (hc : rs.length = 4 ∨ rs.length = 5) → (hb : ∀ r ∈ rs, -7 ≤ r ∧ r ≤ 7) → (hp : S.Perm rs) → (hs : S.Pairwise (· ≤ ·)) → (hm : (l, W.listOf its.toArray n) ∈ rest) → (hr : ∀ p ∈ rest, p.1 ≠ 154) → (ht : TriplesOk ps.toList) → (hnf : codeAmong lamPos ps.toList = none) → AskTV 18 w loose mean mg mb 157 ((154, tabObj ps) :: rest) [.ref l, .int (rs.length : Nat) tc] (fun h₀ L m s Q => ∀ (D : Addr) (xs : List Value) (nn : Nat) (ps' : Array Value) (h' : Heap) (tk' : Nat), IntsAre xs S → (∀ p ∈ rest, p.1 ≠ D) → Fr h₀ L h' m → News h₀ L h' ((D, W.listOf xs.toArray nn) :: (154, tabObj ps') :: rest) → Q (.ref D) { s with heap := h', toks := tk' }) dp un gd cn cs a ccd cl outer A₀ base h₀ L m s Q E
noncomputable def PV9 (v : K9 × (List (Addr × Obj)) × (Addr) × (List Int) × (List Int) × (List Value) × (Nat) × (Tok) × (Array Value)) : Prop := P9 v.1.1 v.1.2.1 v.1.2.2.1 v.1.2.2.2.1 v.1.2.2.2.2.1 v.1.2.2.2.2.2.1 v.1.2.2.2.2.2.2.1 v.1.2.2.2.2.2.2.2.1 v.1.2.2.2.2.2.2.2.2.1 v.1.2.2.2.2.2.2.2.2.2.1 v.1.2.2.2.2.2.2.2.2.2.2.1 v.1.2.2.2.2.2.2.2.2.2.2.2.1 v.1.2.2.2.2.2.2.2.2.2.2.2.2.1 v.1.2.2.2.2.2.2.2.2.2.2.2.2.2.1 v.1.2.2.2.2.2.2.2.2.2.2.2.2.2.2.1 v.1.2.2.2.2.2.2.2.2.2.2.2.2.2.2.2.1 v.1.2.2.2.2.2.2.2.2.2.2.2.2.2.2.2.2.1 v.1.2.2.2.2.2.2.2.2.2.2.2.2.2.2.2.2.2.1 v.1.2.2.2.2.2.2.2.2.2.2.2.2.2.2.2.2.2.2.1 v.1.2.2.2.2.2.2.2.2.2.2.2.2.2.2.2.2.2.2.2.1 v.1.2.2.2.2.2.2.2.2.2.2.2.2.2.2.2.2.2.2.2.2.1 v.1.2.2.2.2.2.2.2.2.2.2.2.2.2.2.2.2.2.2.2.2.2 v.2.1 v.2.2.1 v.2.2.2.1 v.2.2.2.2.1 v.2.2.2.2.2.1 v.2.2.2.2.2.2.1 v.2.2.2.2.2.2.2.1 v.2.2.2.2.2.2.2.2
theorem ex9 : ∃ c, PV9 c → ∀ v, PV9 v := sk9 ⟨(Classical.choice ne9, default, default, default, default, default, default, default, default)⟩ PV9
noncomputable def c9 : K9 × (List (Addr × Obj)) × (Addr) × (List Int) × (List Int) × (List Value) × (Nat) × (Tok) × (Array Value) := Classical.choose ex9
noncomputable def w : World := c9.1.1
noncomputable def loose : List Str := c9.1.2.1
noncomputable def mean : ExcName → Option Value := c9.1.2.2.1
noncomputable def mg : Str → Option Value := c9.1.2.2.2.1
noncomputable def mb : Str → Option Value := c9.1.2.2.2.2.1
noncomputable def dp : Nat := c9.1.2.2.2.2.2.1
noncomputable def un : Nat := c9.1.2.2.2.2.2.2.1
noncomputable def h₀ : Heap := c9.1.2.2.2.2.2.2.2.2.2.2.2.2.2.2.2.2.1
noncomputable def L : Addr := c9.1.2.2.2.2.2.2.2.2.2.2.2.2.2.2.2.2.2.1
noncomputable def m : Str → Option Value := c9.1.2.2.2.2.2.2.2.2.2.2.2.2.2.2.2.2.2.2.1
noncomputable def s : Shared := c9.1.2.2.2.2.2.2.2.2.2.2.2.2.2.2.2.2.2.2.2.1
noncomputable def Q : Value → Shared → Prop := c9.1.2.2.2.2.2.2.2.2.2.2.2.2.2.2.2.2.2.2.2.2.1
noncomputable def E : Value → Shared → Prop := c9.1.2.2.2.2.2.2.2.2.2.2.2.2.2.2.2.2.2.2.2.2.2
noncomputable def rest : List (Addr × Obj) := c9.2.1
noncomputable def l : Addr := c9.2.2.1
noncomputable def rs : List Int := c9.2.2.2.1
noncomputable def S : List Int := c9.2.2.2.2.1
noncomputable def its : List Value := c9.2.2.2.2.2.1
noncomputable def n : Nat := c9.2.2.2.2.2.2.1
noncomputable def tc : Tok := c9.2.2.2.2.2.2.2.1
noncomputable def ps : Array Value := c9.2.2.2.2.2.2.2.2
end law_halved_spec_K
open law_halved_spec_K in
set_option maxHeartbeats 4000000 in
set_option maxRecDepth 100000 in
theorem law_halved_spec_at : P9 w loose mean mg mb dp un (c9.1.2.2.2.2.2.2.2.1) (c9.1.2.2.2.2.2.2.2.2.1) (c9.1.2.2.2.2.2.2.2.2.2.1) (c9.1.2.2.2.2.2.2.2.2.2.2.1) (c9.1.2.2.2.2.2.2.2.2.2.2.2.1) (c9.1.2.2.2.2.2.2.2.2.2.2.2.2.1) (c9.1.2.2.2.2.2.2.2.2.2.2.2.2.2.1) (c9.1.2.2.2.2.2.2.2.2.2.2.2.2.2.2.1) (c9.1.2.2.2.2.2.2.2.2.2.2.2.2.2.2.2.1) h₀ L m s Q E rest l rs S its n tc ps := by
  k_with_none
  w_top off
  intro hi hc hb hp hs hm hr ht hnf B F X N T hk hdp hun codeHd codeHd2 hret
  have fill9 : Challenge.rw_sr0027_02 = Challenge.rw_sr0027_02 ∧ hd.heap_39 = hd.heap_39 := by k_fill; exact ⟨rfl, rfl⟩
  k_dflt (refine' code_defC ?k1 ?k2 ?k3 ?k4 ?k5 ?kA ?kF ?kK ?k6 ?k7 ?k8 ?k9 ?kB ?kD ?_ ?c2 ?c3 ?c4; (case kA => exact rfl); (case kF => exact rfl); (case kK => first | exact rfl | assumption); (case k1 => k_asm); (case k2 => k_asm); (case k3 => k_asm); (case k4 => k_asm); (case k5 => k_asm); (case k6 => k_is); (case k7 => k_is); (case k8 => ktr_room); (case k9 => first | exact BindsTo.of_eq rfl | exact binds_K (by k_in) rfl (by k_is) rfl rfl rfl); (case kB => exact rfl); (case kD => decide +kernel); (case c2 => exact rfl); (case c3 => exact rfl); (case c4 => exact rfl))
  intro g1 L1 hh1 tk1 cells1 FG1 F1 N1 Y1 B1 X1 T1 l1
  (try k_lt l1)
  k_cells Y1
  (try simp only [List.cons_append, List.nil_append] at N1)
  (try dsimp only); (try k_lift B1); (try k_fold)
  rename_i oA oB dA dB
  have dA9 : oA.data = .cell (some (.int (rs.length : Nat) tc)) := dA
  have dB9 : oB.data = .cell (some (.ref l)) := dB
  clear dA dB
  refine foldE9 ?_
  intro QQ9 EE9
  have hrl : rs.length ≤ 5 := by omega
  (k_with "CompSrc" => (refine Halt.h ?_))
  (k_with "exec For Name Call cons nil" => (refine Halt.h ?_))
  k_steps
  refine ⟨LCg.CompSrc.range (n := 15) (by rfl) (by k_asm) (by k_asm) (by assumption) (by decide) (by decide) (by decide) ?_⟩
  intro g'
  refine restInv (J := fun j zs nx => IntsAre zs (spotsL j) ∧ nx = _) ⟨.nil, rfl⟩ ?_ ?_
  · intro j v zs news I' oI C oC D m₂ h' tk' E' hj hP hJ hC hx F' N' off' ne'
    refine foldG9 ?_
    intro GG
    obtain ⟨hzs, rfl⟩ := hJ
    obtain ⟨tv, rfl⟩ := hP
    dsimp only [GG]
    clear GG
    k_steps
    exact LCg.CompEnd.intro (by assumption) (by assumption) _ (fun p hp => hp) off' trivial ⟨⟨spots_snoc hzs, rfl⟩⟩
  · intro zs news hJ
    refine foldG9 ?_
    intro GG
    obtain ⟨hzs, rfl⟩ := hJ
    dsimp only [GG]
    clear GG
    intro D h3 tk3 F3 N3 off3
    (try dsimp only)
    (try k_sweep)
    (try k_fold)
    k_steps
    have l2 := l1
    (with_reducible rename Fr g1 L1 _ _ => kF)
    (with_reducible rename News g1 L1 _ (_ :: _) => kN)
    (with_reducible rename D < _ ∧ _ => hlt)
    obtain ⟨DF, m0, tp, hDF, kF, kN⟩ : ∃ (DF : Addr) (m0 : Str → Option Value) (tp : Tok), (D < DF ∧ L1 + 1 + 1 < DF ∧ L1 + 1 < DF ∧ 154 < DF ∧ AllLt DF rest) ∧ Fr g1 L1 _ (ov1 (Str.ofString "place") (ov1 (Str.ofString "found") (ov1 (Str.ofString "spots") m0 (some (.ref D))) (some (.ref DF))) (some (.int 0 tp))) ∧ News g1 L1 _ ((DF, W.listOf #[] 0) :: (D, LCg.lst zs) :: (L1 + 1 + 1, oA) :: (L1 + 1, oB) :: (154, tabObj ps) :: rest) := ⟨_, _, _, hlt, Fr.cast' kF (ov3s _ _ _ _ rfl rfl rfl), kN⟩
    clear l2 hlt
    have h154 : 154 < L1 := l1.1
    have hD154 : 154 ≠ D := off1_all off3 _ (.tail _ (.tail _ (.head _)))
    have hF154 : DF ≠ 154 := Nat.ne_of_gt hDF.2.2.2.1
    have hR154 : ∀ gs nn, ∀ p ∈ (DF, W.listOf gs nn) :: (D, LCg.lst zs) :: (L1 + 1 + 1, oA) :: (L1 + 1, oB) :: rest, p.1 ≠ 154 := fun gs nn p hp => by
      rcases List.mem_cons.mp hp with rfl | hp
      · exact hF154
      rcases List.mem_cons.mp hp with rfl | hp
      · exact Ne.symm hD154
      rcases List.mem_cons.mp hp with rfl | hp
      · exact Nat.ne_of_gt (Nat.lt_succ_of_lt (Nat.lt_succ_of_lt h154))
      rcases List.mem_cons.mp hp with rfl | hp
      · exact Nat.ne_of_gt (Nat.lt_succ_of_lt h154)
      · exact hr p hp
    refine ⟨lforRange (g := g1) 0 rs.length (HvJ ps S zs D DF L1 oA oB rest) rfl rfl rfl ?_ ?_ ?_⟩
    · k_steps
      (with_reducible rename News g1 L1 _ ((DF, _) :: _) => kN5)
      refine ⟨⟨_, _, _, _, _, _, _, _, _, rfl, rfl, by assumption, small_one (by decide) (by decide) (by omega) (by omega), (rangeSize_nat _ _).trans (by omega), by k_asm, fun p hp => kN5 p (by
        rcases List.mem_cons.mp hp with rfl | hp
        · exact .tail _ (.tail _ (.tail _ (.tail _ (.head _))))
        rcases List.mem_cons.mp hp with rfl | hp
        · exact .head _
        rcases List.mem_cons.mp hp with rfl | hp
        · exact .tail _ (.head _)
        rcases List.mem_cons.mp hp with rfl | hp
        · exact .tail _ (.tail _ (.head _))
        rcases List.mem_cons.mp hp with rfl | hp
        · exact .tail _ (.tail _ (.tail _ (.head _)))
        · exact .tail _ (.tail _ (.tail _ (.tail _ (.tail _ hp))))), ⟨_, [], _, _, _, _, .nil, .fresh, rfl, ov4s _ _ _ _ _ rfl rfl rfl rfl⟩⟩⟩
    · intro i t m₁ nx h tk I o hin hJ0_9 off kF2 kN2
      refine foldG9 ?_
      intro GG
      obtain ⟨m9, gs, nn, kc, tp, X, hgi, hX, rfl, rfl⟩ := hJ0_9
      dsimp only [GG]
      clear GG
      (k_with "eval Lambda" => (refine Halt.h ?_))
      k_steps
      refine ⟨kla_eval rfl ?_⟩
      refine' lam_any ?F ?N ?T ?C rfl hX off (hR154 _ _) ht hnf rfl ?_
      case F => k_asm
      case N => k_asm
      case T => k_asm
      case C => kn_code
      clear kF2 kN2
      intro f c' oc vs t9 ctv h4 tk4 F4 N4 v1 v2 cP cI cR fc fP fI fR
      (k_with "call ref" => (refine Halt.h ?_))
      k_steps
      refine ⟨?_⟩
      k_with_none
      show wpAny _ _ (call (Value.ref 32) [Value.ref D, Value.int (0 + (i : Nat)) t, Value.int (plc S i) tp] [(Str.ofString "key", Value.ref f)]) _ _ _
      k_dflt (refine' wpAny_call (bisect_key_spec w loose mean mg mb _ D f _ _ _ _ (spotsL 15) zs zs.length _ _ _ _ (KF rs) hzs (by decide) (hv_s rs) (hv_0 hp hb hin) (hv_1 hp hs hb hin) ?hmO ?hf ?hkey _ _ _ _ _ _ _ _ _ _ _ _ _ _ _ _ _ ?B ?F ?X ?N ?T ?K ?dp ?un ?cd ?rtO))
      case B => k_asm
      case F => k_asm
      case X => k_asm
      case N => exact N4
      case T => k_asm
      case K => first | exact rfl | assumption
      case dp => ktr_room
      case un => ktr_units
      case cd => assumption
      case hmO => exact .tail _ (.tail _ (.tail _ (.tail _ (.tail _ (.head _)))))
      case hf => exact .head _
      case hkey =>
        intro v tv hv dp2 un2 gd2 cn2 cs2 a2 ccd2 cl2 outer2 A2 base2 h2 L2 m2 s2 Q2 E2 B2 F2 X2 N2 T2 hk2 hdp2 hun2 codeHd9 hret2
        refine' kla_code ?k1 ?k2 ?k3 ?k4 ?k5 ?kA ?kF ?kK ?k6 ?k7 ?k8 ?k9 ?kB ?_ ?c2 ?c3 ?c4 ?c5
        case kA => exact rfl
        case kF => exact rfl
        case kK => first | exact rfl | assumption
        case k1 => k_asm
        case k2 => k_asm
        case k3 => k_asm
        case k4 => k_asm
        case k5 => k_asm
        case k6 => k_mem
        case k7 => exact codeRec_news (by k_asm) (.tail _ (.head _)) v1 v2
        case k8 => k_room
        case k9 => exact rfl
        case c5 => decide
        case kB => exact locs rfl
        case c2 => exact rfl
        case c3 => exact rfl
        case c4 => exact rfl
        k_whole
        intro g8 L8 h8 FG8 F8 N8 B8 X8 T8
        (try dsimp only)
        (try k_lift B8)
        (try k_fold)
        have hml : (1 :: mulT rs).length ≤ 6 := by rw [List.length_cons, mulT_len]; omega
        have hul : (mulT (rs.map fun r => r - v)).length ≤ 5 := by rw [mulT_len, List.length_map]; omega
        (k_with "call ref" => ((with_reducible show wpAny _ _ (call (Value.ref 147) _) _ _ _); k_dflt (refine' wpAny_call (law_moved_spec w loose mean mg mb _ l _ its n _ _ hi hml (Nat.succ_le_succ (Nat.zero_le _)) (spots_mem hv) ?hm _ _ _ _ _ _ _ _ _ _ _ _ _ _ _ _ _ ?B ?F ?X ?N ?T ?K ?dp ?un ?cd ?_); (case B => k_asm); (case F => k_asm); (case X => k_asm); (case N => k_asm); (case T => k_asm); (case K => first | exact rfl | assumption); (case dp => ktr_room); (case un => ktr_units); (case cd => assumption); (case hm => k_mem)); intro D9 xs9 nn9 h' tk' hx9 ho9 F9 N9; (try dsimp only); (try k_sweep); (try k_fold)))
        (k_with "call ref" => ((with_reducible show wpAny _ _ (call (Value.ref 152) _) _ _ _); k_dflt (refine' wpAny_call (law_changes_spec w loose mean mg mb _ D9 (mulT (rs.map fun r => r - v)) xs9 nn9 (Eq.subst (motive := fun z => IntsAre xs9 z) (moved_eq hc v) hx9) hul ?hm _ _ _ _ _ _ _ _ _ _ _ _ _ _ _ _ _ ?B ?F ?X ?N ?T ?K ?dp ?un ?cd ?_); (case B => k_asm); (case F => k_asm); (case X => k_asm); (case N => k_asm); (case T => k_asm); (case K => first | exact rfl | assumption); (case dp => ktr_room); (case un => ktr_units); (case cd => assumption); (case hm => k_mem)); intro h' tk' t9 F9 N9; (try dsimp only); (try k_sweep); (try k_fold)))
        k_steps
        rw [key_eq]
        (with_reducible rename News h2 L2 _ (_ :: _) => kM8)
        exact hret2 _ _ _ (by k_asm) (fun p hp => kM8 p (.tail _ hp))
      case rtO =>
        intro h5 tk5 t5 F5 N5
        have hzl : zs.length = 15 := hzs.length
        have hb9 := hv_b hp hb hin
        have hp9 : 0 ≤ plc S (i + 1) ∧ plc S (i + 1) ≤ 14 := by
          show 0 ≤ S.getD i 0 + 7 ∧ S.getD i 0 + 7 ≤ 14
          omega
        have hn9 : ¬ plc S (i + 1) = 15 := by omega
        (try dsimp only)
        rw [hv_2 hp hs hb hin]
        (k_with "call builtin:len" => (refine KM.len_K (n := 15) (by k_asm) (.tail _ (.tail _ (.tail _ (.tail _ (.tail _ (.head _)))))) ((List.size_toArray ..).trans hzl) (by decide) ?_))
        have hsl9 : (spotsL 15).length = 15 := rfl
        have n1 := neN (fR _ (.head _))
        have n2 := neN (cR _ (.head _))
        have n4 := neN (off _ (List.mem_append_right _ (.head _)))
        have n3 := neN hF154
        dsimp only at n1 n2 n3 n4
        k_steps
        (with_reducible rename News g1 L1 _ (_ :: _) => kM9)
        (try rw [List.push_toArray] at kM9)
        have h154I := tabX_ne hX off
        refine ⟨⟨_, _, _, (c', oc) :: (154, tabObj (ps ++ #[rawInt lamPos.line, rawInt lamPos.col, .ref c'])) :: (DF, W.listOf (gs ++ [_]).toArray _) :: (D, LCg.lst zs) :: (L1 + 1 + 1, oA) :: (L1 + 1, oB) :: rest, rfl, by k_asm, fun p hp => kM9 p (by
          rcases List.mem_cons.mp hp with rfl | hp
          · exact .tail _ (.tail _ (.tail _ (.head _)))
          rcases List.mem_cons.mp hp with rfl | hp
          · exact .tail _ (.head _)
          rcases List.mem_cons.mp hp with rfl | hp
          · exact .tail _ (.tail _ (.head _))
          · exact .tail _ (.tail _ (.tail _ (.tail _ hp)))), fun p hp => by
          rcases List.mem_cons.mp hp with rfl | hp
          · exact cI
          rcases List.mem_cons.mp hp with rfl | hp
          · exact h154I
          rcases List.mem_cons.mp hp with rfl | hp
          · exact n4
          · exact off _ (List.mem_append_right _ (.tail _ hp)), ⟨_, gs ++ [_], _, _, _, [(c', oc), (154, tabObj (ps ++ #[rawInt lamPos.line, rawInt lamPos.col, .ref c']))], take_snoc hgi (by rw [hp.length_eq]; exact hin) (spots_at hb9), .hit c' oc vs t9 v1 v2 cP (fun p hp => by
            rcases List.mem_cons.mp hp with rfl | hp
            · exact n2
            · exact cR _ (.tail _ hp)), rfl, ov4s _ _ _ _ _ rfl rfl rfl rfl⟩⟩⟩
    · intro m₁ nx h tk hJ1_4 kF2 kN2
      refine foldG9 ?_
      intro GG
      obtain ⟨m9, gs, nn, kc, tp, X, hgi, hX, rfl, rfl⟩ := hJ1_4
      dsimp only [GG]
      clear GG
      k_steps
      (with_reducible rename News h₀ L _ (_ ++ _) => kM)
      obtain ⟨ps', hps⟩ := tabX_mem hX
      rw [List.take_of_length_le (Nat.le_of_eq hp.length_eq)] at hgi
      exact hret DF gs nn ps' _ _ hgi (allLt_ne hDF.2.2.2.2 (Nat.le_refl _)) (by k_asm) (fun p hp => kM p (by
        rcases List.mem_cons.mp hp with rfl | hp
        · exact List.mem_append_right _ (.head _)
        rcases List.mem_cons.mp hp with rfl | hp
        · exact List.mem_append_left _ hps
        · exact List.mem_append_right _ (.tail _ (.tail _ (.tail _ (.tail _ hp))))))

theorem law_halved_spec (w : World) (loose : List Str) (mean : ExcName → Option Value) (mg mb : Str → Option Value) (rest : List (Addr × Obj)) (l : Addr) (rs S : List Int) (its : List Value) (n : Nat) (tc : Tok) (hi : IntsAre its (1 :: mulT rs)) (hc : rs.length = 4 ∨ rs.length = 5) (hb : ∀ r ∈ rs, -7 ≤ r ∧ r ≤ 7) (hp : S.Perm rs) (hs : S.Pairwise (· ≤ ·)) (hm : (l, W.listOf its.toArray n) ∈ rest) (ps : Array Value) (hr : ∀ p ∈ rest, p.1 ≠ 154) (ht : TriplesOk ps.toList) (hnf : codeAmong lamPos ps.toList = none) :
    AsksT 18 w loose mean mg mb 157 ((154, tabObj ps) :: rest) [.ref l, .int (rs.length : Nat) tc] (fun h₀ L m s Q => ∀ (D : Addr) (xs : List Value) (nn : Nat) (ps' : Array Value) (h' : Heap) (tk' : Nat), IntsAre xs S → (∀ p ∈ rest, p.1 ≠ D) → Fr h₀ L h' m → News h₀ L h' ((D, W.listOf xs.toArray nn) :: (154, tabObj ps') :: rest) → Q (.ref D) { s with heap := h', toks := tk' }) :=
  fun dp un gd cn cs a ccd cl outer A₀ base h₀ L m s Q E => Classical.choose_spec law_halved_spec_K.ex9 law_halved_spec_at ((w, loose, mean, mg, mb, dp, un, gd, cn, cs, a, ccd, cl, outer, A₀, base, h₀, L, m, s, Q, E), rest, l, rs, S, its, n, tc, ps) hi hc hb hp hs hm hr ht hnf
end

section
theorem news_up {g h : Heap} {L : Addr} (A : List (Addr × Obj)) {b : Addr × Obj} {C : List (Addr × Obj)} (N : News g L h (A ++ b :: C)) : News g L h (b :: (A ++ C)) := fun p hp => N p (by
  rcases List.mem_cons.mp hp with rfl | hp
  · exact List.mem_append_right _ (.head _)
  · rcases List.mem_append.mp hp with hp | hp
    · exact List.mem_append_left _ hp
    · exact List.mem_append_right _ (.tail _ hp))
theorem news_dn {g h : Heap} {L : Addr} (A : List (Addr × Obj)) {b : Addr × Obj} {C : List (Addr × Obj)} (N : News g L h (b :: (A ++ C))) : News g L h (A ++ b :: C) := fun p hp => N p (by
  rcases List.mem_append.mp hp with hp | hp
  · exact .tail _ (List.mem_append_left _ hp)
  · rcases List.mem_cons.mp hp with rfl | hp
    · exact .head _
    · exact .tail _ (List.mem_append_right _ hp))
theorem off1_all4 {D : Addr} : ∀ {l : List (Addr × Obj)}, LCg.Off1 D l → ∀ p ∈ l, p.1 ≠ D
  | [], _, _, h => nomatch h
  | q :: l, x, p, h => by
    rcases List.mem_cons.mp h with rfl | h
    · exact x.1
    · exact off1_all4 x.2 p h
theorem strs_at {q : List Value} {cs : List Int} {j : Nat} (h : StrsAre q (cs.map wS)) (hj : j < cs.length) : ∃ tq, q[j]? = some (.str (wS (cs.getD j 0)) tq) := by
  have hl : q.length = cs.length := h.length.trans (List.length_map ..)
  have hq : q[j]? = some q[j] := List.getElem?_eq_getElem (by omega)
  obtain ⟨y, t, e, hw⟩ := h.item j _ hq
  rw [List.getElem?_map, List.getElem?_eq_getElem hj] at hw
  rw [hq, e, getD_lt hj]
  exact ⟨t, by rw [← Option.some.inj hw]⟩
theorem drop_at_eq {q : List Value} {j : Nat} {v : Value} (h : q[j]? = some v) : q.drop j = v :: q.drop (j + 1) := by
  have hj : j < q.length := by
    rcases Nat.lt_or_ge j q.length with h1 | h1
    · exact h1
    · rw [List.getElem?_eq_none h1] at h; cases h
  rw [List.drop_eq_getElem_cons hj]
  rw [List.getElem?_eq_getElem hj] at h
  rw [Option.some.inj h]
theorem ints_take {zs : List Value} {cs : List Int} {j : Nat} {t : Tok} (h : IntsAre zs (cs.take j)) (hj : j < cs.length) : IntsAre (zs ++ [.int (cs.getD j 0) t]) (cs.take (j + 1)) := by
  rw [take_getD hj]
  exact h.append (.cons _ _ .nil)
theorem ints_get {vs : List Value} {ns : List Int} (h : IntsAre vs ns) {k : Nat} (hk : k < ns.length) : ∃ t, vs[k]? = some (.int (ns.getD k 0) t) := by
  have hl : vs.length = ns.length := h.length
  have hv : vs[k]? = some vs[k] := List.getElem?_eq_getElem (by omega)
  obtain ⟨n, t, e, hn⟩ := h.at k _ hv
  rw [List.getElem?_eq_getElem hk] at hn
  rw [hv, e, getD_lt hk, Option.some.inj hn]
  exact ⟨t, rfl⟩
theorem strs_snoc {q : List Value} {l : List Int} {k : Nat} {v : Int} {t : Tok} (h : StrsAre q ((l.take k).map wS)) (hv : l[k]? = some v) : StrsAre (q ++ [.str (wS v) t]) ((l.take (k + 1)).map wS) := by
  rw [List.take_add_one, hv, List.map_append]
  exact h.append' (.cons _ _ .nil)
/-- a product's turn -/
inductive MuK (r : Int) (cs : List Int) (RA : Addr) (X : List (Addr × Obj)) (pb : Addr) (Z : List (Addr × Obj)) (k : Nat) (m : Str → Option Value) (nx : List (Addr × Obj)) : Prop
  | mk (m8 : Str → Option Value) (q : List Value) (nq : Nat) (tr : Tok) : StrsAre q (((M r 0 cs).take k).map wS) → nx = X ++ (pb, W.listOf q.toArray nq) :: Z → m = ov1 (Str.ofString "root") (ov1 (Str.ofString "row") m8 (some (.ref RA))) (some (.int r tr)) → MuK r cs RA X pb Z k m nx
/-- a round's turn -/
inductive MuJ (w : World) (loose : List Str) (mean : ExcName → Option Value) (mg mb : Str → Option Value) (x pb RA CA : Addr) (oX : Obj) (rs : List Int) (nb Z : List (Addr × Obj)) (i : Nat) (m : Str → Option Value) (nx : List (Addr × Obj)) : Prop
  | mk (m9 : Str → Option Value) (rits q : List Value) (nr nq : Nat) (Z' : List (Addr × Obj)) : IntsAre rits (rowR rs i) → StrsAre q (((1 : Int) :: mulT (rs.take i)).map wS) → ZAt w loose mean mg mb x pb rs rs.length nb i Z' → Z'.map (·.1) = Z.map (·.1) →
      nx = (RA, W.listOf rits.toArray nr) :: (CA, oX) :: (pb, W.listOf q.toArray nq) :: Z' → m = ov1 (Str.ofString "row") m9 (some (.ref RA)) → MuJ w loose mean mg mb x pb RA CA oX rs nb Z i m nx
namespace law_multiplied_spec_K
noncomputable def P9 (w : World) (loose : List Str) (mean : ExcName → Option Value) (mg : Str → Option Value) (mb : Str → Option Value) (dp : Nat) (un : Nat) (gd : Option (List Code)) (cn : Str) (cs : Scope) (a : Addr) (ccd : Value) (cl : List (Str × Addr)) (outer : List Env) (A₀ : Around) (base : Heap) (h₀ : Heap) (L : Addr) (m : Str → Option Value) (s : Shared) (Q : Value → Shared → Prop) (E : Value → Shared → Prop) (x : Addr) (pb : Addr) (rs : List Int) (nb : List (Addr × Obj)) (d : Addr) (la : Addr) (st : Addr) (k1 : Tok) (k2 : Tok) (k3 : Tok) (k4 : Tok) (k5 : Tok) (k6 : Tok) (ti : Tok) (nl : Nat) (nq : Nat) (tc : Tok) : Prop :=
  (hl : rs.length ≤ 5) → (hb : ∀ r ∈ rs, r.natAbs ≤ 7) → (hx : (⟨(pageL rs rs.length).toArray⟩ : Str).length < 1000) → (hM : Mach w loose mean mg mb x d pb la st ⟨(pageL rs rs.length).toArray⟩ nb) → AskV 24 w loose mean mg mb 135 ((pb, W.listOf #[] nq) :: ((x, instObj 86 d) :: (d, mDict w (1 + ((lnOf rs 0 : Nat) : Int)) st pb k1 k2 k3 k4 k5 k6) :: (la, W.listOf #[.int (posOf rs 0 : Nat) ti] nl) :: nb)) [.ref x, .int (rs.length : Nat) tc] (fun h₀ L m s Q => ∀ (D : Addr) (rits q : List Value) (nr nq' : Nat) (Z' : List (Addr × Obj)) (h' : Heap) (tk' : Nat), IntsAre rits (rowR rs rs.length) → StrsAre q (((1 : Int) :: mulT rs).map wS) → ZAt w loose mean mg mb x pb rs rs.length nb rs.length Z' → Z'.map (·.1) = ((x, instObj 86 d) :: (d, mDict w (1 + ((lnOf rs 0 : Nat) : Int)) st pb k1 k2 k3 k4 k5 k6) :: (la, W.listOf #[.int (posOf rs 0 : Nat) ti] nl) :: nb).map (·.1) → D ≠ pb → (∀ z ∈ ((x, instObj 86 d) :: (d, mDict w (1 + ((lnOf rs 0 : Nat) : Int)) st pb k1 k2 k3 k4 k5 k6) :: (la, W.listOf #[.int (posOf rs 0 : Nat) ti] nl) :: nb), z.1 ≠ D) →
      Fr h₀ L h' m → News h₀ L h' ((D, W.listOf rits.toArray nr) :: (pb, W.listOf q.toArray nq') :: Z') → Q (.ref D) { s with heap := h', toks := tk' }) dp un gd cn cs a ccd cl outer A₀ base h₀ L m s Q E
noncomputable def PV9 (v : K9 × (Addr) × (Addr) × (List Int) × (List (Addr × Obj)) × (Addr) × (Addr) × (Addr) × (Tok) × (Tok) × (Tok) × (Tok) × (Tok) × (Tok) × (Tok) × (Nat) × (Nat) × (Tok)) : Prop := P9 v.1.1 v.1.2.1 v.1.2.2.1 v.1.2.2.2.1 v.1.2.2.2.2.1 v.1.2.2.2.2.2.1 v.1.2.2.2.2.2.2.1 v.1.2.2.2.2.2.2.2.1 v.1.2.2.2.2.2.2.2.2.1 v.1.2.2.2.2.2.2.2.2.2.1 v.1.2.2.2.2.2.2.2.2.2.2.1 v.1.2.2.2.2.2.2.2.2.2.2.2.1 v.1.2.2.2.2.2.2.2.2.2.2.2.2.1 v.1.2.2.2.2.2.2.2.2.2.2.2.2.2.1 v.1.2.2.2.2.2.2.2.2.2.2.2.2.2.2.1 v.1.2.2.2.2.2.2.2.2.2.2.2.2.2.2.2.1 v.1.2.2.2.2.2.2.2.2.2.2.2.2.2.2.2.2.1 v.1.2.2.2.2.2.2.2.2.2.2.2.2.2.2.2.2.2.1 v.1.2.2.2.2.2.2.2.2.2.2.2.2.2.2.2.2.2.2.1 v.1.2.2.2.2.2.2.2.2.2.2.2.2.2.2.2.2.2.2.2.1 v.1.2.2.2.2.2.2.2.2.2.2.2.2.2.2.2.2.2.2.2.2.1 v.1.2.2.2.2.2.2.2.2.2.2.2.2.2.2.2.2.2.2.2.2.2 v.2.1 v.2.2.1 v.2.2.2.1 v.2.2.2.2.1 v.2.2.2.2.2.1 v.2.2.2.2.2.2.1 v.2.2.2.2.2.2.2.1 v.2.2.2.2.2.2.2.2.1 v.2.2.2.2.2.2.2.2.2.1 v.2.2.2.2.2.2.2.2.2.2.1 v.2.2.2.2.2.2.2.2.2.2.2.1 v.2.2.2.2.2.2.2.2.2.2.2.2.1 v.2.2.2.2.2.2.2.2.2.2.2.2.2.1 v.2.2.2.2.2.2.2.2.2.2.2.2.2.2.1 v.2.2.2.2.2.2.2.2.2.2.2.2.2.2.2.1 v.2.2.2.2.2.2.2.2.2.2.2.2.2.2.2.2.1 v.2.2.2.2.2.2.2.2.2.2.2.2.2.2.2.2.2
theorem ex9 : ∃ c, PV9 c → ∀ v, PV9 v := sk9 ⟨(Classical.choice ne9, default, default, default, default, default, default, default, default, default, default, default, default, default, default, default, default, default)⟩ PV9
noncomputable def c9 : K9 × (Addr) × (Addr) × (List Int) × (List (Addr × Obj)) × (Addr) × (Addr) × (Addr) × (Tok) × (Tok) × (Tok) × (Tok) × (Tok) × (Tok) × (Tok) × (Nat) × (Nat) × (Tok) := Classical.choose ex9
noncomputable def w : World := c9.1.1
noncomputable def loose : List Str := c9.1.2.1
noncomputable def mean : ExcName → Option Value := c9.1.2.2.1
noncomputable def mg : Str → Option Value := c9.1.2.2.2.1
noncomputable def mb : Str → Option Value := c9.1.2.2.2.2.1
noncomputable def a : Addr := c9.1.2.2.2.2.2.2.2.2.2.2.1
noncomputable def h₀ : Heap := c9.1.2.2.2.2.2.2.2.2.2.2.2.2.2.2.2.2.1
noncomputable def L : Addr := c9.1.2.2.2.2.2.2.2.2.2.2.2.2.2.2.2.2.2.1
noncomputable def m : Str → Option Value := c9.1.2.2.2.2.2.2.2.2.2.2.2.2.2.2.2.2.2.2.1
noncomputable def s : Shared := c9.1.2.2.2.2.2.2.2.2.2.2.2.2.2.2.2.2.2.2.2.1
noncomputable def Q : Value → Shared → Prop := c9.1.2.2.2.2.2.2.2.2.2.2.2.2.2.2.2.2.2.2.2.2.1
noncomputable def E : Value → Shared → Prop := c9.1.2.2.2.2.2.2.2.2.2.2.2.2.2.2.2.2.2.2.2.2.2
noncomputable def x : Addr := c9.2.1
noncomputable def pb : Addr := c9.2.2.1
noncomputable def rs : List Int := c9.2.2.2.1
noncomputable def nb : List (Addr × Obj) := c9.2.2.2.2.1
noncomputable def d : Addr := c9.2.2.2.2.2.1
noncomputable def la : Addr := c9.2.2.2.2.2.2.1
noncomputable def st : Addr := c9.2.2.2.2.2.2.2.1
noncomputable def k1 : Tok := c9.2.2.2.2.2.2.2.2.1
noncomputable def k2 : Tok := c9.2.2.2.2.2.2.2.2.2.1
noncomputable def k3 : Tok := c9.2.2.2.2.2.2.2.2.2.2.1
noncomputable def k4 : Tok := c9.2.2.2.2.2.2.2.2.2.2.2.1
noncomputable def k5 : Tok := c9.2.2.2.2.2.2.2.2.2.2.2.2.1
noncomputable def k6 : Tok := c9.2.2.2.2.2.2.2.2.2.2.2.2.2.1
noncomputable def ti : Tok := c9.2.2.2.2.2.2.2.2.2.2.2.2.2.2.1
noncomputable def nl : Nat := c9.2.2.2.2.2.2.2.2.2.2.2.2.2.2.2.1
noncomputable def nq : Nat := c9.2.2.2.2.2.2.2.2.2.2.2.2.2.2.2.2.1
noncomputable def tc : Tok := c9.2.2.2.2.2.2.2.2.2.2.2.2.2.2.2.2.2
end law_multiplied_spec_K
open law_multiplied_spec_K in
set_option maxHeartbeats 4000000 in
set_option maxRecDepth 100000 in
theorem law_multiplied_spec_at : P9 w loose mean mg mb (c9.1.2.2.2.2.2.1) (c9.1.2.2.2.2.2.2.1) (c9.1.2.2.2.2.2.2.2.1) (c9.1.2.2.2.2.2.2.2.2.1) (c9.1.2.2.2.2.2.2.2.2.2.1) a (c9.1.2.2.2.2.2.2.2.2.2.2.2.1) (c9.1.2.2.2.2.2.2.2.2.2.2.2.2.1) (c9.1.2.2.2.2.2.2.2.2.2.2.2.2.2.1) (c9.1.2.2.2.2.2.2.2.2.2.2.2.2.2.2.1) (c9.1.2.2.2.2.2.2.2.2.2.2.2.2.2.2.2.1) h₀ L m s Q E x pb rs nb d la st k1 k2 k3 k4 k5 k6 ti nl nq tc := by
  k_with_none
  w_top off
  intro hl hb hx hM B F X N T hk hdp hun codeHd hret
  have fill9 : Challenge.rw_sr0027_02 = Challenge.rw_sr0027_02 ∧ hd.heap_39 = hd.heap_39 := by k_fill; exact ⟨rfl, rfl⟩
  k_dflt (refine' code_defC ?k1 ?k2 ?k3 ?k4 ?k5 ?kA ?kF ?kK ?k6 ?k7 ?k8 ?k9 ?kB ?kD ?_ ?c2 ?c3 ?c4; (case kA => exact rfl); (case kF => exact rfl); (case kK => first | exact rfl | assumption); (case k1 => k_asm); (case k2 => k_asm); (case k3 => k_asm); (case k4 => k_asm); (case k5 => k_asm); (case k6 => k_is); (case k7 => k_is); (case k8 => ktr_room); (case k9 => first | exact BindsTo.of_eq rfl | exact binds_K (by k_in) rfl (by k_is) rfl rfl rfl); (case kB => exact rfl); (case kD => decide +kernel); (case c2 => exact rfl); (case c3 => exact rfl); (case c4 => exact rfl))
  intro g1 L1 hh1 tk1 cells1 FG1 F1 N1 Y1 B1 X1 T1 l1
  (try k_lt l1)
  k_cells Y1
  (try simp only [List.cons_append, List.nil_append] at N1)
  (try dsimp only); (try k_lift B1); (try k_fold)
  have hZ0 : ZAt w loose mean mg mb x pb rs rs.length nb 0 ((x, instObj 86 d) :: (d, mDict w (1 + ((lnOf rs 0 : Nat) : Int)) st pb k1 k2 k3 k4 k5 k6) :: (la, W.listOf #[.int (posOf rs 0 : Nat) ti] nl) :: nb) := ⟨d, la, st, k1, k2, k3, k4, k5, k6, ti, nl, hM, rfl⟩
  rename_i oX dX
  have dX9 : oX.data = .cell (some (.ref x)) := dX
  clear dX
  refine foldE9 ?_
  intro QQ9 EE9
  have hlp : pb < L1 := l1.1
  have hlZ : ∀ z ∈ ((x, instObj 86 d) :: (d, mDict w (1 + ((lnOf rs 0 : Nat) : Int)) st pb k1 k2 k3 k4 k5 k6) :: (la, W.listOf #[.int (posOf rs 0 : Nat) ti] nl) :: nb), z.1 ≠ L1 + 1 := allLt_ne l1.2 (Nat.le_succ _)
  have hX1 : XOff pb ((x, instObj 86 d) :: (d, mDict w (1 + ((lnOf rs 0 : Nat) : Int)) st pb k1 k2 k3 k4 k5 k6) :: (la, W.listOf #[.int (posOf rs 0 : Nat) ti] nl) :: nb) [(L1 + 1, oX)] := .cons (Nat.ne_of_gt (Nat.lt_succ_of_lt hlp)) hlZ .nil
  (k_with "call ref" => ((with_reducible show wpAny _ _ (call (Value.ref 116) _) _ _ _); k_dflt (refine' wpAny_call (law_told_spec w loose mean mg mb _ _ _ (by first | assumption | decide) _ _ _ _ _ _ _ _ _ _ _ _ _ _ _ _ _ (by k_asm) (by k_asm) (by k_asm) (by k_asm) (by k_asm) (by first | exact rfl | assumption) (by ktr_room) (by ktr_units) (by assumption) ?_)); intro h' tk' t9 F9 N9; (try dsimp only); (try k_sweep); (try k_fold)))
  (k_with "call ref" => ((with_reducible show wpAny _ _ (call (Value.ref 123) _) _ _ _); k_dflt (refine' wpAny_call (law_number_spec w loose mean mg mb _ _ _ (by assumption) _ _ _ _ _ _ _ _ _ _ _ _ _ _ _ _ _ (by k_asm) (by k_asm) (by k_asm) (by k_asm) (by k_asm) (by first | exact rfl | assumption) (by ktr_room) (by ktr_units) (by assumption) ?_)); intro h' tk' t9 F9 N9; (try dsimp only); (try k_sweep); (try k_fold)))
  (k_with "call ref" => ((with_reducible show wpAny _ _ (call (Value.ref 76) _) _ _ _); refine Halt.h ?_))
  (k_with "call ref" => ((with_reducible show wpAny _ _ (call (Value.ref 83) _) _ _ _); refine Halt.h ?_))
  (k_with "call ref" => ((with_reducible show wpAny _ _ (call (Value.ref 23) _) _ _ _); refine Halt.h ?_))
  (k_with "exec Assign cons ListComp" => (k_dflt (refine LCg.Assign_ListComp_U (F₀ := by k_asm) (by rfl) (by with_unfolding_all rfl) (by with_unfolding_all rfl) (by decide) (by rfl) (by decide) (by rfl) (by rfl) (by rfl) ?_); k_dflt lcg_toSrc))
  (k_with "CompSrc" => (refine Halt.h ?_))
  (k_with "exec For Tuple Call cons nil" => (refine Halt.h ?_))
  (k_with "call type:zip" => (refine Halt.h ?_))
  (k_with "exec For Name Call cons nil" => (refine Halt.h ?_))
  k_steps
  (with_reducible rename News g1 L1 _ (_ :: _) => kN)
  (with_reducible rename Fr g1 L1 _ _ => kF)
  obtain ⟨RA, m0, hRA, kF, kN⟩ : ∃ (RA : Addr) (m0 : Str → Option Value), (L1 + 1 < RA ∧ pb < RA ∧ AllLt RA ((x, instObj 86 d) :: (d, mDict w (1 + ((lnOf rs 0 : Nat) : Int)) st pb k1 k2 k3 k4 k5 k6) :: (la, W.listOf #[.int (posOf rs 0 : Nat) ti] nl) :: nb)) ∧ Fr g1 L1 _ (ov1 (Str.ofString "row") (ov1 (Str.ofString "count") m0 (some (.int (rs.length : Nat) tc))) (some (.ref RA))) ∧ News g1 L1 _ ((RA, W.listOf #[] 0) :: (L1 + 1, oX) :: (pb, W.listOf #[] nq) ::((x, instObj 86 d) :: (d, mDict w (1 + ((lnOf rs 0 : Nat) : Int)) st pb k1 k2 k3 k4 k5 k6) :: (la, W.listOf #[.int (posOf rs 0 : Nat) ti] nl) :: nb)) := ⟨_, _, by assumption, Fr.cast' kF (ov2s _ _ _ rfl rfl), kN⟩
  have hRp : RA ≠ pb := Nat.ne_of_gt hRA.2.1
  have hRZ : ∀ z ∈ ((x, instObj 86 d) :: (d, mDict w (1 + ((lnOf rs 0 : Nat) : Int)) st pb k1 k2 k3 k4 k5 k6) :: (la, W.listOf #[.int (posOf rs 0 : Nat) ti] nl) :: nb), z.1 ≠ RA := allLt_ne hRA.2.2 (Nat.le_refl _)
  have hRC : RA ≠ L1 + 1 := Nat.ne_of_gt hRA.1
  have hX2 : ∀ o, XOff pb ((x, instObj 86 d) :: (d, mDict w (1 + ((lnOf rs 0 : Nat) : Int)) st pb k1 k2 k3 k4 k5 k6) :: (la, W.listOf #[.int (posOf rs 0 : Nat) ti] nl) :: nb) [(RA, o), (L1 + 1, oX)] := fun o => .cons hRp hRZ hX1
  refine ⟨?_⟩
  k_dflt (refine' wpAny_call (qpush (hZ0.qm (hX2 _)) [] nq _ _ (by decide) _ _ _ _ _ _ _ _ _ _ _ _ _ _ _ _ _ (by k_asm) (by k_asm) (by k_asm) (news_up [_, _] kN) (by k_asm) (by first | exact rfl | assumption) (by ktr_room) (by ktr_units) (by assumption) ?_))
  intro h9 tk9 F9 N9
  have kN2 := news_dn [_, _] N9
  clear N9
  (try simp only [List.cons_append, List.nil_append] at kN2)
  (try dsimp only)
  (try k_sweep)
  (try k_fold)
  k_steps
  (try clear kF); (try clear kN)
  refine ⟨lforRange (g := g1) 1 rs.length (MuJ w loose mean mg mb x pb RA (L1 + 1) oX rs nb ((x, instObj 86 d) :: (d, mDict w (1 + ((lnOf rs 0 : Nat) : Int)) st pb k1 k2 k3 k4 k5 k6) :: (la, W.listOf #[.int (posOf rs 0 : Nat) ti] nl) :: nb)) rfl rfl rfl ?_ ?_ ?_⟩
  · k_steps
    exact ⟨⟨_, _, _, _, _, _, _, _, _, rfl, rfl, by assumption, small_one (by decide) (by decide) (by omega) (by omega), (rangeSize_nat _ _).trans (by omega), by k_asm, by k_asm, ⟨_, [], [_], _, _, _, .nil, .cons _ _ .nil, hZ0, rfl, rfl, ov1s _ _ rfl⟩⟩⟩
  · intro i t m₁ nx h tk I o hin hJ0_9 off kF2 kN2
    refine foldG9 ?_
    intro GG
    obtain ⟨m9, rits, q, nr, nq1, Z1, hri, hq, hZ1, eZ1, rfl, rfl⟩ := hJ0_9
    dsimp only [GG]
    clear GG
    have hIR := neN (off _ (.head _))
    have hIC := neN (off _ (.tail _ (.head _)))
    have hIp := neN (off _ (.tail _ (.tail _ (.head _))))
    have hIZ : ∀ z ∈ Z1, z.1 ≠ I := fun z hz => off z (.tail _ (.tail _ (.tail _ hz)))
    dsimp only at hIR hIC hIp
    have hX3 : ∀ o', XOff pb Z1 [(I, o), (RA, o'), (L1 + 1, oX)] := fun o' => .cons (Ne.symm hIp) hIZ (XOff.same eZ1 (hX2 o'))
    have hcl : ((1 : Int) :: mulT (rs.take i)).length = i + 1 := by rw [List.length_cons, mulT_len, List.length_take, Nat.min_eq_left (Nat.le_of_lt hin)]
    have hql : q.length = i + 1 := hq.length.trans ((List.length_map ..).trans hcl)
    have hbd := mul_ok hb hl (Nat.le_of_lt hin)
    have hZ1q := fun (X : List (Addr × Obj)) (hX : XOff pb Z1 X) => hZ1.qm hX
    have hZ1t := fun (X : List (Addr × Obj)) (hX : XOff pb Z1 X) => ztok hZ1 hX
    obtain ⟨d1, la1, st1, a1, a2, a3, a4, a5, a6, ti1, nl1, hM1, hZe⟩ := hZ1
    subst hZe
    k_steps
    refine ⟨LCg.CompSrc.range (n := i + 1) (by rfl) (by k_asm) (by k_asm) (by assumption) (small_one (by decide) (by decide) (by omega) (by omega)) ((rangeSize_nat _ _).trans (by omega)) (by rw [sizeLine_eq]; omega) ?_⟩
    intro g'
    refine restInv (J := fun j zs nx => ∃ nq2, IntsAre zs (((1 : Int) :: mulT (rs.take i)).take j) ∧ nx = (I, o) :: (RA, W.listOf rits.toArray nr) :: (L1 + 1, oX) :: (pb, W.listOf (q.drop j).toArray nq2) :: (x, instObj 86 d1) :: (d1, mDict w (1 + ((lnOf rs i : Nat) : Int)) st1 pb a1 a2 a3 a4 a5 a6) :: (la1, W.listOf #[.int (posOf rs i : Nat) ti1] nl1) :: nb) ⟨_, .nil, rfl⟩ ?_ ?_
    · intro j v2 zs news I' oI C oC D m₂ h' tk' E' hj hP hJ hC hx' F' N' off' ne'
      refine foldG9 ?_
      intro GG
      obtain ⟨tv, rfl⟩ := hP
      obtain ⟨nq2, hzs, rfl⟩ := hJ
      dsimp only [GG]
      clear GG
      have hoff := off'.mem
      obtain ⟨tq, hqj⟩ := strs_at hq (j := j) (by rw [hcl]; exact hj)
      have hdq := drop_at_eq hqj
      rw [hdq] at N'
      have hbj : (((1 : Int) :: mulT (rs.take i)).getD j 0).natAbs < 16 ^ 6 := hbd _ (by rw [getD_lt (by rw [hcl]; exact hj)]; exact List.getElem_mem _)
      have hX6 : XOff pb ((x, instObj 86 d1) :: (d1, mDict w (1 + ((lnOf rs i : Nat) : Int)) st1 pb a1 a2 a3 a4 a5 a6) :: (la1, W.listOf #[.int (posOf rs i : Nat) ti1] nl1) :: nb) [(I', oI), (C, oC), (D, LCg.lst zs), (I, o), (RA, W.listOf rits.toArray nr), (L1 + 1, oX)] :=
        .cons (Ne.symm (hoff _ (.tail _ (.tail _ (.tail _ (.head _))))).1) (fun z hz => (hoff z (.tail _ (.tail _ (.tail _ (.tail _ hz))))).1) (.cons (Ne.symm (hoff _ (.tail _ (.tail _ (.tail _ (.head _))))).2.1) (fun z hz => (hoff z (.tail _ (.tail _ (.tail _ (.tail _ hz))))).2.1) (.cons (Ne.symm (hoff _ (.tail _ (.tail _ (.tail _ (.head _))))).2.2) (fun z hz => (hoff z (.tail _ (.tail _ (.tail _ (.tail _ hz))))).2.2) (hX3 _)))
      k_steps
      (with_reducible rename News g1 _ _ ((I', oI) :: _) => kN4)
      refine ⟨?_⟩
      k_dflt (refine' wpAny_call (qpop (hZ1q _ hX6) (q.drop (j + 1)) nq2 _ (by rw [List.length_drop]; omega) _ _ _ _ _ _ _ _ _ _ _ _ _ _ _ _ _ (by k_asm) (by k_asm) (by k_asm) (news_up [_, _, _, _, _, _] kN4) (by k_asm) (by first | exact rfl | assumption) (by ktr_room) (by ktr_units) (by assumption) ?_))
      intro h9 tk9 F9 N9
      have kN5 := news_dn [_, _, _, _, _, _] N9
      clear N9
      (try simp only [List.cons_append, List.nil_append] at kN5)
      (try dsimp only)
      (try k_sweep)
      (try k_fold)
      k_steps
      (with_reducible rename News g1 _ _ ((I', oI) :: _) => kN7)
      exact LCg.CompEnd.intro (by assumption) kN7 _ (fun p hp => hp) off' trivial ⟨⟨_, ints_take hzs (by rw [hcl]; exact hj), rfl⟩⟩
    · intro zs news hJ
      refine foldG9 ?_
      intro GG
      obtain ⟨nq2, hzs, rfl⟩ := hJ
      dsimp only [GG]
      clear GG
      intro D h3 tk3 F3 N3 off3
      have hoff3 := off1_all4 off3
      have hDI := hoff3 _ (.head _)
      have hDR := hoff3 _ (.tail _ (.head _))
      have hDC := hoff3 _ (.tail _ (.tail _ (.head _)))
      have hDp := hoff3 _ (.tail _ (.tail _ (.tail _ (.head _))))
      have hDZ : ∀ z ∈ (x, instObj 86 d1) :: (d1, mDict w (1 + ((lnOf rs i : Nat) : Int)) st1 pb a1 a2 a3 a4 a5 a6) :: (la1, W.listOf #[.int (posOf rs i : Nat) ti1] nl1) :: nb, z.1 ≠ D := fun z hz => hoff3 z (.tail _ (.tail _ (.tail _ (.tail _ hz))))
      dsimp only at hDI hDR hDC hDp
      rw [List.drop_eq_nil_of_le (Nat.le_of_eq hql)] at N3
      rw [List.take_of_length_le (Nat.le_of_eq hcl)] at hzs
      have hzl : zs.length = i + 1 := hzs.length.trans hcl
      have hbr : (rs.getD i 0).natAbs ≤ 7 := hb _ (by rw [getD_lt hin]; exact List.getElem_mem hin)
      have hbr6 : (rs.getD i 0).natAbs < 16 ^ 6 := Nat.lt_of_le_of_lt hbr (by decide)
      (try dsimp only)
      (try k_sweep)
      (try k_fold)
      k_steps
      (with_reducible rename News g1 _ _ ((D, LCg.lst zs) :: _) => kN4)
      refine ⟨?_⟩
      k_dflt (refine' wpAny_call (hZ1t _ (.cons (Ne.symm hDp) hDZ (hX3 (W.listOf rits.toArray nr))) nq2 hin hx _ _ _ _ _ _ _ _ _ _ _ _ _ _ _ _ _ (by k_asm) (by k_asm) (by k_asm) (news_up [(D, LCg.lst zs), _, _, _] kN4) (by k_asm) (by first | exact rfl | assumption) (by ktr_room) (by ktr_units) (by assumption) ?_))
      intro Z2 t2 h9 tk9 hZ2 eZ2 F9 N9
      have kN5 := news_dn [(D, LCg.lst zs), _, _, _] N9
      clear N9
      have eZ3 := eZ2.trans eZ1
      have hIZ2 := off_same eZ2 hIZ
      have hDZ2 := off_same eZ2 hDZ
      have hX4 : ∀ o' z', XOff pb Z2 [(D, z'), (I, o), (RA, o'), (L1 + 1, oX)] := fun o' z' => .cons (Ne.symm hDp) hDZ2 (XOff.same eZ2 (hX3 o'))
      have hZ2q := fun (X : List (Addr × Obj)) (hX : XOff pb Z2 X) => hZ2.qm hX
      have hZ2k := hZ2
      obtain ⟨d2, la2, st2, b1, b2, b3, b4, b5, b6, ti2, nl2, hM2, hZe2⟩ := hZ2
      subst hZe2
      (try simp only [List.cons_append, List.nil_append] at kN5)
      (try dsimp only)
      (try k_sweep)
      (try k_fold)
      k_steps
      have hRZ2 := off_same eZ3 hRZ
      (with_reducible rename News g1 _ _ ((D, LCg.lst zs) :: _) => kN6)
      refine ⟨?_⟩
      k_dflt (refine' wpAny_call (insort_right_spec w loose mean mg mb ((D, LCg.lst zs) :: (I, o) :: (L1 + 1, oX) :: (pb, W.listOf #[] nq2) :: (x, instObj 86 d2) :: (d2, mDict w (1 + ((lnOf rs (i + 1) : Nat) : Int)) st2 pb b1 b2 b3 b4 b5 b6) :: (la2, W.listOf #[.int (posOf rs (i + 1) : Nat) ti2] nl2) :: nb) RA (rowR rs i) rits nr _ _ hri (by rw [rowR_len]; omega) (rowR_sorted rs i) (fun p hp => by
        rcases List.mem_cons.mp hp with rfl | hp
        · exact Ne.symm hDR
        rcases List.mem_cons.mp hp with rfl | hp
        · exact Ne.symm hIR
        rcases List.mem_cons.mp hp with rfl | hp
        · exact Ne.symm hRC
        rcases List.mem_cons.mp hp with rfl | hp
        · exact Ne.symm hRp
        · exact hRZ2 p hp) _ _ _ _ _ _ _ _ _ _ _ _ _ _ _ _ _ (by k_asm) (by k_asm) (by k_asm) (news_up [(D, LCg.lst zs), (I, o)] kN6) (by k_asm) (by first | exact rfl | assumption) (by ktr_room) (by ktr_units) (by assumption) ?_))
      intro h9 tk9 rits2 hri2 F9 N9
      have kN8 := news_dn [(D, LCg.lst zs), (I, o)] N9
      clear N9
      (try simp only [List.cons_append, List.nil_append] at kN8)
      (try dsimp only)
      (try k_sweep)
      (try k_fold)
      k_steps
      refine ⟨?_⟩
      refine For_turns (by k_asm) ?_
      k_steps
      rename_i lA hA9 hlA A1 ws1 hB9 hI1 hl1 lB hC9 hlB A2 ws2 h5 F5 N5 hI2 hl2
      have N6 : News g1 L1 h5 ((A2, W.listOf ws2.toArray 0) :: (A1, W.listOf ws1.toArray 0) :: (I, o) :: (RA, W.listOf rits2.toArray (nr + 1)) :: (L1 + 1, oX) :: (pb, W.listOf #[] nq2) :: (x, instObj 86 d2) :: (d2, mDict w (1 + ((lnOf rs (i + 1) : Nat) : Int)) st2 pb b1 b2 b3 b4 b5 b6) :: (la2, W.listOf #[.int (posOf rs (i + 1) : Nat) ti2] nl2) :: nb) := fun p hp => N5 p (by
        rcases List.mem_cons.mp hp with rfl | hp
        · exact .head _
        rcases List.mem_cons.mp hp with rfl | hp
        · exact .tail _ (.tail _ (.head _))
        · exact .tail _ (.tail _ (.tail _ (.tail _ (.tail _ hp)))))
      have hA2 : AllLt A2 ((A1, W.listOf ws1.toArray 0) :: (I, o) :: (RA, W.listOf rits2.toArray (nr + 1)) :: (L1 + 1, oX) :: (pb, W.listOf #[] nq2) :: (x, instObj 86 d2) :: (d2, mDict w (1 + ((lnOf rs (i + 1) : Nat) : Int)) st2 pb b1 b2 b3 b4 b5 b6) :: (la2, W.listOf #[.int (posOf rs (i + 1) : Nat) ti2] nl2) :: nb) := ⟨hl2.2.1, hl2.2.2.2.2⟩
      have hA1 : AllLt A1 ((I, o) :: (RA, W.listOf rits2.toArray (nr + 1)) :: (L1 + 1, oX) :: (pb, W.listOf #[] nq2) :: (x, instObj 86 d2) :: (d2, mDict w (1 + ((lnOf rs (i + 1) : Nat) : Int)) st2 pb b1 b2 b3 b4 b5 b6) :: (la2, W.listOf #[.int (posOf rs (i + 1) : Nat) ti2] nl2) :: nb) := hl1.2.2
      have hX6 : ∀ o', XOff pb ((x, instObj 86 d2) :: (d2, mDict w (1 + ((lnOf rs (i + 1) : Nat) : Int)) st2 pb b1 b2 b3 b4 b5 b6) :: (la2, W.listOf #[.int (posOf rs (i + 1) : Nat) ti2] nl2) :: nb) [(A2, W.listOf ws2.toArray 0), (A1, W.listOf ws1.toArray 0), (I, o), (RA, o'), (L1 + 1, oX)] := fun o' =>
        .cons (Nat.ne_of_gt hA2.2.2.2.2.1) (allLt_ne hA2.2.2.2.2.2 (Nat.le_refl _)) (.cons (Nat.ne_of_gt hA1.2.2.2.1) (allLt_ne hA1.2.2.2.2 (Nat.le_refl _)) (XOff.same eZ2 (hX3 o')))
      clear N5 hlA hlB
      refine ⟨?_⟩
      refine ktu_zip (xs := ws1) (ys := ws2) rfl F5 N6 (.tail _ (.head _)) rfl rfl (.head _) rfl rfl ?_
      intro I9 hI9
      (with_reducible rename Fr g1 L1 _ _ => kF9)
      have hlt9 : ∀ (qq : List Value) (nn : Nat), ∀ p ∈ (A2, W.listOf ws2.toArray 0) :: (A1, W.listOf ws1.toArray 0) :: (I, o) :: (RA, W.listOf rits2.toArray (nr + 1)) :: (L1 + 1, oX) :: (pb, W.listOf qq.toArray nn) :: (x, instObj 86 d2) :: (d2, mDict w (1 + ((lnOf rs (i + 1) : Nat) : Int)) st2 pb b1 b2 b3 b4 b5 b6) :: (la2, W.listOf #[.int (posOf rs (i + 1) : Nat) ti2] nl2) :: nb, p.1 < I9 := fun qq nn p hp => by
        rcases List.mem_cons.mp hp with rfl | hp
        · exact hI9 _ (.head _)
        rcases List.mem_cons.mp hp with rfl | hp
        · exact hI9 _ (.tail _ (.head _))
        rcases List.mem_cons.mp hp with rfl | hp
        · exact hI9 _ (.tail _ (.tail _ (.head _)))
        rcases List.mem_cons.mp hp with rfl | hp
        · exact hI9 _ (.tail _ (.tail _ (.tail _ (.head _))))
        rcases List.mem_cons.mp hp with rfl | hp
        · exact hI9 _ (.tail _ (.tail _ (.tail _ (.tail _ (.head _)))))
        rcases List.mem_cons.mp hp with rfl | hp
        · exact hI9 (pb, W.listOf #[] nq2) (.tail _ (.tail _ (.tail _ (.tail _ (.tail _ (.head _))))))
        · exact hI9 _ (.tail _ (.tail _ (.tail _ (.tail _ (.tail _ (.tail _ hp))))))
      have hpb9 : pb < I9 := hI9 _ (.tail _ (.tail _ (.tail _ (.tail _ (.tail _ (.head _))))))
      have hn9 : ∀ c : Nat, I9 + c ≠ pb := fun c => Nat.ne_of_gt (Nat.lt_of_lt_of_le hpb9 (Nat.le_add_right _ _))
      have hz4 : ∀ c : Nat, ∀ z ∈ (x, instObj 86 d2) :: (d2, mDict w (1 + ((lnOf rs (i + 1) : Nat) : Int)) st2 pb b1 b2 b3 b4 b5 b6) :: (la2, W.listOf #[.int (posOf rs (i + 1) : Nat) ti2] nl2) :: nb, z.1 ≠ I9 + c := fun c z hz => Nat.ne_of_lt (Nat.lt_of_lt_of_le (hI9 z (.tail _ (.tail _ (.tail _ (.tail _ (.tail _ (.tail _ hz))))))) (Nat.le_add_right _ _))
      have hz9 : (zipItems ws1 ws2).length = i + 2 := by
        rw [zipItems_length, hI1.length, hI2.length, List.length_append, List.length_append, hcl, List.length_singleton]; omega
      (k_with "UnrPostW" => (refine Halt.h ?_))
      (k_with "binaryOp Mult int int" => (with_reducible refine mul_int ?_ (mulOk hbr _)))
      refine itemsInv (MuK (rs.getD i 0) ((1 : Int) :: mulT (rs.take i)) RA ((A2, W.listOf ws2.toArray 0) :: (A1, W.listOf ws1.toArray 0) :: (I, o) :: (RA, W.listOf rits2.toArray (nr + 1)) :: [(L1 + 1, oX)]) pb ((x, instObj 86 d2) :: (d2, mDict w (1 + ((lnOf rs (i + 1) : Nat) : Int)) st2 pb b1 b2 b3 b4 b5 b6) :: (la2, W.listOf #[.int (posOf rs (i + 1) : Nat) ti2] nl2) :: nb)) (zipItems ws1 ws2) ?_ ?_ _ 0 rfl (Nat.zero_le _) _ _ ⟨_, [], _, _, .nil, rfl, ov2s _ _ _ rfl rfl⟩
      · intro k a m₂ news ha hJ v h2 tk2 hv kF3
        obtain ⟨m8, q8, nq8, tr, hq8, rfl, rfl⟩ := hJ
        have hk9 : k < i + 2 := by
          rw [← hz9]
          rcases Nat.lt_or_ge k (zipItems ws1 ws2).length with h9 | h9
          · exact h9
          · rw [List.getElem?_eq_none h9] at ha; cases ha
        obtain ⟨u1, hu1⟩ := ints_get hI1 (k := k) (by rw [List.length_append, hcl]; exact hk9)
        obtain ⟨u2, hu2⟩ := ints_get hI2 (k := k) (by rw [List.length_append, hcl, List.length_singleton]; omega)
        rw [zipItems_get _ _ _ hu1 hu2] at ha
        obtain rfl := (Option.some.inj ha).symm
        obtain ⟨T9, tt, rfl, hT9⟩ := hv
        dsimp only at hT9
        have hg9 := M_get (rs.getD i 0) ((1 : Int) :: mulT (rs.take i)) 0 k (by rw [hcl]; omega)
        have hv6 : ((((1 : Int) :: mulT (rs.take i)) ++ [0]).getD k 0 - rs.getD i 0 * ([0] ++ ((1 : Int) :: mulT (rs.take i))).getD k 0).natAbs < 16 ^ 6 :=
          mul_ok hb hl hin _ (by rw [← mul_whole hin]; exact List.mem_of_getElem? hg9)
        ktu_objs
        k_steps
        (with_reducible rename News g1 L1 _ (_ :: _) => kN9)
        refine ⟨?_⟩
        k_dflt (refine' wpAny_call (qpush (hZ2q _ (.cons (hn9 4) (hz4 4) (.cons (hn9 2) (hz4 2) (.cons (hn9 3) (hz4 3) (.cons (hn9 0) (hz4 0) (.cons (hn9 1) (hz4 1) (hX6 _))))))) q8 nq8 _ _ (by rw [hq8.length]; simp only [List.length_map, List.length_take]; omega) _ _ _ _ _ _ _ _ _ _ _ _ _ _ _ _ _ (by k_asm) (by k_asm) (by k_asm) (news_up [_, _, _, _, _, _, _, _, _, _] kN9) (by k_asm) (by first | exact rfl | assumption) (by ktr_room) (by ktr_units) (by assumption) ?_))
        intro h9 tk9' F9 N9
        have kN10 := news_dn [_, _, _, _, _, _, _, _, _, _] N9
        clear N9
        (try simp only [List.cons_append, List.nil_append] at kN10)
        (try dsimp only)
        (try k_sweep)
        (try k_fold)
        k_steps
        refine ⟨?_⟩
        (with_reducible rename Fr g1 L1 _ _ => kF12)
        refine ⟨_, _, _, (A2, W.listOf ws2.toArray 0) :: (A1, W.listOf ws1.toArray 0) :: (I, o) :: (RA, W.listOf rits2.toArray (nr + 1)) :: (L1 + 1, oX) :: (pb, W.listOf (q8 ++ [Value.str (wS _) _]).toArray (nq8 + 1)) :: (x, instObj 86 d2) :: (d2, mDict w (1 + ((lnOf rs (i + 1) : Nat) : Int)) st2 pb b1 b2 b3 b4 b5 b6) :: (la2, W.listOf #[.int (posOf rs (i + 1) : Nat) ti2] nl2) :: nb, rfl, kF12, kN10, fun p hp q hq => Nat.ne_of_lt (Nat.lt_of_lt_of_le (hlt9 _ _ p hp) ?_), ⟨.tail _ (.head _), .head _, trivial⟩, ⟨_, _, _, _, strs_snoc hq8 hg9, rfl, ov2s _ _ _ rfl rfl⟩⟩
        simp only [List.mem_cons, List.not_mem_nil, or_false] at hq
        rcases hq with rfl | rfl | rfl | rfl | rfl
        · exact Nat.le_add_right _ _
        · exact Nat.le_add_right _ _
        · exact Nat.le_add_right _ _
        · exact Nat.le_refl _
        · exact Nat.le_add_right _ _
      · intro m₂ news hJ h2 tk2 kF3 kN3
        obtain ⟨m8, q8, nq8, tr, hq8, rfl, rfl⟩ := hJ
        rw [hz9, List.take_of_length_le (by rw [M_len, hcl]; exact Nat.le_refl _), mul_whole hin] at hq8
        k_steps
        exact ⟨⟨_, _, _, (RA, W.listOf rits2.toArray (nr + 1)) :: (L1 + 1, oX) :: (pb, W.listOf q8.toArray nq8) :: (x, instObj 86 d2) :: (d2, mDict w (1 + ((lnOf rs (i + 1) : Nat) : Int)) st2 pb b1 b2 b3 b4 b5 b6) :: (la2, W.listOf #[.int (posOf rs (i + 1) : Nat) ti2] nl2) :: nb, rfl, by k_asm, fun p hp => kN3 p (.tail _ (.tail _ hp)), (fun p hp => by
          rcases List.mem_cons.mp hp with rfl | hp
          · exact hIR
          rcases List.mem_cons.mp hp with rfl | hp
          · exact hIC
          rcases List.mem_cons.mp hp with rfl | hp
          · exact hIp
          · exact hIZ2 p hp), ⟨_, rits2, q8, _, _, _, hri2, hq8, hZ2k, eZ3, rfl, ov1s _ _ rfl⟩⟩⟩
  · intro m₁ nx h tk hJ1_4 kF2 kN2
    refine foldG9 ?_
    intro GG
    obtain ⟨m9, rits, q, nr, nq1, Z1, hri, hq, hZ1, eZ1, rfl, rfl⟩ := hJ1_4
    dsimp only [GG]
    clear GG
    k_steps
    rw [List.take_of_length_le (Nat.le_refl _)] at hq
    (with_reducible rename News h₀ L _ (_ :: _) => kM)
    exact hret RA rits q nr nq1 Z1 _ _ hri hq hZ1 eZ1 hRp hRZ (by k_asm) (fun p hp => kM p (by
      rcases List.mem_cons.mp hp with rfl | hp
      · exact .head _
      · exact .tail _ (.tail _ hp)))

theorem law_multiplied_spec (w : World) (loose : List Str) (mean : ExcName → Option Value) (mg mb : Str → Option Value) (x pb : Addr) (rs : List Int) (nb : List (Addr × Obj)) (d la st : Addr) (k1 k2 k3 k4 k5 k6 ti : Tok) (nl nq : Nat) (tc : Tok) (hl : rs.length ≤ 5) (hb : ∀ r ∈ rs, r.natAbs ≤ 7) (hx : (⟨(pageL rs rs.length).toArray⟩ : Str).length < 1000) (hM : Mach w loose mean mg mb x d pb la st ⟨(pageL rs rs.length).toArray⟩ nb) :
    Asks 24 w loose mean mg mb 135 ((pb, W.listOf #[] nq) :: ((x, instObj 86 d) :: (d, mDict w (1 + ((lnOf rs 0 : Nat) : Int)) st pb k1 k2 k3 k4 k5 k6) :: (la, W.listOf #[.int (posOf rs 0 : Nat) ti] nl) :: nb)) [.ref x, .int (rs.length : Nat) tc] (fun h₀ L m s Q => ∀ (D : Addr) (rits q : List Value) (nr nq' : Nat) (Z' : List (Addr × Obj)) (h' : Heap) (tk' : Nat), IntsAre rits (rowR rs rs.length) → StrsAre q (((1 : Int) :: mulT rs).map wS) → ZAt w loose mean mg mb x pb rs rs.length nb rs.length Z' → Z'.map (·.1) = ((x, instObj 86 d) :: (d, mDict w (1 + ((lnOf rs 0 : Nat) : Int)) st pb k1 k2 k3 k4 k5 k6) :: (la, W.listOf #[.int (posOf rs 0 : Nat) ti] nl) :: nb).map (·.1) → D ≠ pb → (∀ z ∈ ((x, instObj 86 d) :: (d, mDict w (1 + ((lnOf rs 0 : Nat) : Int)) st pb k1 k2 k3 k4 k5 k6) :: (la, W.listOf #[.int (posOf rs 0 : Nat) ti] nl) :: nb), z.1 ≠ D) →
      Fr h₀ L h' m → News h₀ L h' ((D, W.listOf rits.toArray nr) :: (pb, W.listOf q.toArray nq') :: Z') → Q (.ref D) { s with heap := h', toks := tk' }) :=
  fun dp un gd cn cs a ccd cl outer A₀ base h₀ L m s Q E => Classical.choose_spec law_multiplied_spec_K.ex9 law_multiplied_spec_at ((w, loose, mean, mg, mb, dp, un, gd, cn, cs, a, ccd, cl, outer, A₀, base, h₀, L, m, s, Q, E), x, pb, rs, nb, d, la, st, k1, k2, k3, k4, k5, k6, ti, nl, nq, tc) hl hb hx hM
end

section
theorem carried_strs : ∀ {vs : List Value} {ss : List Str}, StrsAre vs ss → CarriedAll vs (ss.map PyData.str)
  | _, _, .nil => .nil
  | _, _, .cons _ t r => .cons (.str _ t) (carried_strs r)
theorem lay_strs : ∀ {ss : List Str}, (∀ x ∈ ss, PyData.strOk x = true) → PyData.canLayAll0 (ss.map PyData.str) = true
  | [], _ => rfl
  | x :: r, h => by
    rw [List.map_cons, PyData.canLayAll0, PyData.canLay0, h x (.head _), lay_strs fun y hy => h y (.tail _ hy)]
    rfl
theorem depth_strs : ∀ ss : List Str, PyData.depthAll (ss.map PyData.str) = 0
  | [] => rfl
  | _ :: r => by simp [PyData.depthAll, PyData.depth, depth_strs r]
theorem shaped_strs {ss : List Str} (h : ∀ x ∈ ss, PyData.strOk x = true) : SeqAt.shaped (.list (ss.map PyData.str)) = true := by
  simp [SeqAt.shaped, PyData.canLay0, PyData.depth, lay_strs h, depth_strs]
theorem same_strs (ss : List Str) : PySem.Spec.same (.list (ss.map PyData.str)) (.list (ss.map PyData.str)) = true := by
  simp only [PySem.Spec.same]
  induction ss with
  | nil => rfl
  | cons x r ih => simp [PySem.Spec.sameAll, PySem.Spec.same, ih]
theorem words_ok (l : List Int) : ∀ x ∈ l.map wS, PyData.strOk x = true := by
  intro x hx9
  obtain ⟨v, -, rfl⟩ := List.mem_map.mp hx9
  unfold PyData.strOk
  rw [Array.all_eq_true]
  intro i hi
  have := wl_81 v _ (List.getElem_mem (l := wl v) (n := i) (by simpa [wS] using hi))
  exact decide_eq_true (Nat.lt_of_le_of_lt this.2 (by decide))
theorem sorted_same {a b : List Int} (h : a.Perm b) (ha : a.Pairwise (· ≤ ·)) (hb : b.Pairwise (· ≤ ·)) : a = b :=
  h.eq_of_pairwise (fun _ _ _ _ => Int.le_antisymm) ha hb
section
variable {prog : Program} {w : World} {A : Around} {E : Value → Shared → Prop} {s : Shared} {a b : Addr} {xs ys : List Value} {ss : List Str} {ns ms : List Int} {Q : Value → Shared → Prop}
theorem ne_strs_same (ha : s.heap.IsList a xs.toArray) (hb : s.heap.IsList b ys.toArray) (hi : StrsAre xs ss) (hj : StrsAre ys ss) (ok : ∀ x ∈ ss, PyData.strOk x = true) (hu : A.units + 64 < cLine) (h : Q (.bool false) s) :
    wpAny (model prog w) A (compareOp .NotEq (.ref a) (.ref b)) Q E s :=
  ne_dataH_same (reads_newData ha (carried_strs hi)) (reads_newData hb (carried_strs hj)) (shaped_strs ok) (shaped_strs ok) hu (SeqAt.noMix_of_shape (.list .str) rfl _ _ (list_map_has fun _ => rfl) (list_map_has fun _ => rfl)) (by rw [same_strs]; exact h)
theorem ne_ints_same (ha : s.heap.IsList a xs.toArray) (hb : s.heap.IsList b ys.toArray) (hi : IntsAre xs ns) (hj : IntsAre ys ms) (e : ns = ms) (hu : A.units + 64 < cLine) (h : Q (.bool false) s) :
    wpAny (model prog w) A (compareOp .NotEq (.ref a) (.ref b)) Q E s :=
  ke_ne_ints ha hb hi hj hu (by rw [decide_eq_true e]; exact h)
end
end

section
theorem genQ {α : Type} {M : Model} {A : Around} {t : Sem α} {Q : α → Shared → Prop} {E : Value → Shared → Prop} {s : Shared} (P : (α → Shared → Prop) → Prop) (h2 : P Q) (h1 : ∀ Q' E', P Q' → wpAny M A t Q' E' s) : wpAny M A t Q E s := h1 Q E h2
noncomputable abbrev gOf {g h : Heap} {L : Addr} {m : Str → Option Value} (_ : Fr g L h m) : Heap := g
theorem grown2 {g h : Heap} {L : Addr} {l : List (Addr × Obj)} {ps ps2 : Array Value} (N : News g L h l) (hm : (92, tabObj ps) ∈ l) (hm2 : (154, tabObj ps2) ∈ l) : GrownAll [(156, 154), (96, 92)] h := ⟨⟨ps2, (N _ hm2).1⟩, ⟨ps, (N _ hm).1⟩, trivial⟩
theorem xoff_of {x d pb la : Addr} {o1 o2 o3 : Obj} {nb R : List (Addr × Obj)} (npb : ∀ q ∈ R, q.1 ≠ pb) (nx : ∀ q ∈ R, q.1 ≠ x) (nd : ∀ q ∈ R, q.1 ≠ d) (nla : ∀ q ∈ R, q.1 ≠ la) (nnb : ∀ p ∈ nb, ∀ q ∈ R, q.1 ≠ p.1) : XOff pb ((x, o1) :: (d, o2) :: (la, o3) :: nb) R := fun p hp => ⟨npb p hp, fun z hz => by
  rcases List.mem_cons.mp hz with rfl | hz
  · exact Ne.symm (nx p hp)
  rcases List.mem_cons.mp hz with rfl | hz
  · exact Ne.symm (nd p hp)
  rcases List.mem_cons.mp hz with rfl | hz
  · exact Ne.symm (nla p hp)
  · exact Ne.symm (nnb z hz p hp)⟩
theorem XOff.maps {pb : Addr} {Z X X' : List (Addr × Obj)} (e : X'.map (·.1) = X.map (·.1)) (h : XOff pb Z X) : XOff pb Z X' := fun p hp => by
  have h1 : p.1 ∈ X.map (·.1) := e ▸ List.mem_map.mpr ⟨p, hp, rfl⟩
  obtain ⟨y, hy, hye⟩ := List.mem_map.mp h1
  exact hye ▸ h y hy
theorem strs_take {ys q : List Value} {wl : List Str} {j : Nat} {v : Value} (h : StrsAre q wl) (hj : q[j]? = some v) (hy : StrsAre ys (wl.take j)) : StrsAre (ys ++ [v]) (wl.take (j + 1)) := by
  obtain ⟨y, t, rfl, hw⟩ := h.item j v hj
  rw [List.take_add_one, hw]
  exact hy.append' (.cons _ _ .nil)
theorem off1_all5 {D : Addr} : ∀ {l : List (Addr × Obj)}, LCg.Off1 D l → ∀ p ∈ l, p.1 ≠ D
  | [], _, _, h => nomatch h
  | q :: l, x, p, h => by
    rcases List.mem_cons.mp h with rfl | h
    · exact x.1
    · exact off1_all5 x.2 p h
theorem news_w2 {h₀ h : Heap} {L : Addr} {a b c d e f : Addr × Obj} {r : List (Addr × Obj)} (N : News h₀ L h (a :: b :: c :: d :: e :: f :: r)) : News h₀ L h (c :: d :: e :: f :: a :: b :: r) := fun p hp => N p (by
  simp only [List.mem_cons] at hp ⊢
  rcases hp with h | h | h | h | h | h | h <;> simp [h])
theorem news_w3 {h₀ h : Heap} {L : Addr} {a1 a2 a3 a4 b1 b2 c1 c2 c3 e : Addr × Obj} {nb : List (Addr × Obj)} (N : News h₀ L h (a1 :: a2 :: a3 :: a4 :: b1 :: b2 :: c1 :: c2 :: c3 :: nb)) (he : e ∈ nb) : News h₀ L h [c3, c1, b1, b2, e] := fun p hp => N p (by
  simp only [List.mem_cons, List.not_mem_nil, or_false] at hp ⊢
  rcases hp with h | h | h | h | h
  · simp [h]
  · simp [h]
  · simp [h]
  · simp [h]
  · subst h; simp [he])
theorem news_w4 {h₀ h : Heap} {L : Addr} {a b c d e f g : Addr × Obj} (N : News h₀ L h [a, b, c, d, e, f, g]) : News h₀ L h [c, d, e, f, g] := fun p hp => N p (.tail _ (.tail _ hp))
theorem strs_item {q : List Value} {cs : List Int} {j : Nat} {v : Value} (h : StrsAre q (cs.map wS)) (hv : q[j]? = some v) : ∃ c t, v = .str (wS c) t ∧ cs[j]? = some c := by
  obtain ⟨y, t, e, hw⟩ := h.item j v hv
  rw [List.getElem?_map] at hw
  cases hc : cs[j]? with
  | none => rw [hc] at hw; cases hw
  | some c =>
    rw [hc] at hw
    exact ⟨c, t, by rw [e, ← Option.some.inj hw], rfl⟩
theorem ints_snoc {zs : List Value} {cs : List Int} {j : Nat} {t : Tok} {c : Int} (h : IntsAre zs (cs.take j)) (hj : cs[j]? = some c) : IntsAre (zs ++ [.int c t]) (cs.take (j + 1)) := by
  rw [List.take_add_one, hj]
  exact h.append (.cons _ _ .nil)
theorem getD0_ok {rs : List Int} (hb : ∀ r ∈ rs, r.natAbs ≤ 7) (h : rs.length = 4 ∨ rs.length = 5) : (rs.getD 0 0).natAbs ≤ 7 := by
  have h0 : 0 < rs.length := by omega
  rw [getD_lt h0]; exact hb _ (List.getElem_mem h0)
theorem bool_to {P : Bool → Prop} {b : Bool} (h : b = true) (p : P true) : P b := h ▸ p
theorem last_eq {rs row : List Int} (h : row.Perm rs) (x : Int) : (((((mulT (rs.map fun r => r - x)).length : Nat) : Int) - ((dz (mulT (rs.map fun r => r - x)) : Nat) : Int)) == (((cntLe x row : Nat) : Int) - ((cntLt x row : Nat) : Int))) = true := by
  rw [beq_iff_eq, mulT_len, List.length_map, noughts_eq]
  unfold cntLe cntLt
  rw [h.countP_eq, h.countP_eq]
theorem news_nb {h₀ h : Heap} {L : Addr} {a b c d : Addr × Obj} {nb r : List (Addr × Obj)} (N : News h₀ L h (a :: b :: c :: d :: (nb ++ r))) : News h₀ L h (a :: b :: c :: d :: (r ++ nb)) := fun p hp => N p (by
  simp only [List.mem_cons, List.mem_append] at hp ⊢
  rcases hp with h | h | h | h | h | h <;> simp [h])
noncomputable abbrev lOf {g h : Heap} {L : Addr} {m : Str → Option Value} (_ : Fr g L h m) : Addr := L
set_option maxHeartbeats 40000000 in
set_option maxRecDepth 100000 in
theorem dev : Challenge.rw_sr0027_02.Holds := hd (by
  k_with_none
  w_top off
  k_go0
  (all_goals try k_fold)
  (rename @LT.lt Nat _ 154 _ ∧ @LT.lt Nat _ 92 _ => l0)
  (with_reducible rename Fr _ _ _ _ => kF00)
  (rename Shared => sX)
  refine genQ (fun Q' => ∀ (h' : Heap) (tk' : Nat) (m : Str → Option Value) (ps ps2 : Array Value) (nx : List (Addr × Obj)), Fr (gOf kF00) (lOf kF00) h' m → News (gOf kF00) (lOf kF00) h' nx → (92, tabObj ps) ∈ nx → (154, tabObj ps2) ∈ nx → Q' (.ret (.bool true)) { sX with heap := h', toks := tk' }) ?_ ?_
  · intro h' tk' m ps ps2 nx F N hm hm2
    dsimp only [gOf, lOf] at F N
    refine ⟨goodW_bool (by with_reducible assumption) (by with_reducible assumption) (raisesW_false ?_) ?_, grown2 N hm hm2⟩
    · wrow_none_raised
    · kc_post
  intro QQ EE hPQ
  dsimp only [gOf, lOf] at hPQ
  (k_with "call ref" => ((with_reducible show wpAny _ _ (call (Value.ref 102) _) _ _ _); refine Halt.h ?_))
  (k_with "call ref" => ((with_reducible show wpAny _ _ (call (Value.ref 130) _) _ _ _); refine Halt.h ?_))
  (k_with "call ref" => ((with_reducible show wpAny _ _ (call (Value.ref 97) _) _ _ _); refine Halt.h ?_))
  (k_with "call ref" => ((with_reducible show wpAny _ _ (call (Value.ref 76) _) _ _ _); refine Halt.h ?_))
  (k_with "call ref" => ((with_reducible show wpAny _ _ (call (Value.ref 135) _) _ _ _); refine Halt.h ?_))
  (k_with "call ref" => ((with_reducible show wpAny _ _ (call (Value.ref 140) _) _ _ _); refine Halt.h ?_))
  (k_with "call ref" => ((with_reducible show wpAny _ _ (call (Value.ref 147) _) _ _ _); refine Halt.h ?_))
  (k_with "call ref" => ((with_reducible show wpAny _ _ (call (Value.ref 157) _) _ _ _); refine Halt.h ?_))
  (k_with "call ref" => ((with_reducible show wpAny _ _ (call (Value.ref 162) _) _ _ _); refine Halt.h ?_))
  (k_with "call ref" => ((with_reducible show wpAny _ _ (call (Value.ref 32) _) _ _ _); refine Halt.h ?_))
  (k_with "call ref" => ((with_reducible show wpAny _ _ (call (Value.ref 41) _) _ _ _); refine Halt.h ?_))
  (k_with "call ref" => ((with_reducible show wpAny _ _ (call (Value.ref 109) _) _ _ _); refine Halt.h ?_))
  (k_with "call ref" => ((with_reducible show wpAny _ _ (call (Value.ref 123) _) _ _ _); refine Halt.h ?_))
  (k_with "eval ListComp" => (k_dflt (refine LCg.ListComp_U (F₀ := by k_asm) (by with_unfolding_all rfl) (by decide) (by rfl) (by decide) (by rfl) ?_)))
  (k_with "exec Assign cons ListComp" => (k_dflt (refine LCg.Assign_ListComp_U (F₀ := by k_asm) (by rfl) (by with_unfolding_all rfl) (by with_unfolding_all rfl) (by decide) (by rfl) (by decide) (by rfl) (by rfl) (by rfl) ?_); k_dflt lcg_toSrc))
  (k_with "CompSrc" => (refine Halt.h ?_))
  (k_with "exec Return some" => (refine Halt.h ?_))
  k_steps
  refine ⟨?_⟩
  k_dflt (refine' wpAny_call (law_drawn_spec _ _ _ _ _ _ _ _ _ (by assumption) (by omega) _ _ _ _ _ _ _ _ _ _ _ _ _ _ _ _ _ (by k_asm) (by k_asm) (by k_asm) (by k_asm) (by k_asm) (by first | exact rfl | assumption) (by ktr_room) (by ktr_units) (by assumption) (by assumption) ?_))
  intro c rs xs D h1 tk1 hc hrl hrb hxs oD F9 N9
  (try dsimp only)
  (try k_sweep)
  (try k_fold)
  (rename CellsAre .. => hX0)
  clear hX0
  (rename Dflts .. => hX0)
  clear hX0
  (rename Obj.data _ = Data.cell _ => hX1)
  obtain ⟨vX1, hX1⟩ : ∃ v, Obj.data _ = Data.cell v := ⟨_, hX1⟩
  k_steps
  (with_reducible rename Fr _ _ _ _ => kF)
  (with_reducible rename News _ _ _ (_ :: _) => kN)
  obtain ⟨m0, kF0⟩ : ∃ m0, Fr _ _ _ (ov1 (Str.ofString "roots") m0 (some (.ref D))) := ⟨_, Fr.cast' kF (ov1s _ _ rfl)⟩
  clear kF
  (rename Obj => oM)
  have hl5 : rs.length ≤ 5 := by omega
  have hb7 : ∀ r ∈ rs, r.natAbs ≤ 7 := fun r hr => by have := hrb r hr; omega
  have hb6 : ∀ r ∈ rs, r.natAbs < 16 ^ 6 := fun r hr => Nat.lt_of_le_of_lt (hb7 r hr) (by decide)
  have htl : (⟨(pageL rs rs.length).toArray⟩ : Str).length < 1000 := page_lt1000 hb6 (by omega)
  refine ⟨?_⟩
  k_dflt (refine' wpAny_call (law_page_spec _ _ _ _ _ _ D rs xs xs.length hxs (by omega) hb6 _ _ _ _ _ _ _ _ _ _ _ _ _ _ _ _ _ (by k_asm) (by k_asm) (by k_asm) kN (by k_asm) (by first | exact rfl | assumption) (by ktr_room) (by ktr_units) (by assumption) ?_))
  intro h4 tk4 t4 F9 N9
  (try dsimp only)
  (try k_sweep)
  (try k_fold)
  k_steps
  (with_reducible rename News _ _ _ (_ :: _) => kN1)
  have oD1 := oD.1
  have oD2 := oD.2.1
  have oD3 := oD.2.2.1
  dsimp only at oD1 oD2 oD3
  have hC154 : sX.heap.objs.size + 1 ≠ 154 := Nat.ne_of_gt (Nat.lt_succ_of_lt l0.1)
  have hC92 : sX.heap.objs.size + 1 ≠ 92 := Nat.ne_of_gt (Nat.lt_succ_of_lt l0.2)
  refine ⟨?_⟩
  k_dflt (refine' wpAny_call (reader_new _ _ _ _ _ [(D, LCg.lst xs), (sX.heap.objs.size + 1, oM), (154, tabObj #[])] _ _ htl (fun p hp => by
    rcases List.mem_cons.mp hp with rfl | hp
    · exact Ne.symm oD3
    rcases List.mem_cons.mp hp with rfl | hp
    · exact hC92
    rcases List.mem_cons.mp hp with rfl | hp
    · decide
    · exact nomatch hp) _ _ _ _ _ _ _ _ _ _ _ _ _ _ _ _ _ (by k_asm) (by k_asm) (by k_asm) (news_up [_, _, _] kN1) (by k_asm) (by first | exact rfl | assumption) (by ktr_room) (by ktr_units) (by assumption) ?_))
  intro x d pb la st k1 k2 k3 k4 k5 k6 ti nb h5 tk5 F9 N9 npb nx nd nla nnb hps92 hM
  have hX0 := fun o1 o2 o3 => xoff_of (o1 := o1) (o2 := o2) (o3 := o3) npb nx nd nla nnb
  obtain ⟨ps92, hps92⟩ := hps92
  have kN2 := news_nb N9
  clear N9
  simp only [List.cons_append, List.nil_append] at kN2
  have c1 := npb _ (.tail _ (.head _))
  have c2 := nx _ (.tail _ (.head _))
  have c3 := nd _ (.tail _ (.head _))
  have c4 := nla _ (.tail _ (.head _))
  have c5 : ∀ p ∈ nb, p.1 ≠ sX.heap.objs.size + 1 := fun p hp => Ne.symm (nnb p hp _ (.tail _ (.head _)))
  dsimp only at c1 c2 c3 c4
  (try dsimp only)
  (try k_sweep)
  (try k_fold)
  k_steps
  (with_reducible rename Fr _ _ _ _ => kF)
  obtain ⟨m1, kF1⟩ : ∃ m1, Fr _ _ _ (ov1 (Str.ofString "page") (ov1 (Str.ofString "roots") m1 (some (.ref D))) (some (.str ⟨(pageL rs rs.length).toArray⟩ t4))) := ⟨_, Fr.cast' kF (ov2s _ _ _ rfl rfl)⟩
  clear kF
  (with_reducible rename News _ _ _ ((pb, _) :: _) => kN3)
  (rename Obj => oC)
  (with_reducible rename oC.data = _ => dC)
  have hX1' : ∀ o1 o2 o3 oC', XOff pb ((x, o1) :: (d, o2) :: (la, o3) :: nb) [(D, LCg.lst xs), (sX.heap.objs.size + 1, oC'), (154, tabObj #[])] := fun o1 o2 o3 oC' => XOff.maps (X := [(D, LCg.lst xs), (sX.heap.objs.size + 1, oM), (154, tabObj #[])]) rfl (hX0 o1 o2 o3)
  have hM9 := ZAt.mach hM (hX1' (instObj 86 d) (instObj 86 d) (instObj 86 d) oC)
  refine ⟨?_⟩
  k_dflt (refine' wpAny_call (law_multiplied_spec _ _ _ _ _ x pb rs ((D, LCg.lst xs) :: (sX.heap.objs.size + 1, oC) :: (154, tabObj #[]) :: nb) d la st k1 k2 k3 k4 k5 k6 ti 0 0 _ hl5 hb7 htl hM9 _ _ _ _ _ _ _ _ _ _ _ _ _ _ _ _ _ (by k_asm) (by k_asm) (by k_asm) kN3 (by k_asm) (by first | exact rfl | assumption) (by ktr_room) (by ktr_units) (by assumption) ?_))
  intro R rits q nr nq Z1 h6 tk6 hri hq hZ1 eZ1 hRp hRZ F9 N9
  have hRD := hRZ _ (.tail _ (.tail _ (.tail _ (.head _))))
  have hRC := hRZ _ (.tail _ (.tail _ (.tail _ (.tail _ (.head _)))))
  have hRT := hRZ _ (.tail _ (.tail _ (.tail _ (.tail _ (.tail _ (.head _))))))
  dsimp only at hRD hRC hRT
  have hRZ1 := off_same eZ1 hRZ
  clear hM9 kN3 hRZ npb nx nd nla nnb hX1' hX0 c1 c2 c3 c4 c5 eZ1
  have hZ1q := fun (X : List (Addr × Obj)) (hX : XOff pb Z1 X) => hZ1.qm hX
  obtain ⟨d1, la1, st1, a1, a2, a3, a4, a5, a6, ti1, nl1, hM1, hZe⟩ := hZ1
  subst hZe
  (try dsimp only)
  (try k_sweep)
  (try k_fold)
  k_steps
  have hcl : ((1 : Int) :: mulT rs).length = rs.length + 1 := by rw [List.length_cons, mulT_len]
  have hql : q.length = rs.length + 1 := hq.length.trans ((List.length_map ..).trans hcl)
  have hbd : ∀ c ∈ (1 : Int) :: mulT rs, c.natAbs < 16 ^ 6 := by
    have := mul_ok hb7 hl5 (Nat.le_refl rs.length)
    rw [List.take_of_length_le (Nat.le_refl _)] at this
    exact this
  refine ⟨LCg.CompSrc.range (n := rs.length + 1) (by rfl) (by k_asm) (by k_asm) (by assumption) (small_one (by decide) (by decide) (by omega) (by omega)) ((rangeSize_nat _ _).trans (by omega)) (by rw [sizeLine_eq]; omega) ?_⟩
  intro g'
  refine restInv (J := fun j zs nx => ∃ nq2, StrsAre zs ((((1 : Int) :: mulT rs).map wS).take j) ∧ nx = (R, W.listOf rits.toArray nr) :: (pb, W.listOf (q.drop j).toArray nq2) :: (x, instObj 86 d1) :: (d1, mDict _ (1 + ((lnOf rs rs.length : Nat) : Int)) st1 pb a1 a2 a3 a4 a5 a6) :: (la1, W.listOf #[.int (posOf rs rs.length : Nat) ti1] nl1) :: (D, LCg.lst xs) :: (sX.heap.objs.size + 1, oC) :: (154, tabObj #[]) :: nb) ⟨_, .nil, rfl⟩ ?_ ?_
  · intro j v2 zs news I' oI C oC2 D2 m₂ h' tk' E' hj hP hJ hC hx' F' N' off' ne'
    refine foldG9 ?_
    intro GG
    obtain ⟨tv, rfl⟩ := hP
    obtain ⟨nq2, hzs, rfl⟩ := hJ
    dsimp only [GG]
    clear GG
    have hoff := off'.mem
    have hj1 : j < q.length := hql ▸ hj
    have hqj : q[j]? = some q[j] := List.getElem?_eq_getElem hj1
    rw [List.drop_eq_getElem_cons hj1] at N'
    have hX6 : XOff pb ((x, instObj 86 d1) :: (d1, mDict _ (1 + ((lnOf rs rs.length : Nat) : Int)) st1 pb a1 a2 a3 a4 a5 a6) :: (la1, W.listOf #[.int (posOf rs rs.length : Nat) ti1] nl1) :: (D, LCg.lst xs) :: (sX.heap.objs.size + 1, oC) :: (154, tabObj #[]) :: nb) [(I', oI), (C, oC2), (D2, LCg.lst zs), (R, W.listOf rits.toArray nr)] :=
      .cons (Ne.symm (hoff _ (.tail _ (.head _))).1) (fun z hz => (hoff z (.tail _ (.tail _ hz))).1) (.cons (Ne.symm (hoff _ (.tail _ (.head _))).2.1) (fun z hz => (hoff z (.tail _ (.tail _ hz))).2.1) (.cons (Ne.symm (hoff _ (.tail _ (.head _))).2.2) (fun z hz => (hoff z (.tail _ (.tail _ hz))).2.2) (.cons hRp hRZ1 .nil)))
    k_steps
    (with_reducible rename News _ _ _ ((I', oI) :: _) => kN4)
    refine ⟨?_⟩
    k_dflt (refine' wpAny_call (qpop (hZ1q _ hX6) (q.drop (j + 1)) nq2 _ (by rw [List.length_drop]; omega) _ _ _ _ _ _ _ _ _ _ _ _ _ _ _ _ _ (by k_asm) (by k_asm) (by k_asm) (news_up [_, _, _, _] kN4) (by k_asm) (by first | exact rfl | assumption) (by ktr_room) (by ktr_units) (by assumption) ?_))
    intro h9 tk9 F9 N9
    have kN5 := news_dn [_, _, _, _] N9
    clear N9
    (try simp only [List.cons_append, List.nil_append] at kN5)
    exact LCg.CompEnd.intro (by assumption) kN5 _ (fun p hp => hp) off' trivial ⟨⟨_, strs_take hq hqj hzs, rfl⟩⟩
  · intro zs news hJ
    refine foldG9 ?_
    intro GG
    obtain ⟨nq2, hws, rfl⟩ := hJ
    dsimp only [GG]
    clear GG
    intro DW h7 tk7 F7 N7 off7
    have hoff7 := off1_all5 off7
    have hWR := hoff7 _ (.head _)
    have hWp := hoff7 _ (.tail _ (.head _))
    have hWZ : ∀ z ∈ (x, instObj 86 d1) :: (d1, mDict _ (1 + ((lnOf rs rs.length : Nat) : Int)) st1 pb a1 a2 a3 a4 a5 a6) :: (la1, W.listOf #[.int (posOf rs rs.length : Nat) ti1] nl1) :: (D, LCg.lst xs) :: (sX.heap.objs.size + 1, oC) :: (154, tabObj #[]) :: nb, z.1 ≠ DW := fun z hz => hoff7 z (.tail _ (.tail _ hz))
    dsimp only at hWR hWp
    have hXW : XOff pb ((x, instObj 86 d1) :: (d1, mDict _ (1 + ((lnOf rs rs.length : Nat) : Int)) st1 pb a1 a2 a3 a4 a5 a6) :: (la1, W.listOf #[.int (posOf rs rs.length : Nat) ti1] nl1) :: (D, LCg.lst xs) :: (sX.heap.objs.size + 1, oC) :: (154, tabObj #[]) :: nb) [(DW, LCg.lst zs), (R, W.listOf rits.toArray nr)] := .cons (Ne.symm hWp) hWZ (.cons hRp hRZ1 .nil)
    rw [List.drop_eq_nil_of_le (Nat.le_of_eq hql)] at N7
    rw [List.take_of_length_le (Nat.le_of_eq ((List.length_map ..).trans hcl))] at hws
    (try dsimp only)
    (try k_sweep)
    (try k_fold)
    k_steps
    (with_reducible rename News _ _ _ ((DW, _) :: _) => kN6)
    refine ⟨?_⟩
    k_dflt (refine' wpAny_call (tok_end _ _ _ _ _ ((DW, LCg.lst zs) :: (R, W.listOf rits.toArray nr) :: (D, LCg.lst xs) :: (sX.heap.objs.size + 1, oC) :: (154, tabObj #[]) :: nb) rs rs.length x d1 pb la1 st1 a1 a2 a3 a4 a5 a6 ti1 nq2 nl1 htl (ZAt.mach hM1 hXW) _ _ _ _ _ _ _ _ _ _ _ _ _ _ _ _ _ (by k_asm) (by k_asm) (by k_asm) (news_w2 kN6) (by k_asm) (by first | exact rfl | assumption) (by ktr_room) (by ktr_units) (by assumption) ?_))
    intro k2' ti' t8 p8 h8 tk8 F9 N9
    have hcnt := count_page rs rs.length
    clear kN6 hXW hZ1q hM1
    (try dsimp only)
    (try k_sweep)
    (try k_fold)
    k_steps
    clear hcnt
    have hc45 : rs.length = 4 ∨ rs.length = 5 := hrl ▸ hc
    (with_reducible rename Fr _ _ _ _ => kF)
    (with_reducible rename News _ _ _ ((pb, _) :: _) => kN8)
    have kN9 := news_w3 kN8 hps92
    have hWD := hWZ _ (.tail _ (.tail _ (.tail _ (.head _))))
    have hWT := hWZ _ (.tail _ (.tail _ (.tail _ (.tail _ (.tail _ (.head _))))))
    have hW9 := hWZ _ (.tail _ (.tail _ (.tail _ (.tail _ (.tail _ (.tail _ hps92))))))
    have hR9 := hRZ1 _ (.tail _ (.tail _ (.tail _ (.tail _ (.tail _ (.tail _ hps92))))))
    dsimp only at hWD hWT hW9 hR9
    clear kN8 hoff7 off7 hWZ hRZ1 hps92
    refine ⟨?_⟩
    k_dflt (refine' wpAny_call (law_by_choices_spec _ _ _ _ _ _ D rs xs xs.length hxs hl5 hb7 (.tail _ (.head _)) _ _ _ _ _ _ _ _ _ _ _ _ _ _ _ _ _ (by k_asm) (by k_asm) (by k_asm) kN9 (by k_asm) (by first | exact rfl | assumption) (by ktr_room) (by ktr_units) (by assumption) ?_))
    intro D2 xs2 nn2 h9 tk9 hxs2 oD2' F9 N9
    rw [choices_eq hc45] at hxs2
    have p1 := oD2' _ (.head _)
    have p2 := oD2' _ (.tail _ (.head _))
    have p3 := oD2' _ (.tail _ (.tail _ (.head _)))
    have p4 := oD2' _ (.tail _ (.tail _ (.tail _ (.head _))))
    have p5 := oD2' _ (.tail _ (.tail _ (.tail _ (.tail _ (.head _)))))
    dsimp only at p1 p2 p3 p4 p5
    clear kN9 oD2'
    (try dsimp only)
    (try k_sweep)
    (try k_fold)
    k_steps
    have hx2l : xs2.length = rs.length + 1 := hxs2.length.trans hcl
    have hx2z : xs2.toArray.size ≤ sizeLine := by rw [List.size_toArray, hx2l, sizeLine_eq]; omega
    refine ⟨LCg.CompSrc.ledger (by rfl) (by k_asm) (by k_asm) (.head _) hx2z ?_⟩
    intro g'
    refine restInv (J := fun j ys nx => StrsAre ys ((((1 : Int) :: mulT rs).take j).map wS) ∧ nx = _) ⟨.nil, rfl⟩ ?_ ?_
    · intro j v2 ys news I' oI C oC2 D3 m₂ h' tk' E' hj hP hJ hC hx' F' N' off' ne'
      refine foldG9 ?_
      intro GG
      obtain ⟨hys, rfl⟩ := hJ
      dsimp only [GG]
      clear GG
      obtain ⟨bn, tb, rfl, hbn⟩ := hxs2.at j v2 (by simpa using hP)
      have hbn6 := hbd bn (List.mem_of_getElem? hbn)
      k_steps
      refine ⟨?_⟩
      k_dflt (refine' wpAny_call (law_written_spec _ _ _ _ _ _ bn tb hbn6 _ _ _ _ _ _ _ _ _ _ _ _ _ _ _ _ _ (by k_asm) (by k_asm) (by k_asm) (by k_asm) (by k_asm) (by first | exact rfl | assumption) (by ktr_room) (by ktr_units) (by assumption) ?_))
      intro h10 tk10 t10 F10 N10
      (try dsimp only)
      exact LCg.CompEnd.intro F10 N10 _ (fun p hp => hp) off' (.inr ⟨_, .head _, rfl, _, rfl⟩) ⟨⟨strs_snoc hys hbn, rfl⟩⟩
    · intro ys news hJ
      refine foldG9 ?_
      intro GG
      obtain ⟨hys, rfl⟩ := hJ
      dsimp only [GG]
      clear GG
      intro D3 h10 tk10 F10 N10 off10
      rw [List.take_of_length_le (by rw [List.size_toArray, hx2l, hcl]; exact Nat.le_refl _)] at hys
      (try dsimp only)
      (try k_sweep)
      (try k_fold)
      (k_with "compareOp NotEq ref ref" => (refine Halt.h ?_))
      k_steps
      have hDW3 := (off10 : _).2.2.2.1
      have q1 := off10.2.1
      have q2 := off10.2.2.1
      have q4 := off10.2.2.2.2.1
      have q5 := off10.2.2.2.2.2.1
      refine ⟨?_⟩
      k_dflt (refine' ne_strs_same (N10.isList (.tail _ (.tail _ (.tail _ (.tail _ (.head _)))))) (N10.isList (.head _)) hws hys (words_ok _) (by units_room) ?_)
      have kN11 := news_w4 N10
      (try clear N10); (try clear kN10); (try clear off10)
      k_with_none
      (k_with "call ref" => ((with_reducible show wpAny _ _ (call (Value.ref 147) _) _ _ _); refine Halt.h ?_))
      (k_with "call ref" => ((with_reducible show wpAny _ _ (call (Value.ref 157) _) _ _ _); refine Halt.h ?_))
      (k_with "call ref" => ((with_reducible show wpAny _ _ (call (Value.ref 162) _) _ _ _); refine Halt.h ?_))
      (k_with "call ref" => ((with_reducible show wpAny _ _ (call (Value.ref 32) _) _ _ _); refine Halt.h ?_))
      (k_with "call ref" => ((with_reducible show wpAny _ _ (call (Value.ref 41) _) _ _ _); refine Halt.h ?_))
      (k_with "call ref" => ((with_reducible show wpAny _ _ (call (Value.ref 123) _) _ _ _); refine Halt.h ?_))
      (k_with "exec Assign cons ListComp" => (k_dflt (refine LCg.Assign_ListComp_U (F₀ := by k_asm) (by rfl) (by with_unfolding_all rfl) (by with_unfolding_all rfl) (by decide) (by rfl) (by decide) (by rfl) (by rfl) (by rfl) ?_)))
      (k_with "CompSrc" => (refine Halt.h ?_))
      (k_with "compareOp NotEq ref ref" => (refine Halt.h ?_))
      (k_with "call builtin:sorted" => (refine Halt.h ?_))
      (k_with "exec Return some" => (refine Halt.h ?_))
      k_steps
      have hzl : zs.length = rs.length + 1 := hws.length.trans ((List.length_map ..).trans hcl)
      have hzz : zs.toArray.size ≤ sizeLine := by rw [List.size_toArray, hzl, sizeLine_eq]; omega
      dsimp only at hDW3 q1 q2 q4 q5
      refine ⟨LCg.CompSrc.ledger (by rfl) (by k_asm) kN11 (.tail _ (.tail _ (.head _))) hzz ?_⟩
      intro g'
      refine restInv (J := fun j us nx => IntsAre us (((1 : Int) :: mulT rs).take j) ∧ nx = _) ⟨.nil, rfl⟩ ?_ ?_
      · intro j v2 us news I' oI C oC2 D4 m₂ h' tk' E' hj hP hJ hC hx' F' N' off' ne'
        refine foldG9 ?_
        intro GG
        obtain ⟨hus, rfl⟩ := hJ
        dsimp only [GG]
        clear GG
        obtain ⟨bn, tb, rfl, hbn⟩ := strs_item hws (show zs[j]? = some v2 by simpa using hP)
        have hbn6 := hbd bn (List.mem_of_getElem? hbn)
        k_steps
        refine ⟨?_⟩
        k_dflt (refine' wpAny_call (law_number_spec _ _ _ _ _ _ bn tb hbn6 _ _ _ _ _ _ _ _ _ _ _ _ _ _ _ _ _ (by k_asm) (by k_asm) (by k_asm) (by k_asm) (by k_asm) (by first | exact rfl | assumption) (by ktr_room) (by ktr_units) (by assumption) ?_))
        intro h11 tk11 t11 F11 N11
        (try dsimp only)
        exact LCg.CompEnd.intro F11 N11 _ (fun p hp => hp) off' (.inr ⟨_, .tail _ (.tail _ (.head _)), rfl, _, rfl⟩) ⟨⟨ints_snoc hus hbn, rfl⟩⟩
      · intro us news hJ
        refine foldG9 ?_
        intro GG
        obtain ⟨hus, rfl⟩ := hJ
        dsimp only [GG]
        clear GG
        intro DK h11 tk11 F11 N11 off11
        rw [List.take_of_length_le (by rw [List.size_toArray, hzl, hcl]; exact Nat.le_refl _)] at hus
        have r1 := off11.1
        have r2 := off11.2.1
        have r3 := off11.2.2.1
        have r4 := off11.2.2.2.1
        have r5 := off11.2.2.2.2.1
        dsimp only at r1 r2 r3 r4 r5
        clear kN11 off11
        (try dsimp only)
        (try k_sweep)
        (try k_fold)
        k_steps
        have hSp : (rowR rs rs.length).Perm rs := by
          have := rowR_perm rs rs.length (Nat.le_refl _)
          rw [List.take_of_length_le (Nat.le_refl _)] at this
          exact this
        have hSs := rowR_sorted rs rs.length
        have hSl : (rowR rs rs.length).length = rs.length := hSp.length_eq
        refine ⟨?_⟩
        k_dflt (refine' kso_sorted (by k_asm) (by k_asm) (kso_isList (by k_asm) (.tail _ (.tail _ (.head _))) rfl) hxs (by omega) ?_)
        intro DB vs' ns' n' h16 F16 F16n l16 hi' he' hp' ho' hb'
        have hrow := sorted_same (hSp.trans hp'.symm) hSs ho'
        clear hb' he' l16 hp' ho'
        k_steps
        refine ⟨?_⟩
        k_dflt (refine' ne_ints_same (F16n.isList (.tail _ (.tail _ (.tail _ (.tail _ (.tail _ (.head _))))))) (F16n.isList (.head _)) hri hi' hrow (by units_room) ?_)
        have kN12 : News _ _ _ _ := fun p hp => F16n p (.tail _ hp)
        clear F16n
        k_steps
        refine ⟨?_⟩
        have hr154 : ∀ p ∈ [(DK, LCg.lst us), (D, W.listOf xs.toArray xs.length), (DW, LCg.lst zs), (R, W.listOf rits.toArray nr), (92, tabObj ps92)], p.1 ≠ 154 := fun p hp => by
          rcases List.mem_cons.mp hp with rfl | hp
          · exact Ne.symm r1
          rcases List.mem_cons.mp hp with rfl | hp
          · exact Ne.symm oD2
          rcases List.mem_cons.mp hp with rfl | hp
          · exact Ne.symm hWT
          rcases List.mem_cons.mp hp with rfl | hp
          · exact Ne.symm hRT
          rcases List.mem_cons.mp hp with rfl | hp
          · exact (by decide : (92 : Nat) ≠ 154)
          · exact nomatch hp
        have hc45 : rs.length = 4 ∨ rs.length = 5 := hrl ▸ hc
        have kN13 := news_up [(DK, LCg.lst us)] kN12
        simp only [List.cons_append, List.nil_append] at kN13
        k_dflt (refine' wpAny_call (law_halved_spec _ _ _ _ _ [(DK, LCg.lst us), (D, W.listOf xs.toArray xs.length), (DW, LCg.lst zs), (R, W.listOf rits.toArray nr), (92, tabObj ps92)] DK rs (rowR rs rs.length) us us.length _ hus hc45 hrb hSp hSs ?hmq #[] hr154 ?htq ?hnq _ _ _ _ _ _ _ _ _ _ _ _ _ _ _ _ _ ?Bq ?Fq ?Xq ?Nq ?Tq ?Kq ?dq ?uq ?c1q ?c2q ?rtq))
        case hmq => exact .head _
        case htq => exact True.intro
        case hnq => exact rfl
        case Bq => k_asm
        case Fq => k_asm
        case Xq => k_asm
        case Nq => exact kN13
        case Tq => k_asm
        case Kq => exact rfl
        case dq => ktr_room
        case uq => ktr_units
        case c1q => with_reducible assumption
        case c2q => with_reducible assumption
        intro DH xsH nnH psH h17 tk17 hH oH F17 N17
        have s5 := oH _ (.tail _ (.tail _ (.tail _ (.head _))))
        (try dsimp only)
        (try k_sweep)
        (try k_fold)
        k_steps
        refine ⟨?_⟩
        k_dflt (refine' ne_ints_same (N17.isList (.head _)) (N17.isList (.tail _ (.tail _ (.tail _ (.tail _ (.tail _ (.head _))))))) hH hri rfl (by units_room) ?_)
        have kN18 : News _ _ _ _ := fun p hp => N17 p (.tail _ hp)
        (try clear N17); (try clear kN12); (try clear oH)
        k_steps
        refine ⟨?_⟩
        k_with_none
        (k_with "call ref" => ((with_reducible show wpAny _ _ (call (Value.ref 147) _) _ _ _); refine Halt.h ?_))
        (k_with "call ref" => ((with_reducible show wpAny _ _ (call (Value.ref 162) _) _ _ _); refine Halt.h ?_))
        (k_with "call ref" => ((with_reducible show wpAny _ _ (call (Value.ref 32) _) _ _ _); refine Halt.h ?_))
        (k_with "call ref" => ((with_reducible show wpAny _ _ (call (Value.ref 41) _) _ _ _); refine Halt.h ?_))
        k_steps
        have hr0 : (rs.getD 0 0).natAbs ≤ 7 := getD0_ok hb7 hc45
        refine ⟨?_⟩
        k_dflt (refine' wpAny_call (law_moved_spec _ _ _ _ _ ((154, tabObj psH) :: [(DK, LCg.lst us), (D, W.listOf xs.toArray xs.length), (DW, LCg.lst zs), (R, W.listOf rits.toArray nr), (92, tabObj ps92)]) DK ((1 : Int) :: mulT rs) us us.length _ _ hus (by rw [hcl]; exact Nat.succ_le_succ hl5) (Nat.succ_le_succ (Nat.zero_le _)) hr0 (.tail _ (.head _)) _ _ _ _ _ _ _ _ _ _ _ _ _ _ _ _ _ (by k_asm) (by k_asm) (by k_asm) kN18 (by k_asm) (by first | exact rfl | assumption) (by ktr_room) (by ktr_units) (by assumption) ?_))
        intro D5 xs5 nn5 h18 tk18 hx5 o5 F18 N18
        have s6 := o5 _ (.tail _ (.tail _ (.tail _ (.tail _ (.head _)))))
        rw [moved_eq hc45] at hx5
        (try dsimp only)
        (try k_sweep)
        (try k_fold)
        k_steps
        refine ⟨?_⟩
        k_dflt (refine' wpAny_call (law_noughts_spec _ _ _ _ _ ((D5, W.listOf xs5.toArray nn5) :: (154, tabObj psH) :: [(DK, LCg.lst us), (D, W.listOf xs.toArray xs.length), (DW, LCg.lst zs), (R, W.listOf rits.toArray nr), (92, tabObj ps92)]) D5 _ xs5 nn5 hx5 (by rw [mulT_len, List.length_map]; exact hl5) (.head _) _ _ _ _ _ _ _ _ _ _ _ _ _ _ _ _ _ (by k_asm) (by k_asm) (by k_asm) N18 (by k_asm) (by first | exact rfl | assumption) (by ktr_room) (by ktr_units) (by assumption) ?_))
        intro h19 tk19 t19 F19 N19
        (try dsimp only)
        (try k_sweep)
        (try k_fold)
        k_steps
        have hr63 : (rowR rs rs.length).length < 64 := by rw [hSl]; exact Nat.lt_of_le_of_lt hl5 (by decide)
        have kN20 := news_up [(D5, W.listOf xs5.toArray nn5), (154, tabObj psH), (DK, LCg.lst us), (D, W.listOf xs.toArray xs.length), (DW, LCg.lst zs)] N19
        simp only [List.cons_append, List.nil_append] at kN20
        refine ⟨?_⟩
        k_dflt (refine' wpAny_call (bisect_right2_spec _ _ _ _ _ [(D5, W.listOf xs5.toArray nn5), (154, tabObj psH), (DK, LCg.lst us), (D, W.listOf xs.toArray xs.length), (DW, LCg.lst zs), (92, tabObj ps92)] R (rowR rs rs.length) rits nr _ _ 0 hri hr63 hSs _ _ _ _ _ _ _ _ _ _ _ _ _ _ _ _ _ (by k_asm) (by k_asm) (by k_asm) kN20 (by k_asm) (by first | exact rfl | assumption) (by ktr_room) (by ktr_units) (by assumption) ?_))
        intro h20 tk20 t20 F20 N20
        (try dsimp only)
        (try k_sweep)
        (try k_fold)
        k_steps
        (with_reducible rename News _ _ _ ((R, _) :: _) => kN21)
        refine ⟨?_⟩
        k_dflt (refine' wpAny_call (bisect_left_spec _ _ _ _ _ [(D5, W.listOf xs5.toArray nn5), (154, tabObj psH), (DK, LCg.lst us), (D, W.listOf xs.toArray xs.length), (DW, LCg.lst zs), (92, tabObj ps92)] R (rowR rs rs.length) rits nr _ _ 0 hri hr63 hSs _ _ _ _ _ _ _ _ _ _ _ _ _ _ _ _ _ (by k_asm) (by k_asm) (by k_asm) kN21 (by k_asm) (by first | exact rfl | assumption) (by ktr_room) (by ktr_units) (by assumption) ?_))
        intro h21 tk21 t21 F21 N21
        (try dsimp only)
        (try k_sweep)
        (try k_fold)
        k_steps
        refine bool_to (P := fun b => QQ (Flow.ret (Value.bool b)) { sX with heap := h21, toks := tk21 + 1 }) (last_eq hSp (rs.getD 0 0)) ?_
        exact hPQ _ _ _ _ _ _ F21 N21 (.tail _ (.tail _ (.tail _ (.tail _ (.tail _ (.tail _ (.head _))))))) (.tail _ (.tail _ (.head _))))
end
end Mine
theorem PySem.Challenge.cw_sr0027_02_holds : PySem.Challenge.rw_sr0027_02.Holds :=
  Mine.dev
