import PyProof.Rows.All
import Wide.All
import OpenK.AllK
import Wide.FinOn
import PySem.Challenge.RW_sr0027_01
open PySem PySem.W PyProof.Rows
set_option Elab.async false
set_option compiler.extract_closed false
set_option maxRecDepth 100000
namespace Mine
section
set_option maxRecDepth 100000 in
set_option maxHeartbeats 8000000 in
open_top hd for PySem.Challenge.rw_sr0027_01
end

section
/-- the shape of a contract: a call of the def at f with the values vs, the ledger led -/
noncomputable abbrev Asks (lv : Nat) (w : World) (loose : List Str) (mean : ExcName → Option Value) (mg mb : Str → Option Value) (f : Addr) (led : List (Addr × Obj)) (vs : List Value)
    (ret : Heap → Addr → (Str → Option Value) → Shared → (Value → Shared → Prop) → Prop) : Prop :=
  ∀ (dp un : Nat) (gd : Option (List Code)) (cn : Str) (cs : Scope) (a : Addr) (ccd : Value) (cl : List (Str × Addr)) (outer : List Env) (A₀ : Around) (base h₀ : Heap) (L : Addr) (m : Str → Option Value) (s : Shared) (Q E : Value → Shared → Prop),
    Below A₀ base outer h₀ → Fr h₀ L s.heap m → (hd.heap_39 w.params).In h₀ → News h₀ L s.heap led → Top topProg loose mean mg mb h₀ → cs.kind = .function →
    dp + lv < recursionLimit → un + 10 * lv < cLine → CodeHd base 96 92 → ret h₀ L m s Q →
      codeAny (model Challenge.rw_sr0027_01.row.prog w) (ktrTop dp un gd cn cs L a ccd cl outer) (.call (.ref f) ⟨vs, []⟩) (fun r s' => match r with | .ok (.ret v) => Q v s' | .ok _ => False | .error e => E e s') s

theorem allLt_ne {d d' : Addr} : ∀ {l : List (Addr × Obj)}, AllLt d l → @LE.le Nat _ d d' → ∀ p ∈ l, p.1 ≠ d'
  | [], _, _, _, hp => nomatch hp
  | _ :: _, h, hd, p, hp => by
    rcases List.mem_cons.mp hp with rfl | hp
    · exact Nat.ne_of_lt (Nat.lt_of_lt_of_le h.1 hd)
    · exact allLt_ne h.2 hd p hp
theorem al0 {d d' : Addr} {l : List (Addr × Obj)} (h : AllLt d l) (hd : @LE.le Nat _ d d') : ∀ p ∈ l, p.1 ≠ d' := allLt_ne (h) hd
theorem al1 {d d' : Addr} {l : List (Addr × Obj)} {a0 : Prop} (h : a0 ∧ AllLt d l) (hd : @LE.le Nat _ d d') : ∀ p ∈ l, p.1 ≠ d' := allLt_ne (h.2) hd
theorem al2 {d d' : Addr} {l : List (Addr × Obj)} {a0 a1 : Prop} (h : a0 ∧ a1 ∧ AllLt d l) (hd : @LE.le Nat _ d d') : ∀ p ∈ l, p.1 ≠ d' := allLt_ne (h.2.2) hd
theorem al3 {d d' : Addr} {l : List (Addr × Obj)} {a0 a1 a2 : Prop} (h : a0 ∧ a1 ∧ a2 ∧ AllLt d l) (hd : @LE.le Nat _ d d') : ∀ p ∈ l, p.1 ≠ d' := allLt_ne (h.2.2.2) hd
theorem al4 {d d' : Addr} {l : List (Addr × Obj)} {a0 a1 a2 a3 : Prop} (h : a0 ∧ a1 ∧ a2 ∧ a3 ∧ AllLt d l) (hd : @LE.le Nat _ d d') : ∀ p ∈ l, p.1 ≠ d' := allLt_ne (h.2.2.2.2) hd
theorem al5 {d d' : Addr} {l : List (Addr × Obj)} {a0 a1 a2 a3 a4 : Prop} (h : a0 ∧ a1 ∧ a2 ∧ a3 ∧ a4 ∧ AllLt d l) (hd : @LE.le Nat _ d d') : ∀ p ∈ l, p.1 ≠ d' := allLt_ne (h.2.2.2.2.2) hd
theorem al6 {d d' : Addr} {l : List (Addr × Obj)} {a0 a1 a2 a3 a4 a5 : Prop} (h : a0 ∧ a1 ∧ a2 ∧ a3 ∧ a4 ∧ a5 ∧ AllLt d l) (hd : @LE.le Nat _ d d') : ∀ p ∈ l, p.1 ≠ d' := allLt_ne (h.2.2.2.2.2.2) hd
theorem al7 {d d' : Addr} {l : List (Addr × Obj)} {a0 a1 a2 a3 a4 a5 a6 : Prop} (h : a0 ∧ a1 ∧ a2 ∧ a3 ∧ a4 ∧ a5 ∧ a6 ∧ AllLt d l) (hd : @LE.le Nat _ d d') : ∀ p ∈ l, p.1 ≠ d' := allLt_ne (h.2.2.2.2.2.2.2) hd
theorem al8 {d d' : Addr} {l : List (Addr × Obj)} {a0 a1 a2 a3 a4 a5 a6 a7 : Prop} (h : a0 ∧ a1 ∧ a2 ∧ a3 ∧ a4 ∧ a5 ∧ a6 ∧ a7 ∧ AllLt d l) (hd : @LE.le Nat _ d d') : ∀ p ∈ l, p.1 ≠ d' := allLt_ne (h.2.2.2.2.2.2.2.2) hd
theorem al9 {d d' : Addr} {l : List (Addr × Obj)} {a0 a1 a2 a3 a4 a5 a6 a7 a8 : Prop} (h : a0 ∧ a1 ∧ a2 ∧ a3 ∧ a4 ∧ a5 ∧ a6 ∧ a7 ∧ a8 ∧ AllLt d l) (hd : @LE.le Nat _ d d') : ∀ p ∈ l, p.1 ≠ d' := allLt_ne (h.2.2.2.2.2.2.2.2.2) hd
theorem al10 {d d' : Addr} {l : List (Addr × Obj)} {a0 a1 a2 a3 a4 a5 a6 a7 a8 a9 : Prop} (h : a0 ∧ a1 ∧ a2 ∧ a3 ∧ a4 ∧ a5 ∧ a6 ∧ a7 ∧ a8 ∧ a9 ∧ AllLt d l) (hd : @LE.le Nat _ d d') : ∀ p ∈ l, p.1 ≠ d' := allLt_ne (h.2.2.2.2.2.2.2.2.2.2) hd
theorem al11 {d d' : Addr} {l : List (Addr × Obj)} {a0 a1 a2 a3 a4 a5 a6 a7 a8 a9 a10 : Prop} (h : a0 ∧ a1 ∧ a2 ∧ a3 ∧ a4 ∧ a5 ∧ a6 ∧ a7 ∧ a8 ∧ a9 ∧ a10 ∧ AllLt d l) (hd : @LE.le Nat _ d d') : ∀ p ∈ l, p.1 ≠ d' := allLt_ne (h.2.2.2.2.2.2.2.2.2.2.2) hd
theorem al12 {d d' : Addr} {l : List (Addr × Obj)} {a0 a1 a2 a3 a4 a5 a6 a7 a8 a9 a10 a11 : Prop} (h : a0 ∧ a1 ∧ a2 ∧ a3 ∧ a4 ∧ a5 ∧ a6 ∧ a7 ∧ a8 ∧ a9 ∧ a10 ∧ a11 ∧ AllLt d l) (hd : @LE.le Nat _ d d') : ∀ p ∈ l, p.1 ≠ d' := allLt_ne (h.2.2.2.2.2.2.2.2.2.2.2.2) hd
/-- the same, with a list of ints that stands below all -/
noncomputable abbrev AsksB (lv : Nat) (w : World) (loose : List Str) (mean : ExcName → Option Value) (mg mb : Str → Option Value) (f : Addr) (led : List (Addr × Obj)) (vs : List Value) (l : Addr) (its : List Value)
    (ret : Heap → Addr → (Str → Option Value) → Shared → (Value → Shared → Prop) → Prop) : Prop :=
  ∀ (dp un : Nat) (gd : Option (List Code)) (cn : Str) (cs : Scope) (a : Addr) (ccd : Value) (cl : List (Str × Addr)) (outer : List Env) (A₀ : Around) (base h₀ : Heap) (L : Addr) (m : Str → Option Value) (s : Shared) (Q E : Value → Shared → Prop),
    Below A₀ base outer h₀ → Fr h₀ L s.heap m → (hd.heap_39 w.params).In h₀ → News h₀ L s.heap led → Top topProg loose mean mg mb h₀ → cs.kind = .function →
    dp + lv < recursionLimit → un + 10 * lv < cLine → CodeHd base 96 92 → base.IsList l its.toArray → ret h₀ L m s Q →
      codeAny (model Challenge.rw_sr0027_01.row.prog w) (ktrTop dp un gd cn cs L a ccd cl outer) (.call (.ref f) ⟨vs, []⟩) (fun r s' => match r with | .ok (.ret v) => Q v s' | .ok _ => False | .error e => E e s') s
/-- the signs of a text -/
noncomputable abbrev sg (x : Str) : List Nat := x.cps.toList
theorem slice_one (x : Str) (i : Nat) (h : i ≤ x.length) : Txt.slice x (some (i : Int)) (some ((i : Int) + 1)) = ⟨(((sg x).drop i).take 1).toArray⟩ := by
  have hl : x.length = x.cps.size := rfl
  have e : Builtin.Str.strSliceIndices (some (i : Int)) (some ((i : Int) + 1)) 1 x.length = if i < x.length then [i] else [] := by
    unfold Builtin.Str.strSliceIndices sliceRange
    have h1 : ¬ (i : Int) < 0 := by omega
    have h2 : ¬ ((i : Int) + 1) < 0 := by omega
    simp only [show (1 : Int) > 0 by decide, if_true, h1, h2, if_false]
    have h3 : min (i : Int) (x.length : Int) = i := by omega
    by_cases hi : i < x.length
    · have h4 : min ((i : Int) + 1) (x.length : Int) = i + 1 := by omega
      have h5 : max 0 (i : Int) = i := by omega
      have h6 : max 0 ((i : Int) + 1) = i + 1 := by omega
      simp only [h3, h4, h5, h6, hi, if_true]
      have h7 : ((i : Int) + 1 - i + 1 - 1) / 1 = 1 := by omega
      rw [if_pos (by omega), h7]
      simp [List.range_succ]
    · have h4 : min ((i : Int) + 1) (x.length : Int) = i := by omega
      have h5 : max 0 (i : Int) = i := by omega
      simp only [h3, h4, h5, hi, if_false]
      rw [if_neg (by omega)]
      rfl
  unfold Txt.slice
  rw [e]
  by_cases hi : i < x.length
  · rw [if_pos hi]
    have hget : x.cps[i]? = some x.cps[i] := Array.getElem?_eq_getElem hi
    have hd : ((sg x).drop i).take 1 = [x.cps[i]] := by
      rw [List.take_one, List.head?_drop, Array.getElem?_toList, hget]; rfl
    rw [hd]
    split
    · rename_i hc
      have hn : x.length = 1 := by
        simp only [Bool.and_eq_true, beq_iff_eq] at hc
        simpa using hc.2.symm
      obtain ⟨⟨c⟩⟩ := x
      simp only [Str.length, List.size_toArray] at hn hi
      match c, hn with
      | [a], _ =>
        have : i = 0 := by simp at hi; exact hi
        subst this; rfl
    · simp [hget]
  · rw [if_neg hi]
    have hd : (sg x).drop i = [] := List.drop_eq_nil_of_le (by rw [Array.length_toList]; omega)
    rw [hd]
    split
    · rename_i hc
      have hn : x.length = 0 := by
        simp only [Bool.and_eq_true, beq_iff_eq] at hc
        simpa using hc.2.symm
      obtain ⟨⟨c⟩⟩ := x
      simp only [Str.length, List.size_toArray] at hn
      match c, hn with
      | [], _ => rfl
    · rfl
/-- the closure that reads on: it hands out the next sign (nothing at the end) and moves the place -/
noncomputable abbrev ReadOk (w : World) (loose : List Str) (mean : ExcName → Option Value) (mg mb : Str → Option Value) (f la : Addr) (txt : Str) (led : List (Addr × Obj)) : Prop :=
  ∀ (rest : List (Addr × Obj)), (∀ p ∈ led, p ∈ rest) → (∀ p ∈ rest, p.1 ≠ la) → ∀ (i : Nat) (ti t1 : Tok) (n : Nat), i ≤ txt.length →
    Asks 10 w loose mean mg mb f ((la, W.listOf #[.int i ti] n) :: rest) [.int 1 t1] (fun h₀ L m s Q =>
      ∀ (t2 t3 : Tok) (h' : Heap) (tk' : Nat), Fr h₀ L h' m → News h₀ L h' ((la, W.listOf #[.int ((i + (((sg txt).drop i).take 1).length : Nat) : Int) t2] n) :: rest) →
        Q (.str ⟨(((sg txt).drop i).take 1).toArray⟩ t3) { s with heap := h', toks := tk' })
/-- the machine's dict -/
noncomputable abbrev mDict (w : World) (line : Int) (st pb : Addr) (k1 k2 k3 k4 k5 k6 : Tok) : Obj :=
  dictOf [⟨PyData.keyHash w.params (Str.ofString "lineno"), .str (Str.ofString "lineno") k1, .int line k2⟩,
    ⟨PyData.keyHash w.params (Str.ofString "instream"), .str (Str.ofString "instream") k3, .ref st⟩,
    ⟨PyData.keyHash w.params (Str.ofString "whitespace"), .str (Str.ofString "whitespace") k4, .str (Str.ofString "\n\t\r ") k5⟩,
    ⟨PyData.keyHash w.params (Str.ofString "pushback"), .str (Str.ofString "pushback") k6, .ref pb⟩] 4
/-- what is known of the machine at x beside its ledger -/
structure Mach (w : World) (loose : List Str) (mean : ExcName → Option Value) (mg mb : Str → Option Value) (x d pb la st : Addr) (txt : Str) (led : List (Addr × Obj)) : Prop where
  nd : ∀ p ∈ led, p.1 ≠ d
  npb : ∀ p ∈ led, p.1 ≠ pb
  nla : ∀ p ∈ led, p.1 ≠ la
  xd : x ≠ d
  xpb : x ≠ pb
  xla : x ≠ la
  dpb : d ≠ pb
  dla : d ≠ la
  pbla : pb ≠ la
  str : ∃ (sd f : Addr) (fd : FuncData) (t : Tok) (oc : Value) (od : Option Addr) (fd2 : FuncData) (sl : Array (Option Value)), (st, ({ cls := .type "function", dict := some sd, data := .func fd } : Obj)) ∈ led ∧ (f, (⟨oc, od, .func fd2, sl⟩ : Obj)) ∈ led ∧
    (sd, dictOf [⟨PyData.keyHash w.params (Str.ofString "read"), .str (Str.ofString "read") t, .ref f⟩] 1) ∈ led ∧ ReadOk w loose mean mg mb f la txt led
theorem news_mach {h₀ h : Heap} {L : Addr} {a1 a2 a3 b1 b2 b3 b4 b5 a4 : Addr × Obj} {r : List (Addr × Obj)} (N : News h₀ L h (a1 :: a2 :: a3 :: b1 :: b2 :: b3 :: b4 :: b5 :: a4 :: r)) :
    News h₀ L h (a1 :: a2 :: a3 :: a4 :: b1 :: b2 :: b3 :: b4 :: b5 :: r) := fun p hp => N p (by
  simp only [List.mem_cons] at hp ⊢
  rcases hp with h | h | h | h | h | h | h | h | h | h <;> simp [h])
theorem news_more {h₀ h : Heap} {L : Addr} {a : Addr × Obj} {led r : List (Addr × Obj)} (N : News h₀ L h (a :: r)) (hs : ∀ p ∈ led, p ∈ r) : News h₀ L h (a :: (led ++ r)) := fun p hp => N p (by
  rcases List.mem_cons.mp hp with rfl | hp
  · exact .head _
  · rcases List.mem_append.mp hp with hp | hp
    · exact .tail _ (hs p hp)
    · exact .tail _ hp)
theorem all_more {d : Addr} {led r : List (Addr × Obj)} (h : ∀ p ∈ r, p.1 ≠ d) (hs : ∀ p ∈ led, p ∈ r) : ∀ p ∈ led ++ r, p.1 ≠ d := fun p hp => by
  rcases List.mem_append.mp hp with hp | hp
  · exact h p (hs p hp)
  · exact h p hp
theorem Mach.more {w : World} {loose : List Str} {mean : ExcName → Option Value} {mg mb : Str → Option Value} {x d pb la st : Addr} {txt : Str} {led rest : List (Addr × Obj)}
    (M : Mach w loose mean mg mb x d pb la st txt led) (hs : ∀ p ∈ led, p ∈ rest) (h1 : ∀ p ∈ rest, p.1 ≠ d) (h2 : ∀ p ∈ rest, p.1 ≠ pb) (h3 : ∀ p ∈ rest, p.1 ≠ la) : Mach w loose mean mg mb x d pb la st txt rest := by
  obtain ⟨sd, f, fd, t, oc, od, fd2, sl, a, a', b, c⟩ := M.str
  exact ⟨h1, h2, h3, M.xd, M.xpb, M.xla, M.dpb, M.dla, M.pbla, sd, f, fd, t, oc, od, fd2, sl, hs _ a, hs _ a', hs _ b, fun r hr => c r fun p hp => hr p (hs p hp)⟩
theorem mem_of {p : Addr × Obj} {l : List (Addr × Obj)} (h : p ∈ l) : List.Mem p l := h
section
variable {h₀ h : Heap} {L : Addr} {a b c d : Addr × Obj} {r : List (Addr × Obj)}
/-- the fourth one to the front, and back -/
theorem news_4 (N : News h₀ L h (a :: b :: c :: d :: r)) : News h₀ L h (d :: a :: b :: c :: r) := fun p hp => N p (by
  simp only [List.mem_cons] at hp ⊢
  rcases hp with h | h | h | h | h <;> simp [h])
theorem news_4b (N : News h₀ L h (d :: a :: b :: c :: r)) : News h₀ L h (a :: b :: c :: d :: r) := fun p hp => N p (by
  simp only [List.mem_cons] at hp ⊢
  rcases hp with h | h | h | h | h <;> simp [h])
end
section
variable {w : World} {loose : List Str} {mean : ExcName → Option Value} {mg mb : Str → Option Value} {x d pb la st : Addr} {txt : Str} {rest : List (Addr × Obj)} {o1 o2 o3 : Obj}
theorem Mach.offla (M : Mach w loose mean mg mb x d pb la st txt rest) : ∀ p ∈ (pb, o1) :: (x, o2) :: (d, o3) :: rest, p.1 ≠ la := by
  intro p hp
  simp only [List.mem_cons] at hp
  rcases hp with rfl | rfl | rfl | hp
  · exact M.pbla
  · exact M.xla
  · exact M.dla
  · exact M.nla p hp
end
theorem sub3 {a b c : Addr × Obj} {r : List (Addr × Obj)} : ∀ p ∈ r, p ∈ a :: b :: c :: r := fun _ hp => .tail _ (.tail _ (.tail _ hp))
/-- how many lines a sign ends -/
noncomputable def nlOf (c : List Nat) : Int := if c = [10] then 1 else 0
theorem nlOf_tt {c : List Nat} (h : ((⟨c.toArray⟩ : Str) == Str.ofString "\n") = true) : nlOf c = 1 := by
  have e := beq_iff_eq.mp h
  have e2 : c = [10] := by
    have h1 := congrArg (fun x : Str => x.cps.toList) e
    have h2 : (Str.ofString "\n").cps.toList = [10] := by decide
    dsimp only at h1
    rw [h2] at h1
    exact h1
  unfold nlOf
  rw [if_pos e2]
theorem nlOf_ff {c : List Nat} (h : ((⟨c.toArray⟩ : Str) == Str.ofString "\n") = false) : nlOf c = 0 := by
  unfold nlOf
  rw [if_neg]
  intro e
  subst e
  exact absurd h (by decide)
theorem one_ne {c k : Nat} {x : Str} (hx : x = ⟨#[k]⟩) (h : c ≠ k) : ¬ (((⟨#[c]⟩ : Str) == x) = true) := by
  subst hx
  intro e
  have e1 := congrArg (fun x : Str => x.cps.toList) (beq_iff_eq.mp e)
  dsimp only at e1
  injection e1 with e2 _
  exact h e2
theorem no_quote {c : Nat} (h : 65 ≤ c ∧ c ≤ 81) : ¬ (((⟨#[c]⟩ : Str) == Str.ofString "\"") = true) := one_ne (k := 34) (by decide) (by omega)
theorem no_back {c : Nat} (h : 65 ≤ c ∧ c ≤ 81) : ¬ (((⟨#[c]⟩ : Str) == Str.ofString "\\") = true) := one_ne (k := 92) (by decide) (by omega)
theorem nlOf_ne {c : Nat} (h : c ≠ 10) : nlOf [c] = 0 := by
  unfold nlOf
  rw [if_neg]
  intro e
  injection e with e1 _
  exact h e1
theorem str_snoc (a : List Nat) (c : Nat) : (⟨a.toArray⟩ : Str) ++ ⟨#[c]⟩ = ⟨(a ++ [c]).toArray⟩ := by
  apply Str.ext'
  simp [Str.cps_append]
theorem alR {d d' : Addr} {l : List (Addr × Obj)} (h : ∀ p ∈ l, p.1 < d) (hd : @LE.le Nat _ d d') : ∀ p ∈ l, p.1 ≠ d' := fun p hp => Nat.ne_of_lt (Nat.lt_of_lt_of_le (h p hp) hd)
theorem pk0 {a q : Prop} (h : a ∧ q) : a := h.1
theorem pk1 {a q : Prop} {p0 : Prop} (h : p0 ∧ a ∧ q) : a := h.2.1
theorem pk2 {a q : Prop} {p0 p1 : Prop} (h : p0 ∧ p1 ∧ a ∧ q) : a := h.2.2.1
theorem pk3 {a q : Prop} {p0 p1 p2 : Prop} (h : p0 ∧ p1 ∧ p2 ∧ a ∧ q) : a := h.2.2.2.1
theorem pk4 {a q : Prop} {p0 p1 p2 p3 : Prop} (h : p0 ∧ p1 ∧ p2 ∧ p3 ∧ a ∧ q) : a := h.2.2.2.2.1
theorem pk5 {a q : Prop} {p0 p1 p2 p3 p4 : Prop} (h : p0 ∧ p1 ∧ p2 ∧ p3 ∧ p4 ∧ a ∧ q) : a := h.2.2.2.2.2.1
theorem pk6 {a q : Prop} {p0 p1 p2 p3 p4 p5 : Prop} (h : p0 ∧ p1 ∧ p2 ∧ p3 ∧ p4 ∧ p5 ∧ a ∧ q) : a := h.2.2.2.2.2.2.1
theorem pk7 {a q : Prop} {p0 p1 p2 p3 p4 p5 p6 : Prop} (h : p0 ∧ p1 ∧ p2 ∧ p3 ∧ p4 ∧ p5 ∧ p6 ∧ a ∧ q) : a := h.2.2.2.2.2.2.2.1
theorem pk8 {a q : Prop} {p0 p1 p2 p3 p4 p5 p6 p7 : Prop} (h : p0 ∧ p1 ∧ p2 ∧ p3 ∧ p4 ∧ p5 ∧ p6 ∧ p7 ∧ a ∧ q) : a := h.2.2.2.2.2.2.2.2.1
theorem pk9 {a q : Prop} {p0 p1 p2 p3 p4 p5 p6 p7 p8 : Prop} (h : p0 ∧ p1 ∧ p2 ∧ p3 ∧ p4 ∧ p5 ∧ p6 ∧ p7 ∧ p8 ∧ a ∧ q) : a := h.2.2.2.2.2.2.2.2.2.1
theorem pk10 {a q : Prop} {p0 p1 p2 p3 p4 p5 p6 p7 p8 p9 : Prop} (h : p0 ∧ p1 ∧ p2 ∧ p3 ∧ p4 ∧ p5 ∧ p6 ∧ p7 ∧ p8 ∧ p9 ∧ a ∧ q) : a := h.2.2.2.2.2.2.2.2.2.2.1
theorem pk11 {a q : Prop} {p0 p1 p2 p3 p4 p5 p6 p7 p8 p9 p10 : Prop} (h : p0 ∧ p1 ∧ p2 ∧ p3 ∧ p4 ∧ p5 ∧ p6 ∧ p7 ∧ p8 ∧ p9 ∧ p10 ∧ a ∧ q) : a := h.2.2.2.2.2.2.2.2.2.2.2.1
theorem pk12 {a q : Prop} {p0 p1 p2 p3 p4 p5 p6 p7 p8 p9 p10 p11 : Prop} (h : p0 ∧ p1 ∧ p2 ∧ p3 ∧ p4 ∧ p5 ∧ p6 ∧ p7 ∧ p8 ∧ p9 ∧ p10 ∧ p11 ∧ a ∧ q) : a := h.2.2.2.2.2.2.2.2.2.2.2.2.1
theorem pk13 {a q : Prop} {p0 p1 p2 p3 p4 p5 p6 p7 p8 p9 p10 p11 p12 : Prop} (h : p0 ∧ p1 ∧ p2 ∧ p3 ∧ p4 ∧ p5 ∧ p6 ∧ p7 ∧ p8 ∧ p9 ∧ p10 ∧ p11 ∧ p12 ∧ a ∧ q) : a := h.2.2.2.2.2.2.2.2.2.2.2.2.2.1
theorem pk14 {a q : Prop} {p0 p1 p2 p3 p4 p5 p6 p7 p8 p9 p10 p11 p12 p13 : Prop} (h : p0 ∧ p1 ∧ p2 ∧ p3 ∧ p4 ∧ p5 ∧ p6 ∧ p7 ∧ p8 ∧ p9 ∧ p10 ∧ p11 ∧ p12 ∧ p13 ∧ a ∧ q) : a := h.2.2.2.2.2.2.2.2.2.2.2.2.2.2.1
theorem pk15 {a q : Prop} {p0 p1 p2 p3 p4 p5 p6 p7 p8 p9 p10 p11 p12 p13 p14 : Prop} (h : p0 ∧ p1 ∧ p2 ∧ p3 ∧ p4 ∧ p5 ∧ p6 ∧ p7 ∧ p8 ∧ p9 ∧ p10 ∧ p11 ∧ p12 ∧ p13 ∧ p14 ∧ a ∧ q) : a := h.2.2.2.2.2.2.2.2.2.2.2.2.2.2.2.1
end

section
/-- a contract at given data -/
noncomputable abbrev AskV (lv : Nat) (w : World) (loose : List Str) (mean : ExcName → Option Value) (mg mb : Str → Option Value) (f : Addr) (led : List (Addr × Obj)) (vs : List Value)
    (ret : Heap → Addr → (Str → Option Value) → Shared → (Value → Shared → Prop) → Prop)
    (dp un : Nat) (gd : Option (List Code)) (cn : Str) (cs : Scope) (a : Addr) (ccd : Value) (cl : List (Str × Addr)) (outer : List Env) (A₀ : Around) (base h₀ : Heap) (L : Addr) (m : Str → Option Value) (s : Shared) (Q E : Value → Shared → Prop) : Prop :=
    Below A₀ base outer h₀ → Fr h₀ L s.heap m → (hd.heap_39 w.params).In h₀ → News h₀ L s.heap led → Top topProg loose mean mg mb h₀ → cs.kind = .function →
    dp + lv < recursionLimit → un + 10 * lv < cLine → CodeHd base 96 92 → ret h₀ L m s Q →
      codeAny (model Challenge.rw_sr0027_01.row.prog w) (ktrTop dp un gd cn cs L a ccd cl outer) (.call (.ref f) ⟨vs, []⟩) (fun r s' => match r with | .ok (.ret v) => Q v s' | .ok _ => False | .error e => E e s') s
noncomputable abbrev AskBV (lv : Nat) (w : World) (loose : List Str) (mean : ExcName → Option Value) (mg mb : Str → Option Value) (f : Addr) (led : List (Addr × Obj)) (vs : List Value) (l : Addr) (its : List Value)
    (ret : Heap → Addr → (Str → Option Value) → Shared → (Value → Shared → Prop) → Prop)
    (dp un : Nat) (gd : Option (List Code)) (cn : Str) (cs : Scope) (a : Addr) (ccd : Value) (cl : List (Str × Addr)) (outer : List Env) (A₀ : Around) (base h₀ : Heap) (L : Addr) (m : Str → Option Value) (s : Shared) (Q E : Value → Shared → Prop) : Prop :=
    Below A₀ base outer h₀ → Fr h₀ L s.heap m → (hd.heap_39 w.params).In h₀ → News h₀ L s.heap led → Top topProg loose mean mg mb h₀ → cs.kind = .function →
    dp + lv < recursionLimit → un + 10 * lv < cLine → CodeHd base 96 92 → base.IsList l its.toArray → ret h₀ L m s Q →
      codeAny (model Challenge.rw_sr0027_01.row.prog w) (ktrTop dp un gd cn cs L a ccd cl outer) (.call (.ref f) ⟨vs, []⟩) (fun r s' => match r with | .ok (.ret v) => Q v s' | .ok _ => False | .error e => E e s') s
noncomputable abbrev K9 : Type := World × (List Str) × (ExcName → Option Value) × (Str → Option Value) × (Str → Option Value) × Nat × Nat × (Option (List Code)) × Str × Scope × Addr × Value × (List (Str × Addr)) × (List Env) × Around × Heap × Heap × Addr × (Str → Option Value) × Shared × (Value → Shared → Prop) × (Value → Shared → Prop)
theorem ne9 : Nonempty K9 := ⟨(⟨fun _ _ => 0, { strHash := fun _ => 0, shareClass := fun _ => 0, mergeTok := fun t => t, idOf := fun _ => 0, idOfShared := fun _ _ => 0, followText := fun _ => false, idOfImm := fun _ => 0 }⟩, default, default, default, default, default, default, default, default, default, default, default, default, default, {}, default, default, default, default, {}, default, default)⟩
/-- Hilbert's choice of a counterexample -/
theorem sk9 {V : Type} (ne : Nonempty V) (P : V → Prop) : ∃ c, P c → ∀ v, P v := by
  by_cases h : ∀ v, P v
  · exact ⟨Classical.choice ne, fun _ => h⟩
  · obtain ⟨c, hc⟩ := Classical.not_forall.mp h
    exact ⟨c, fun h' => absurd h' hc⟩
end

section
open Builtin Builtin.ObjectAttr
theorem fset_slot : Slot "function" "__setattr__" "object.__setattr__" :=
  .of (owner := "object") (n := "__setattr__") (by rw [typeLookup_type, builtinLookup_eq_fast]; kernel_rfl) (by decide +kernel) (by decide +kernel) (by decide +kernel)
    (by first | exact .inl (by decide +kernel) | exact .inr (by decide +kernel)) (by rw [isSubtype_type]; kernel_rfl)
theorem fread_none : typeLookup (.type "function") "read" = pure none := by rw [typeLookup_type, builtinLookup_eq_fast]; kernel_rfl
theorem fmro : mroOf (.type "function") = pure [.type "function", .type "object"] := by kernel_rfl
theorem fpass (self : Value) : refuseLoop self "__setattr__" [.type "function", .type "object"] = pure () := by kernel_rfl
set_option maxHeartbeats 1000000 in
theorem set_fn {prog : Program} {w : World} {A : Around} {E : Value → Shared → Prop} {s : Shared} {name : Str} {v : Value} {f : Addr} {fd : FuncData} {Q : Unit → Shared → Prop}
    (hx : s.heap.get? f = some { cls := .type "function", data := .func fd }) (hB : typeLookup (.type "function") name = pure none)
    (hq : ∀ h' tk', (∀ b o, b ≠ f → s.heap.get? b = some o → h'.get? b = some o) → h'.get? f = some { cls := .type "function", dict := some s.heap.objs.size, data := .func fd } →
      h'.get? s.heap.objs.size = some (dictOf [⟨PyData.keyHash w.params name, .str name tk', v⟩] 1) → Q () { s with heap := h', toks := tk' + 1 }) :
    wpAny (model prog w) A (setAttr (.ref f) name v) Q E s := by
  obtain ⟨h, g, d, t, os⟩ := s
  have f1 := fset_slot.lookup
  have f3 := fset_slot.bind (.ref f)
  have fm := fmro
  unfold setAttr callSpecial? specialOf
  repeat (any_goals (first | assumption | (with_reducible refine wpAny_loadPart_at hx ?_) | wp_step))
  refine codeAny_call_builtin fset_slot.plain PySem.F.entry_object_setattr (fset_slot.check _ _ _ _ _ _ _ _ ⟨_, hx, rfl⟩ (PySem.F.args_object_setattr_3 _ _ _) ?_)
  unfold Builtin.«object.__setattr__»
  repeat (any_goals (first | assumption | rw [refuse_eq] | rw [fpass] | rw [fmro] | rw [hB] | (with_reducible refine wpAny_loadPart_at hx ?_) | wp_step))
  have hfs : f ≠ h.objs.size := Nat.ne_of_lt (Heap.lt_size hx)
  have hx₁ : (h.push { cls := .type "dict", data := .dict #[] }).get? f = some { cls := .type "function", data := .func fd } := Heap.get?_push_of_some _ hx
  have hgd : ((h.push { cls := .type "dict", data := .dict #[] }).update f fun o => { cls := o.cls, dict := some h.objs.size, data := o.data, slots := o.slots }).get? h.objs.size
      = some { cls := .type "dict", data := .dict #[] } := (Heap.get?_update_ne _ _ _ _ hfs.symm).trans (Heap.get?_push_at rfl rfl)
  refine wpAny_askSetting (wpAny_pure (wpAny_bind (wpAny_mkText (wpAny_bind (wpAny_loadPart hgd ?_)))))
  have c : aRefKeyMayBeTheName name #[] = false := by rw [aRefKeyMayBeTheName_at]; simp
  dsimp only
  rw [c]
  have hgd2 := Heap.get?_update_self (Obj.putName name (PyData.keyHash w.params name) (.str name (t + 1)) v) hgd rfl
  refine wpAny_updatePart hgd ?_
  refine wpAny_bind (wpAny_lookBehind hgd2 ?_ ?_)
  · rfl
  have e1 : Obj.putName name (PyData.keyHash w.params name) (.str name (t + 1)) v { cls := .type "dict", data := .dict #[] } = dictOf [⟨PyData.keyHash w.params name, .str name (t + 1), v⟩] 1 := by
    have := putName_dict name (PyData.keyHash w.params name) (.str name (t + 1)) v [] 0
    exact this
  rw [e1] at hgd2
  have hx₂ : ((h.push { cls := .type "dict", data := .dict #[] }).update f fun o => { cls := o.cls, dict := some h.objs.size, data := o.data, slots := o.slots }).get? f
      = some { cls := .type "function", dict := some h.objs.size, data := .func fd } := Heap.get?_update_self (fun o => { cls := o.cls, dict := some h.objs.size, data := o.data, slots := o.slots }) hx₁ rfl
  refine wpAny_pure (wpAny_pure (wpAny_pure ?_))
  refine hq _ (t + 1) (fun b o hbf hb => ?_) ?_ hgd2
  · have hbs : b ≠ h.objs.size := Nat.ne_of_lt (Heap.lt_size hb)
    exact (Heap.get?_update_ne _ _ _ _ hbs).trans ((Heap.get?_update_ne _ _ _ _ hbf).trans (Heap.get?_push_of_some _ hb))
  · exact (Heap.get?_update_ne _ _ _ _ hfs).trans hx₂

/-- the same over the ledger -/
theorem set_fn_K {prog : Program} {w : World} {A : Around} {E : Value → Shared → Prop} {s : Shared} {name : Str} {v : Value} {f L : Addr} {fd : FuncData} {h₀ : Heap} {m : Str → Option Value} {news : List (Addr × Obj)} {g : Obj → List (Addr × Obj)} {Q : Unit → Shared → Prop}
    (F : Fr h₀ L s.heap m) (N : News h₀ L s.heap news) (U : UpdF f { cls := .type "function", data := .func fd } news g) (hB : typeLookup (.type "function") name = pure none)
    (hq : ∀ d h' tk', Fr h₀ L h' m → News h₀ L h' ((d, dictOf [⟨PyData.keyHash w.params name, .str name tk', v⟩] 1) :: g { cls := .type "function", dict := some d, data := .func fd }) → (∀ p ∈ news, p.1 < d) → Q () { s with heap := h', toks := tk' + 1 }) :
    wpAny (model prog w) A (setAttr (.ref f) name v) Q E s := by
  obtain ⟨pre, post, rfl, hg, h1, h2⟩ := U.split
  have hm := N (f, { cls := .type "function", data := .func fd }) (by simp)
  refine set_fn hm.1 hB fun h' tk' hk hf hd => ?_
  have hLf : L ≠ f := Ne.symm hm.2.1
  have keep : ∀ b o, h₀.get? b = some o → h'.get? b = some o := fun b o e => hk b o (fun z => by subst z; rw [hm.2.2] at e; cases e) (F.keep b o e)
  refine hq s.heap.objs.size h' tk' ⟨F.ns.at' fun o e => hk L o hLf e, keep, F.above⟩ (fun p hp => ?_) (fun p hp => Heap.lt_size (N p hp).1)
  rw [hg] at hp
  have old : ∀ q, q ∈ pre ++ (f, { cls := .type "function", data := .func fd }) :: post → q.1 ≠ f → h'.get? q.1 = some q.2 ∧ q.1 ≠ L ∧ h₀.get? q.1 = none := fun q hq hne => ⟨hk _ _ hne (N q hq).1, (N q hq).2⟩
  rcases List.mem_cons.mp hp with rfl | hp
  · refine ⟨hd, ?_, ?_⟩
    · obtain ⟨oL, _, _, hL, _⟩ := F.ns
      exact Nat.ne_of_gt (Heap.lt_size hL)
    · cases q : h₀.get? s.heap.objs.size with
      | none => rfl
      | some o' => exact absurd (Heap.lt_size (F.keep _ _ q)) (Nat.lt_irrefl _)
  · rcases List.mem_append.mp hp with hp | hp
    · exact old p (List.mem_append_left _ hp) (h1 p hp)
    · rcases List.mem_cons.mp hp with rfl | hp
      · exact ⟨hf, hm.2⟩
      · exact old p (List.mem_append_right _ (.tail _ hp)) (h2 p hp)

theorem fget_slot : Slot "function" "__getattribute__" "object.__getattribute__" :=
  .of (owner := "object") (n := "__getattribute__") (by rw [typeLookup_type, builtinLookup_eq_fast]; kernel_rfl) (by decide +kernel) (by decide +kernel) (by decide +kernel)
    (by first | exact .inl (by decide +kernel) | exact .inr (by decide +kernel)) (by rw [isSubtype_type]; kernel_rfl)
theorem fgetattr_none : typeLookup (.type "function") "__getattr__" = pure none := by rw [typeLookup_type, builtinLookup_eq_fast]; kernel_rfl
theorem meth_fn {prog : Program} {w : World} {A : Around} {E : Value → Shared → Prop} {s : Shared} {pl : Sem Bool} {st sd f : Addr} {fd : FuncData} {t : Tok} {Q : Value × List Value → Shared → Prop}
    (hst : s.heap.get? st = some { cls := .type "function", dict := some sd, data := .func fd })
    (hsd : s.heap.get? sd = some (dictOf [⟨PyData.keyHash w.params (Str.ofString "read"), .str (Str.ofString "read") t, .ref f⟩] 1))
    (h : Q (.ref f, []) { s with toks := s.toks + 1 }) : wpAny (model prog w) A (getMethod (.ref st) (Str.ofString "read") pl) Q E s := by
  have f1 := fget_slot.lookup
  have f2 := fgetattr_none
  have f3 := fget_slot.bind (.ref st)
  have fr := fread_none
  have hcan := PySem.F.canon_object_ga
  obtain ⟨hp, g, d, tk, os⟩ := s
  have hT : (Shared.mk hp g d tk os).TypeIs (.ref st) "function" := ⟨_, hst, rfl⟩
  unfold getMethod specialOf
  refine wpAny_bind (wpAny_bind (wpAny_typeOf hT (wpAny_of_eq f1 ?_)))
  dsimp only
  rw [hcan, if_neg (by decide)]
  refine wpAny_bind (wpAny_bind (wpAny_typeOf hT (wpAny_of_eq f2 ?_)))
  refine wpAny_bind (wpAny_bind (wpAny_typeOf hT (wpAny_of_eq fr ?_)))
  dsimp only
  refine wpAny_bind ?_
  unfold getAttr
  refine wpAny_bind (wpAny_mkText ?_)
  unfold getAttrBy
  refine wpAny_holding (wpAny_bind (wpAny_typeOf (T := "function") ⟨_, hst, rfl⟩ (wpAny_bind (wpAny_of_eq f1 ?_))))
  dsimp only
  rw [if_neg (by decide)]
  unfold getAttrByItsOwn hookBefore callGetattribute boundAndCalled
  refine wpAny_bind (wpAny_pure (wpAny_bind (wpAny_attempt (wpAny_holding ?_))))
  rw [if_neg (by decide)]
  refine wpAny_bind (wpAny_of_eq f3 (wpAny_call ?_))
  refine codeAny_call_builtin fget_slot.plain PySem.F.entry_object_getattribute (fget_slot.check _ _ _ _ _ _ _ _ ⟨_, hst, rfl⟩ (PySem.F.args_object_getattribute_2 _ _) ?_)
  unfold Builtin.«object.__getattribute__»
  refine wpAny_bind (wpAny_pure (wpAny_bind (wpAny_pure (wpAny_bind (wpAny_typeOf (T := "function") ⟨_, hst, rfl⟩ (wpAny_bind ?_))))))
  unfold find getOf dataDescriptor? ownThenClass
  refine wpAny_bind (wpAny_of_eq fr (wpAny_bind (wpAny_pure (wpAny_bind (wpAny_pure ?_)))))
  dsimp only
  unfold inOwnDict ObjectAttr.ownDict loadHead instanceDict
  refine wpAny_bind (wpAny_bind (wpAny_bind (wpAny_loadPart hst ?_)))
  dsimp only
  refine wpAny_bind (wpAny_loadPart hst ?_)
  dsimp only
  refine wpAny_pure ?_
  unfold inDict nsGet
  refine wpAny_bind (wpAny_loadPart hsd ?_)
  have hl : nsLook (Str.ofString "read") (dictOf [⟨PyData.keyHash w.params (Str.ofString "read"), .str (Str.ofString "read") t, .ref f⟩] 1) = pure (some (.ref f)) := nsLook_of (by rfl)
  refine wpAny_of_eq hl ?_
  try dsimp only
  refine wpAny_bind (wpAny_rule (wpAny_pure ?_))
  try dsimp only
  refine wpAny_pure ?_
  try dsimp only
  refine wpAny_pure ?_
  try dsimp only
  exact wpAny_pure h
end

section
theorem citer_slot : Slot "callable_iterator" "__next__" "callable_iterator.__next__" :=
  .of (owner := "callable_iterator") (n := "__next__") (by rw [typeLookup_type, builtinLookup_eq_fast]; kernel_rfl) (by decide +kernel) (by decide +kernel) (by decide +kernel)
    (by first | exact .inl (by decide +kernel) | exact .inr (by decide +kernel)) (by rw [isSubtype_type]; kernel_rfl)
theorem citer_entry : entryFor table "callable_iterator.__next__" = some Builtin.«callable_iterator.__next__» := entryFor_of_tree (by kernel_rfl)
theorem citer_args (a : Value) : argsOk "callable_iterator.__next__" ⟨[a], []⟩ := by unfold argsOk; kernel_rfl
theorem citer_islot : Slot "callable_iterator" "__iter__" "callable_iterator.__iter__" :=
  .of (owner := "callable_iterator") (n := "__iter__") (by rw [typeLookup_type, builtinLookup_eq_fast]; kernel_rfl) (by decide +kernel) (by decide +kernel) (by decide +kernel)
    (by first | exact .inl (by decide +kernel) | exact .inr (by decide +kernel)) (by rw [isSubtype_type]; kernel_rfl)
theorem citer_ientry : entryFor table "callable_iterator.__iter__" = some Builtin.«dict_keyiterator.__iter__» := entryFor_alias (id' := "dict_keyiterator.__iter__") (by kernel_rfl) rfl (by decide +kernel) (by kernel_rfl)
theorem citer_iargs (a : Value) : argsOk "callable_iterator.__iter__" ⟨[a], []⟩ := by unfold argsOk; kernel_rfl
noncomputable abbrev citObj (q : Addr) (ts : Tok) : Obj := { cls := .type "callable_iterator", data := .fields #[.ref q, .str (Str.ofString "") ts, .bool false] }
theorem wpAny_callBorrowed {M : Model} {A : Around} {E : Value → Shared → Prop} {s : Shared} {f : Value} {pos : List Value} {Q : Value → Shared → Prop}
    (hc : codeAny M A (.call f ⟨pos, []⟩) (fun r s' => match r with | .ok (.ret v) => Q v s' | .ok _ => False | .error e => E e s') s) : wpAny M A (callBorrowed f pos) Q E s := fun Γ p hΓ => by
  have h := hc (Γ.enter (.call f ⟨pos, []⟩) none p) p rfl (hΓ.enter _ none p (by intro x; cases x))
  unfold callBorrowed
  rw [Sem.wp_call]
  refine wpCode_mono (fun r s' hr => ?_) h
  cases r with
  | error e => exact hr
  | ok f => cases f <;> exact hr
section
variable {prog : Program} {w : World} {A : Around} {E : Value → Shared → Prop} {s : Shared} {it q fa x : Addr} {ts : Tok}
theorem citer_iter {Q : Value → Shared → Prop} (hit : s.heap.get? it = some (citObj q ts)) (h : Q (.ref it) s) : wpAny (model prog w) A (pyIter (.ref it)) Q E s := by
  have hT : s.TypeIs (.ref it) "callable_iterator" := ⟨_, hit, rfl⟩
  refine wpAny_pyIter_slot hT citer_islot (wpAny_call_entry citer_islot hT citer_ientry ?_ (citer_iargs _))
  show wpAny _ _ (ret (.ref it)) _ _ s
  exact wpAny_pure ⟨_, rfl, "callable_iterator", _, hT, citer_slot.lookup, h⟩
theorem eqb_str {a b : Str} {ta tb : Tok} {Q : Bool → Shared → Prop} (h : Q (a == b) s) : wpAny (model prog w) A (eqBool (.str a ta) (.str b tb)) Q E s := by
  unfold eqBool
  refine wpAny_holding (wpAny_ite ?_)
  split
  · rename_i he
    have e := beq_iff_eq.mp he
    injection e with e1 _
    subst e1
    rw [beq_self_eq_true] at h
    exact wpAny_bind (wpAny_rule (wpAny_pure h))
  · dsimp only
    refine wpAny_bind ?_
    refine (show wpAny (model prog w) A (compareOp .Eq (.str a ta) (.str b tb)) _ _ _ from ?_)
    refine PyProof.Rows.eq_str ?_
    unfold truthOfDropped truthy
    exact wpAny_pure h
theorem citer_next {fd : FuncData} {Q : Option Value → Shared → Prop} (hit : s.heap.get? it = some (citObj q ts)) (hq : s.heap.get? q = some (methodObj (.ref fa) (.ref x)))
    (hh : A.handled = none) (hf : s.heap.get? fa = some { cls := .type "function", data := .func fd })
    (h : codeAny (model prog w) A.in1 (.call (.ref fa) ⟨[.ref x], []⟩) (fun r s' => ∃ c tc, r = .ok (.ret (.str c tc)) ∧ s'.heap.get? it = some (citObj q ts) ∧
      (c.cps ≠ #[] → Q (some (.str c tc)) s') ∧ (c.cps = #[] → s'.heap.get? q = some (methodObj (.ref fa) (.ref x)) ∧ s'.heap.get? fa = some { cls := .type "function", data := .func fd } ∧
        ∀ h', Heap.ExtBut it s'.heap h' → Q none { s' with heap := h' })) s) : wpAny (model prog w) A (pyNext (.ref it)) Q E s := by
  have hT : s.TypeIs (.ref it) "callable_iterator" := ⟨_, hit, rfl⟩
  unfold pyNext
  refine wpAny_bind (wpAny_attempt (wpAny_callSpecial?_slot (name := Str.ofString "__next__") hT citer_slot (wpAny_call_entry citer_slot hT citer_entry ?_ (citer_args _))))
  unfold Builtin.«callable_iterator.__next__»
  refine wpAny_bind (wpAny_of_eq (a := (.ref it, [])) (by rfl) ?_)
  dsimp only
  refine wpAny_bind (wpAny_field hit rfl (x := .bool false) rfl ?_)
  rw [if_neg (by decide)]
  refine wpAny_bind (wpAny_field hit rfl (x := .ref q) rfl (wpAny_bind (wpAny_attempt ?_)))
  unfold callOutOfASlot borrowsExactly
  refine wpAny_bind (wpAny_bind (wpAny_load hq ?_))
  dsimp only
  rw [if_pos (by decide)]
  refine wpAny_bind (wpAny_load hf (wpAny_pure ?_))
  rw [if_pos rfl]
  refine wpAny_callBorrowed (method_call hq (codeAny_mono h fun r s' hr => ?_))
  obtain ⟨c, tc, rfl, hit', hsome, hnone⟩ := hr
  dsimp only
  refine wpAny_bind (wpAny_field hit' rfl (x := .bool false) rfl ?_)
  rw [if_neg (by decide)]
  refine wpAny_bind (wpAny_field hit' rfl (x := .str (Str.ofString "") ts) rfl ?_)
  unfold eqBool
  refine wpAny_bind (wpAny_holding (eqb_str ?_))
  by_cases hc : c.cps = #[]
  · obtain ⟨hq', hf', hQ⟩ := hnone hc
    have hce : c = Str.ofString "" := by
      obtain ⟨cc⟩ := c
      dsimp only at hc
      subst hc
      rfl
    subst hce
    rw [beq_self_eq_true, if_neg (by decide)]
    refine wpAny_bind (wpAny_rule (wpAny_bind ?_))
    wp_delta
    refine wpAny_bind (wpAny_field hit' rfl (x := .ref q) rfl (wpAny_bind ?_))
    unfold slotLetsGo borrowsExactly
    dsimp only
    refine wpAny_bind (wpAny_bind (wpAny_load hq' ?_))
    dsimp only
    rw [if_pos (by decide)]
    refine wpAny_bind (wpAny_load hf' (wpAny_pure ?_))
    rw [if_pos rfl]
    refine wpAny_pure ?_
    refine wpAny_bind (wpAny_setField hit' rfl (by simp) ?_)
    have h1 : (s'.heap.update it (Obj.mapFields (·.setIfInBounds 0 .none))).get? it = some { cls := .type "callable_iterator", data := .fields #[.none, .str (Str.ofString "") ts, .bool false] } := Heap.get?_update_self _ hit' rfl
    refine wpAny_bind (wpAny_setField h1 rfl (by simp) ?_)
    have h2 := Heap.get?_update_self (Obj.mapFields (·.setIfInBounds 1 .none)) h1 rfl
    have h2' : ((s'.heap.update it (Obj.mapFields (·.setIfInBounds 0 .none))).update it (Obj.mapFields (·.setIfInBounds 1 .none))).get? it = some { cls := .type "callable_iterator", data := .fields #[.none, .none, .bool false] } := h2
    refine wpAny_setField h2' rfl (by simp) ?_
    have ext : Heap.ExtBut it s'.heap (((s'.heap.update it (Obj.mapFields (·.setIfInBounds 0 .none))).update it (Obj.mapFields (·.setIfInBounds 1 .none))).update it (Obj.mapFields (·.setIfInBounds 2 (.bool true)))) := fun b o hb e =>
      ((Heap.SameBut.update ..).2 b hb).trans (((Heap.SameBut.update ..).2 b hb).trans (((Heap.SameBut.update ..).2 b hb).trans e))
    show wpAny _ _ (newExc (.type "StopIteration") [] >>= _) _ _ _
    refine wpAny_bind ?_
    simp only [newExc, newTuple]
    refine wpAny_bind (wpAny_newObj_type ?_ (by size_fits))
    refine wpAny_bind (m := firstArgMember _ _) (wpAny_of_eq (a := Value.none) (by first | rfl | (simp only [firstArgMember]; rfl)) ?_)
    refine wpAny_newObj_type ?_ (by size_fits)
    simp only [raiseNew]
    refine wpAny_bind (wpAny_handled ?_)
    rw [show A.in1.handled = none from hh]
    refine wpAny_bind (wpAny_pure (wpAny_throw ?_))
    refine wpAny_bind (wpAny_isInstance (T := "StopIteration") (b := true) ⟨_, Heap.get?_push_size _ rfl, rfl⟩ isSubtype_stop ?_)
    exact wpAny_pure (hQ _ ((ext.push _).push _))
  · have hne2 : (Str.ofString "" == c) = false := by
      rw [beq_eq_false_iff_ne]
      intro e1
      exact hc (by rw [← e1]; rfl)
    rw [hne2, if_pos (by decide)]
    exact wpAny_pure ⟨_, rfl, wpAny_pure (hsome hc)⟩
end
section
variable {prog : Program} {w : World} {A : Around} {E : Value → Shared → Prop} {s : Shared} {q fa x : Addr} {ts : Tok}
theorem meth_call : typeLookup (.type "method") "__call__" = pure (some (.builtin "method.__call__")) := by rw [typeLookup_type, builtinLookup_eq_fast]; kernel_rfl
theorem iter_entry : entryFor table "iter" = some Builtin.«iter» := entryFor_of_fast (by kernel_rfl)
theorem citer_make {f self : Value} {Q : Value → Shared → Prop} (hq : s.heap.get? q = some (methodObj f self))
    (h : Q (.ref s.heap.objs.size) { s with heap := s.heap.push (citObj q ts) }) : wpAny (model prog w) A (call (.builtin "iter") [.ref q, .str (Str.ofString "") ts]) Q E s := by
  have hT : s.TypeIs (.ref q) "method" := ⟨_, hq, rfl⟩
  refine Calls.call_function_entry (by decide +kernel) (by decide +kernel) iter_entry (by unfold argsOk; kernel_rfl) ?_
  unfold Builtin.«iter»
  refine wpAny_bind (wpAny_of_eq (a := [.ref q, .str (Str.ofString "") ts]) (by rfl) ?_)
  dsimp only
  refine wpAny_bind (wpAny_specialOf hT meth_call ?_)
  rw [if_neg (by decide)]
  refine wpAny_bind (wpAny_rule (wpAny_bind ?_))
  unfold newFields
  refine wpAny_newObj_type ?_ (by size_fits)
  exact wpAny_pure ⟨_, rfl, h⟩
theorem citer_make_K {f self : Value} {h₀ : Heap} {L : Addr} {m : Str → Option Value} {news : List (Addr × Obj)} {Q : Value → Shared → Prop} (F : Fr h₀ L s.heap m) (N : News h₀ L s.heap news) (hq : (q, methodObj f self) ∈ news)
    (h : ∀ it h', Fr h₀ L h' m → News h₀ L h' ((it, citObj q ts) :: news) → (∀ p ∈ news, p.1 < it) → Q (.ref it) { s with heap := h' }) : wpAny (model prog w) A (call (.builtin "iter") [.ref q, .str (Str.ofString "") ts]) Q E s :=
  citer_make (N.get hq) (h _ _ (F.push _) (N.push F _) fun _ hp => Heap.lt_size (N _ hp).1)
end
section
variable {prog : Program} {w : World} {A : Around} {E : Value → Shared → Prop} {s : Shared} {env : Env}
/-- the invariant holds with a smaller number -/
structure MfLess (I : Nat → Shared → Prop) (k : Nat) (s : Shared) : Prop where
  h : ∃ j, j < k ∧ I j s
/-- a for over an iterator that is its own, by an invariant with a falling number -/
theorem mfor {v : Str} {px pos : Pos} {iter : Expr} {body : List Stmt} {Q : Flow → Shared → Prop} (it : Addr) (I : Nat → Shared → Prop)
    (h : wpAny (model prog w) A (eval iter env) (fun xv s₁ => wpAny (model prog w) A (pyIter xv) (fun r s₂ => r = .ref it ∧ ∃ n, I n s₂) E s₁) E s)
    (turn : ∀ k s', I k s' → wpAny (model prog w) A (pyNext (.ref it)) (OwitTurn prog w A E env v body Q (MfLess I k)) E s')
    (hs : ∀ x, foldedSetIterable iter env x = pure x := by intro _; rfl) (hE : PassesOwn (model prog w) A env E := by passes_own) :
    wpAny (model prog w) A (exec (.For (.Name v px) iter body [] pos) env) Q E s := by
  refine wpAny_For (wpAny_mono h (fun xv s₁ h₁ => wpAny_mono h₁ (fun r s₂ h₂ => ?_) fun _ _ z => z) fun _ _ z => z) hs
  obtain ⟨rfl, n, h₂⟩ := h₂
  refine codeAny_forLoop (R := fun r s' => match r with | .ok f => Q f s' | .error e => cameBackBy (model prog w) A env E e s') (fun k s' => I k s') ?_ n h₂
  intro k s' hk
  refine wpAny_passesOwn hE (wpAny_mono (turn k s' hk) (fun r s₁ hr => ?_) fun _ _ z => z)
  cases r with
  | none => exact wpAny_execs_nil hr
  | some y =>
    refine wpAny_passesOwn hE (wpAny_assign_Name (wpAny_mono hr (fun _ s₂ h₂ => ?_) fun _ _ z => z))
    refine wpAny_passesOwn hE (wpAny_mono h₂ (fun f s₃ h₃ => ?_) fun _ _ z => z)
    cases f with
    | next => exact (h₃ : MfLess I k _).h
    | cont => exact (h₃ : MfLess I k _).h
    | brk => exact h₃
    | ret _ => exact h₃
theorem owitTurn_none {v : Str} {body : List Stmt} {Q : Flow → Shared → Prop} {rest : Shared → Prop} (h : Q .next s) : OwitTurn prog w A E env v body Q rest none s := h
theorem owitTurn_some {v : Str} {body : List Stmt} {Q : Flow → Shared → Prop} {rest : Shared → Prop} {y : Value} (h : wpAny (model prog w) A (storeName env v y) (fun _ s₂ => wpAny (model prog w) A (execs body env) (OwitFlow Q rest) E s₂) E s) : OwitTurn prog w A E env v body Q rest (some y) s := h
end
/-- a frame's map with token and ch laid over -/
noncomputable abbrev ovl (m : Str → Option Value) (tv cv : Option Value) : Str → Option Value := fun y => if y = Str.ofString "token" then tv else if y = Str.ofString "ch" then cv else m y
theorem ch_ne_tok : ¬ (Str.ofString "ch" = Str.ofString "token") := by decide
theorem ovl_self (m : Str → Option Value) : m = ovl m (m (Str.ofString "token")) (m (Str.ofString "ch")) := by
  funext y
  show m y = if y = Str.ofString "token" then m (Str.ofString "token") else if y = Str.ofString "ch" then m (Str.ofString "ch") else m y
  by_cases h1 : y = Str.ofString "token"
  · rw [if_pos h1, h1]
  · by_cases h2 : y = Str.ofString "ch"
    · rw [if_neg h1, if_pos h2, h2]
    · rw [if_neg h1, if_neg h2]
theorem ovl_ch (m : Str → Option Value) (tv cv v : Option Value) : (fun y => if y = Str.ofString "ch" then v else ovl m tv cv y) = ovl m tv v := by
  funext y
  show (if y = Str.ofString "ch" then v else if y = Str.ofString "token" then tv else if y = Str.ofString "ch" then cv else m y) = if y = Str.ofString "token" then tv else if y = Str.ofString "ch" then v else m y
  by_cases h2 : y = Str.ofString "ch"
  · rw [if_pos h2, if_neg (by rw [h2]; exact ch_ne_tok), if_pos h2]
  · rw [if_neg h2, if_neg h2, if_neg h2]
theorem ovl_tok (m : Str → Option Value) (tv cv v : Option Value) : (fun y => if y = Str.ofString "token" then v else ovl m tv cv y) = ovl m v cv := by
  funext y
  show (if y = Str.ofString "token" then v else if y = Str.ofString "token" then tv else if y = Str.ofString "ch" then cv else m y) = if y = Str.ofString "token" then v else if y = Str.ofString "ch" then cv else m y
  by_cases h2 : y = Str.ofString "token"
  · rw [if_pos h2, if_pos h2]
  · rw [if_neg h2, if_neg h2, if_neg h2]
theorem ovl_tokch (m : Str → Option Value) (tv cv v c : Option Value) : (fun y => if y = Str.ofString "token" then v else if y = Str.ofString "ch" then c else ovl m tv cv y) = ovl m v c := by
  have h : (fun y => if y = Str.ofString "token" then v else if y = Str.ofString "ch" then c else ovl m tv cv y) = (fun y => if y = Str.ofString "token" then v else (fun y => if y = Str.ofString "ch" then c else ovl m tv cv y) y) := rfl
  rw [h, ovl_ch, ovl_tok]
theorem ovl_tokch2 (m : Str → Option Value) (tv cv v c c2 : Option Value) : (fun y => if y = Str.ofString "token" then v else if y = Str.ofString "ch" then c else if y = Str.ofString "ch" then c2 else ovl m tv cv y) = ovl m v c := by
  have h : (fun y => if y = Str.ofString "token" then v else if y = Str.ofString "ch" then c else if y = Str.ofString "ch" then c2 else ovl m tv cv y) = (fun y => if y = Str.ofString "token" then v else if y = Str.ofString "ch" then c else (fun y => if y = Str.ofString "ch" then c2 else ovl m tv cv y) y) := rfl
  rw [h, ovl_ch, ovl_tokch]
theorem Fr.cast' {h₀ h : Heap} {L : Addr} {m m' : Str → Option Value} (F : Fr h₀ L h m) (e : m = m') : Fr h₀ L h m' := e ▸ F
end

section
theorem ins_arr (its : List Value) (k : Nat) (hk : k ≤ its.length) (y : Value) :
    (fun xs : Array Value => let j := if ((k : Nat) : Int) < 0 then (((k : Nat) : Int) + xs.size).toNat else min ((k : Nat) : Int).toNat xs.size; (xs.extract 0 j).push y ++ xs.extract j xs.size) its.toArray = (its.take k ++ y :: its.drop k).toArray := by
  have h1 : ¬ ((k : Nat) : Int) < 0 := by omega
  dsimp only
  rw [if_neg h1]
  have h2 : min ((k : Nat) : Int).toNat its.toArray.size = k := by rw [List.size_toArray, Int.toNat_natCast]; omega
  rw [h2]
  apply Array.ext'
  simp
  rw [List.take_of_length_le (by simp)]
section
variable {prog : Program} {w : World} {A : Around} {E : Value → Shared → Prop} {s : Shared} {L D : Addr} {h₀ : Heap} {m : Str → Option Value} {news news' : List (Addr × Obj)} {n : Nat}
theorem ins_K {its : List Value} {i : Int} {u : Tok} {y : Value} {k : Nat} {Q : Value → Shared → Prop} (F : Fr h₀ L s.heap m) (N : News h₀ L s.heap news) (hik : i = (k : Int)) (hk : k ≤ its.length)
    (U : Upd D (W.listOf its.toArray n) (W.listOf (its.take k ++ y :: its.drop k).toArray (n + 1)) news news') (hz : its.length ≤ 1000)
    (h : ∀ h', Fr h₀ L h' m → News h₀ L h' news' → Q .none { s with heap := h' }) : wpAny (model prog w) A (call (.builtin "list.insert") [.ref D, .int i u, y]) Q E s := by
  obtain ⟨pre, post, rfl, rfl, a, b⟩ := U.split
  have z := N (D, W.listOf its.toArray n) (List.mem_append.mpr (.inr (.head _)))
  have hf : ¬ (!Builtin.List.listFitsIndex i) = true := by
    simp [Builtin.List.listFitsIndex]
    omega
  have hsz : its.toArray.size ≤ sizeLine := by rw [List.size_toArray, sizeLine_eq]; omega
  have hm := PySem.AutoSeq1.list_insert_list_int_val_1 D its.toArray n i u y hf hsz
  refine call_meets PySem.F.slot_list_insert ⟨_, z.1, rfl⟩ PySem.F.entry_list_insert (PySem.F.args_list_insert_3 _ _ _) hm ?_
  refine ⟨z.1, ?_⟩
  refine h _ (F.change (Heap.SameBut.update ..) z.2.1 z.2.2) (kl_turn _ N a b (by rw [hik]; exact ins_arr its k hk y) ?_)
  rw [List.size_toArray, List.size_toArray, List.length_append, List.length_cons, List.length_take, List.length_drop]
  omega
end
/-- sorted insertion behind its equals -/
noncomputable def insR (x : Int) (ns : List Int) : List Int := ns.take (ns.countP fun a => decide (a ≤ x)) ++ x :: ns.drop (ns.countP fun a => decide (a ≤ x))
theorem ints_ins {its : List Value} {ns : List Int} (hi : IntsAre its ns) (k : Nat) (x : Int) (t : Tok) : IntsAre (its.take k ++ .int x t :: its.drop k) (ns.take k ++ x :: ns.drop k) :=
  (hi.take k).append (.cons x t (hi.drop k))
end

section
/-- the walk stops here, for a step by hand -/
structure Halt (P : Prop) : Prop where
  h : P
section
variable {prog : Program} {w : World} {A : Around} {E : Value → Shared → Prop} {s : Shared} {env : Env} {g : Heap}
/-- a turn's end: the frame, the ledger with the iterator as it stood, the invariant for the next turn -/
inductive LEndI (g : Heap) (L I : Addr) (o : Obj) (J : Nat → (Str → Option Value) → List (Addr × Obj) → Prop) (i : Nat) (s0 s : Shared) : Prop
  | mk (h' : Heap) (tk' : Nat) (m' : Str → Option Value) (nx : List (Addr × Obj)) : s = { s0 with heap := h', toks := tk' } → Fr g L h' m' → News g L h' ((I, o) :: nx) → (∀ p ∈ nx, p.1 ≠ I) → J i m' nx → LEndI g L I o J i s0 s
structure LEnd (g : Heap) (L I : Addr) (o : Obj) (J : Nat → (Str → Option Value) → List (Addr × Obj) → Prop) (i : Nat) (s0 s : Shared) : Prop where
  h : LEndI g L I o J i s0 s
inductive Iv (g : Heap) (L I : Addr) (s : Shared) (n : Nat) (St : Addr → Nat → Heap → Prop) (J : Nat → (Str → Option Value) → List (Addr × Obj) → Prop) (k : Nat) (s' : Shared) : Prop
  | mk (i : Nat) (m₁ : Str → Option Value) (o : Obj) (nx : List (Addr × Obj)) (h : Heap) (tk : Nat) : k = n - i → i ≤ n → s' = { s with heap := h, toks := tk } → Fr g L h m₁ → News g L h ((I, o) :: nx) → (∀ p ∈ nx, p.1 ≠ I) → St I i h → J i m₁ nx → Iv g L I s n St J k s'
inductive StartF (g : Heap) (L : Addr) (s : Shared) (St : Addr → Nat → Heap → Prop) (J : Nat → (Str → Option Value) → List (Addr × Obj) → Prop) (r : Value) (s₂ : Shared) : Prop
  | mk (I : Addr) (m : Str → Option Value) (o : Obj) (nx : List (Addr × Obj)) (h : Heap) (tk : Nat) : r = .ref I → s₂ = { s with heap := h, toks := tk } → Fr g L h m → News g L h ((I, o) :: nx) → (∀ p ∈ nx, p.1 ≠ I) → St I 0 h → J 0 m nx → StartF g L s St J r s₂
inductive StartL (g : Heap) (L l : Addr) (s : Shared) (J : Nat → (Str → Option Value) → List (Addr × Obj) → Prop) (xv : Value) (s₁ : Shared) : Prop
  | mk (m : Str → Option Value) (nx : List (Addr × Obj)) (h : Heap) (tk : Nat) : xv = .ref l → s₁ = { s with heap := h, toks := tk } → Fr g L h m → News g L h nx → J 0 m nx → StartL g L l s J xv s₁
inductive StartR (g : Heap) (L : Addr) (a : Int) (n : Nat) (J : Nat → (Str → Option Value) → List (Addr × Obj) → Prop) (s : Shared) (xv : Value) (s₁ : Shared) : Prop
  | mk (r : Addr) (b : Int) (t u v : Tok) (m : Str → Option Value) (nx : List (Addr × Obj)) (h : Heap) (tk : Nat) : xv = .ref r → s₁ = { s with heap := h, toks := tk } → IsRange h r a b 1 t u v → Builtin.Range.small a b 1 = true →
      Builtin.Range.rangeSize a b 1 = (n : Int) → Fr g L h m → News g L h nx → J 0 m nx → StartR g L a n J s xv s₁
theorem lfor {x : Str} {px pos : Pos} {iter : Expr} {body : List Stmt} {Q : Flow → Shared → Prop} {n : Nat} {fp : Addr → List Addr} {P : Nat → Value → Prop} {St : Addr → Nat → Heap → Prop} {keep : List (Addr × Obj)}
    (J : Nat → (Str → Option Value) → List (Addr × Obj) → Prop) (hx : env.kindOf x = some .local) (hkf : env.scope.kind = .function)
    (W : ∀ I, (∀ p ∈ keep, p.1 ≠ I) → Walks prog w A I (fp I) [I] n P (St I)) (hat : ∀ I i h, St I i h → ∃ o, h.get? I = some o) (hfp : ∀ I, ∀ b ∈ fp I, b = I ∨ ∃ p ∈ keep, p.1 = b) (hneed : ∀ i m nx, J i m nx → ∀ p ∈ keep, p ∈ nx)
    (h : wpAny (model prog w) A (eval iter env) (fun xv s₁ => wpAny (model prog w) A (pyIter xv) (fun r s₂ => StartF g env.locals s St J r s₂) E s₁) E s)
    (turn : ∀ i v m₁ nx h tk I o, i < n → P i v → J i m₁ nx → (∀ p ∈ nx, p.1 ≠ I) → Fr g env.locals h (fun y => if y = x then some v else m₁ y) → News g env.locals h ((I, o) :: nx) →
      wpAny (model prog w) A (execs body env) (OwitFlow Q (LEnd g env.locals I o J (i + 1) s)) E { s with heap := h, toks := tk })
    (done : ∀ m₁ nx h tk, J n m₁ nx → Fr g env.locals h m₁ → News g env.locals h nx → Q .next { s with heap := h, toks := tk })
    (hs : ∀ x, foldedSetIterable iter env x = pure x := by intro _; rfl) (hE : PassesOwn (model prog w) A env E := by passes_own) :
    wpAny (model prog w) A (exec (.For (.Name x px) iter body [] pos) env) Q E s := by
  refine wpAny_For (wpAny_mono h (fun xv s₁ h₁ => wpAny_mono h₁ (fun r s₂ h₂ => ?_) fun _ _ z => z) fun _ _ z => z) hs
  obtain ⟨I, m, o, nx, hp, tk, rfl, rfl, F, N, off, st, hJ⟩ := h₂
  have wk := W I fun p hp' => off p (hneed _ _ _ hJ p hp')
  refine codeAny_forLoop (R := fun r s' => match r with | .ok f => Q f s' | .error e => cameBackBy (model prog w) A env E e s')
    (Iv g env.locals I s n St J) ?_ n ⟨0, m, o, nx, hp, tk, rfl, Nat.zero_le _, rfl, F, N, off, st, hJ⟩
  rintro k s' ⟨i, m₁, o, nx, h, tk, rfl, hin, rfl, F, N, off, st, hJ⟩
  have hLI : env.locals ≠ I := Ne.symm (N _ (.head _)).2.1
  have hgI : g.get? I = none := (N _ (.head _)).2.2
  by_cases hlt : i < n
  · refine wpAny_passesOwn hE (wk.item i _ _ _ hlt st fun v h' tk' hP st' hk => ?_)
    obtain ⟨o', ho'⟩ := hat _ _ _ st'
    have F' : Fr g env.locals h' m₁ := ⟨F.ns.at' fun ob e => hk _ _ (by simpa using hLI) e, fun b ob e => hk b ob (by
      simp only [List.mem_singleton]; intro z; subst z; rw [hgI] at e; cases e) (F.keep b ob e), F.above⟩
    have N' : News g env.locals h' ((I, o') :: nx) := fun p hp => by
      rcases List.mem_cons.mp hp with rfl | hp
      · exact ⟨ho', (N _ (.head _)).2⟩
      · exact ⟨hk _ _ (by simpa using off p hp) (N p (.tail _ hp)).1, (N p (.tail _ hp)).2⟩
    refine wpAny_passesOwn hE (wpAny_assign_Name (wpAny_storeName_local hx F'.ns (fun h'' hn hsb => ?_) (by rw [hkf]; rfl)))
    have F'' := F'.set hn hsb
    have N'' := N'.set hsb
    have st'' : St I (i + 1) h'' := by
      refine wk.frame _ _ _ st' fun b hb ob e => ?_
      rcases hfp I b hb with rfl | ⟨p, hp, rfl⟩
      · exact (hsb.2 _ (Ne.symm hLI)).trans e
      · exact (hsb.2 _ (N' p (.tail _ (hneed _ _ _ hJ p hp))).2.1).trans e
    refine wpAny_passesOwn hE (wpAny_mono (turn i v m₁ nx h'' (tk' + 1) I o' hlt hP hJ off F'' N'') (fun f s₃ h₃ => ?_) fun _ _ z => z)
    have fin : LEnd g env.locals I o' J (i + 1) s s₃ → ∃ m, m < n - i ∧ Iv g env.locals I s n St J m s₃ := by
      rintro ⟨⟨h3, tk3, m3, nx3, rfl, F3, N3, off3, hJ3⟩⟩
      refine ⟨n - (i + 1), by omega, i + 1, m3, o', nx3, h3, tk3, rfl, hlt, rfl, F3, N3, off3, ?_, hJ3⟩
      refine wk.frame _ _ _ st'' fun b hb ob e => ?_
      rcases hfp I b hb with rfl | ⟨p, hp, rfl⟩
      · have e1 := (N'' _ (.head _)).1
        dsimp only at e1
        rw [e1] at e
        rw [← e]
        exact (N3 _ (.head _)).1
      · have e1 := (N'' _ (.tail _ (hneed _ _ _ hJ p hp))).1
        rw [e1] at e
        rw [← e]
        exact (N3 _ (.tail _ (hneed _ _ _ hJ3 p hp))).1
    cases f with
    | next => exact fin h₃
    | cont => exact fin h₃
    | brk => exact h₃
    | ret _ => exact h₃
  · have hi : i = n := by omega
    subst hi
    refine wpAny_passesOwn hE (wk.done _ _ _ st fun h' tk' hk => wpAny_execs_nil ?_)
    refine done m₁ nx h' tk' hJ ⟨F.ns.at' fun ob e => hk _ _ (by simpa using hLI) e, fun b ob e => hk b ob (by
      simp only [List.mem_singleton]; intro z; subst z; rw [hgI] at e; cases e) (F.keep b ob e), F.above⟩ (fun p hp => ?_)
    exact ⟨hk _ _ (by simpa using off p hp) (N p (.tail _ hp)).1, (N p (.tail _ hp)).2⟩
end
section
variable {prog : Program} {w : World} {A : Around} {E : Value → Shared → Prop} {s : Shared} {env : Env} {g : Heap}
theorem wk_list (hh : A.handled = none) (l : Addr) (vs : List Value) (nn : Nat) : ∀ I, (∀ p ∈ [(l, W.listOf vs.toArray nn)], p.1 ≠ I) →
    Walks prog w A I [I, l] [I] vs.length (fun i v => vs[i]? = some v) (fun i h => h.IsListIter I l i ∧ h.IsList l vs.toArray) := fun I hI => by
  have h := Walks.list (prog := prog) (w := w) hh I l (hI _ (.head _)) vs.toArray
  have e : vs.toArray.size = vs.length := List.size_toArray ..
  rw [e] at h
  have e2 : (fun (i : Nat) (v : Value) => vs.toArray[i]? = some v) = fun i v => vs[i]? = some v := by funext i v; rw [List.getElem?_toArray]
  rw [← e2]; exact h
theorem lforList {x : Str} {px pos : Pos} {iter : Expr} {body : List Stmt} {Q : Flow → Shared → Prop} (l : Addr) (vs : List Value) (nn : Nat)
    (J : Nat → (Str → Option Value) → List (Addr × Obj) → Prop) (hh : A.handled = none) (hx : env.kindOf x = some .local) (hkf : env.scope.kind = .function)
    (hneed : ∀ i m nx, J i m nx → (l, W.listOf vs.toArray nn) ∈ nx)
    (h : wpAny (model prog w) A (eval iter env) (fun xv s₁ => Halt (StartL g env.locals l s J xv s₁)) E s)
    (turn : ∀ i v m₁ nx h tk I o, i < vs.length → vs[i]? = some v → J i m₁ nx → (∀ p ∈ nx, p.1 ≠ I) → Fr g env.locals h (fun y => if y = x then some v else m₁ y) → News g env.locals h ((I, o) :: nx) →
      wpAny (model prog w) A (execs body env) (OwitFlow Q (LEnd g env.locals I o J (i + 1) s)) E { s with heap := h, toks := tk })
    (done : ∀ m₁ nx h tk, J vs.length m₁ nx → Fr g env.locals h m₁ → News g env.locals h nx → Q .next { s with heap := h, toks := tk })
    (hs : ∀ x, foldedSetIterable iter env x = pure x := by intro _; rfl) (hE : PassesOwn (model prog w) A env E := by passes_own) :
    wpAny (model prog w) A (exec (.For (.Name x px) iter body [] pos) env) Q E s := by
  refine lfor (n := vs.length) (fp := fun I => [I, l]) (P := fun i v => vs[i]? = some v) (St := fun I i h => h.IsListIter I l i ∧ h.IsList l vs.toArray) (keep := [(l, W.listOf vs.toArray nn)]) J hx hkf (wk_list hh l vs nn)
    (fun I i h st => by obtain ⟨⟨o, ho, _⟩, _⟩ := st; exact ⟨o, ho⟩)
    (fun I b hb => by
      rcases List.mem_cons.mp hb with rfl | hb
      · exact .inl rfl
      · exact .inr ⟨_, .head _, (List.mem_singleton.mp hb).symm⟩)
    (fun i m nx hJ p hp => by rw [List.mem_singleton.mp hp]; exact hneed i m nx hJ) ?_ turn done hs hE
  refine wpAny_mono h (fun xv s₁ h₁ => ?_) fun _ _ z => z
  obtain ⟨m, nx, hp, tk, rfl, rfl, F, N, hJ⟩ := h₁.h
  have hl := (N _ (hneed _ _ _ hJ)).1
  have hls : hp.IsList l vs.toArray := ⟨_, hl, rfl, nn, rfl⟩
  refine wpAny_pyIter_list hls ?_
  refine ⟨_, m, _, nx, _, tk, rfl, rfl, F.push _, N.push F _, fun p hp' => Nat.ne_of_lt (Heap.lt_size (N p hp').1), ⟨⟨_, Heap.get?_push_size _ rfl, rfl, rfl⟩, hls.at fun o e => Heap.get?_push_of_some _ e⟩, hJ⟩
theorem lforRange {x : Str} {px pos : Pos} {iter : Expr} {body : List Stmt} {Q : Flow → Shared → Prop} (a : Int) (n : Nat)
    (J : Nat → (Str → Option Value) → List (Addr × Obj) → Prop) (hh : A.handled = none) (hx : env.kindOf x = some .local) (hkf : env.scope.kind = .function)
    (h : wpAny (model prog w) A (eval iter env) (fun xv s₁ => Halt (StartR g env.locals a n J s xv s₁)) E s)
    (turn : ∀ i t m₁ nx h tk I o, i < n → J i m₁ nx → (∀ p ∈ nx, p.1 ≠ I) → Fr g env.locals h (fun y => if y = x then some (.int (a + (i : Nat)) t) else m₁ y) → News g env.locals h ((I, o) :: nx) →
      wpAny (model prog w) A (execs body env) (OwitFlow Q (LEnd g env.locals I o J (i + 1) s)) E { s with heap := h, toks := tk })
    (done : ∀ m₁ nx h tk, J n m₁ nx → Fr g env.locals h m₁ → News g env.locals h nx → Q .next { s with heap := h, toks := tk })
    (hs : ∀ x, foldedSetIterable iter env x = pure x := by intro _; rfl) (hE : PassesOwn (model prog w) A env E := by passes_own) :
    wpAny (model prog w) A (exec (.For (.Name x px) iter body [] pos) env) Q E s := by
  refine lfor (n := n) (fp := fun I => [I]) (P := fun i v => ∃ t, v = .int (a + i * 1) t) (St := fun I i h => IsRangeIter h I (a + (i : Nat) * 1) ((n : Int) - (i : Nat)) 1) (keep := []) J hx hkf (fun I _ => Walks.range hh I a 1 n)
    (fun I i h st => ⟨_, st⟩) (fun I b hb => .inl (List.mem_singleton.mp hb)) (fun _ _ _ _ _ hp => nomatch hp) ?_ (fun i v m₁ nx h tk I o hi hP hJ off F N => ?_) done hs hE
  · refine wpAny_mono h (fun xv s₁ h₁ => ?_) fun _ _ z => z
    obtain ⟨r, b, t, u, v, m, nx, hp, tk, rfl, rfl, hr, hsm, hn, F, N, hJ⟩ := h₁.h
    refine wpAny_pyIter_range hr hsm ?_
    refine ⟨_, m, _, nx, _, tk, rfl, rfl, F.push _, N.push F _, fun p hp' => Nat.ne_of_lt (Heap.lt_size (N p hp').1), ?_, hJ⟩
    show IsRangeIter _ _ _ _ _
    rw [hn]
    simpa using Heap.get?_push_size _ rfl
  · obtain ⟨t, rfl⟩ := hP
    rw [Int.mul_one] at F
    exact turn i t m₁ nx h tk I o hi hJ off F N
end
end

section
/-- the letters of a number to the base 16, with fuel -/
noncomputable def hxF : Nat → Nat → List Nat
  | 0, _ => []
  | k + 1, n => if n = 0 then [] else hxF k (n / 16) ++ [65 + n % 16]
/-- the letters of a number to the base 16 -/
noncomputable def hx (n : Nat) : List Nat := hxF n n
theorem hxF_eq : ∀ (k j n : Nat), n ≤ k → n ≤ j → hxF k n = hxF j n
  | 0, 0, _, _, _ => rfl
  | 0, j + 1, n, h, _ => by
    have : n = 0 := Nat.le_zero.mp h
    subst this; rfl
  | k + 1, 0, n, _, h => by
    have : n = 0 := Nat.le_zero.mp h
    subst this; rfl
  | k + 1, j + 1, n, h, h' => by
    show (if n = 0 then [] else hxF k (n / 16) ++ [65 + n % 16]) = (if n = 0 then [] else hxF j (n / 16) ++ [65 + n % 16])
    by_cases h0 : n = 0
    · rw [if_pos h0, if_pos h0]
    · have hd := Nat.div_lt_self (Nat.pos_of_ne_zero h0) (show 1 < 16 by decide)
      rw [hxF_eq k j (n / 16) (Nat.le_of_lt_succ (Nat.lt_of_lt_of_le hd h)) (Nat.le_of_lt_succ (Nat.lt_of_lt_of_le hd h'))]
theorem hx_zero : hx 0 = [] := rfl
theorem hx_pos {n : Nat} (h : 0 < n) : hx n = hx (n / 16) ++ [65 + n % 16] := by
  cases n with
  | zero => exact absurd h (Nat.lt_irrefl _)
  | succ k =>
    show (if k + 1 = 0 then [] else hxF k ((k + 1) / 16) ++ [65 + (k + 1) % 16]) = _
    rw [if_neg (Nat.succ_ne_zero k), hxF_eq k ((k + 1) / 16) _ (Nat.le_of_lt_succ (Nat.div_lt_self (Nat.succ_pos k) (by decide))) (Nat.le_refl _)]; rfl
theorem hx_len : ∀ (k n : Nat), n < 16 ^ k → (hx n).length ≤ k
  | 0, n, h => by
    have : n = 0 := by simp at h; exact h
    subst this; rw [hx_zero]; exact Nat.le_refl _
  | k + 1, n, h => by
    by_cases h0 : n = 0
    · subst h0; rw [hx_zero]; exact Nat.zero_le _
    · rw [hx_pos (by omega), List.length_append]
      have := hx_len k (n / 16) (by rw [Nat.pow_succ] at h; omega)
      simp only [List.length_cons, List.length_nil]
      omega
theorem hx_mem : ∀ (n : Nat), ∀ c ∈ hx n, 65 ≤ c ∧ c ≤ 80 := by
  intro n
  induction n using Nat.strongRecOn with
  | ind n ih =>
    intro c hc
    by_cases h0 : n = 0
    · subst h0; rw [hx_zero] at hc; cases hc
    · rw [hx_pos (by omega)] at hc
      rcases List.mem_append.mp hc with hc | hc
      · exact ih (n / 16) (by omega) c hc
      · simp only [List.mem_cons, List.not_mem_nil, or_false] at hc
        omega
theorem hx_ne {n : Nat} (h : 0 < n) : hx n ≠ [] := by rw [hx_pos h]; simp
theorem fdm16 (N : Int) (h : 0 ≤ N) : N.fdiv 16 = ((N.natAbs / 16 : Nat) : Int) ∧ N.fmod 16 = ((N.natAbs % 16 : Nat) : Int) := by
  obtain ⟨n, rfl⟩ := Int.eq_ofNat_of_zero_le h
  have h1 : (n : Int).fdiv 16 = (n : Int) / 16 := Int.fdiv_eq_ediv_of_nonneg _ (by decide)
  have h2 : (n : Int).fmod 16 = (n : Int) % 16 := Int.fmod_eq_emod_of_nonneg _ (by decide)
  rw [h1, h2]
  constructor <;> simp
theorem hx_step {v N : Nat} {t : List Nat} (h : hx v = hx N ++ t) (hN : 0 < N) : hx v = hx (N / 16) ++ ((65 + N % 16) :: t) := by
  rw [h, hx_pos hN, List.append_assoc]; rfl
theorem apbytes : ∀ m : Nat, m < 16 → KBy.picked #[65, 66, 67, 68, 69, 70, 71, 72, 73, 74, 75, 76, 77, 78, 79, 80] (some (m : Int)) (some ((m : Int) + 1)) = #[UInt8.ofNat (65 + m)] := by decide +kernel
theorem apitem : ∀ m : Nat, m < 16 → Txt.item (Str.ofString "ABCDEFGHIJKLMNOP") (m : Int) = ⟨#[65 + m]⟩ := by decide +kernel
theorem ap_start (v : Int) (hv : v.natAbs < 16 ^ 6) : (0 ≤ if v < 0 then -v else v) ∧ (if v < 0 then -v else v).natAbs < 16 ^ 6 ∧ (#[] : Array UInt8).size ≤ 6 ∧ hx v.natAbs = hx (if v < 0 then -v else v).natAbs ++ List.map (fun x => UInt8.toNat x) [] := by
  split
  · refine ⟨by omega, by omega, by decide, ?_⟩
    rw [List.map_nil, List.append_nil, Int.natAbs_neg]
  · refine ⟨by omega, by omega, by decide, ?_⟩
    rw [List.map_nil, List.append_nil]
theorem ap_turn {v N : Int} {b : Array UInt8} (hv : v.natAbs < 16 ^ 6) (h : 0 ≤ N ∧ N.natAbs < 16 ^ 6 ∧ b.size ≤ 6 ∧ hx v.natAbs = hx N.natAbs ++ b.toList.map (fun x => UInt8.toNat x)) (hN : N ≠ 0) :
    0 ≤ N.fdiv 16 ∧ (N.fdiv 16).natAbs < 16 ^ 6 ∧ (KBy.picked #[65, 66, 67, 68, 69, 70, 71, 72, 73, 74, 75, 76, 77, 78, 79, 80] (some (N.fmod 16)) (some (N.fmod 16 + 1)) ++ b).size ≤ 6 ∧
      hx v.natAbs = hx (N.fdiv 16).natAbs ++ List.map (fun x => UInt8.toNat x) (KBy.picked #[65, 66, 67, 68, 69, 70, 71, 72, 73, 74, 75, 76, 77, 78, 79, 80] (some (N.fmod 16)) (some (N.fmod 16 + 1)) ++ b).toList := by
  obtain ⟨h0, h1, h2, h3⟩ := h
  obtain ⟨e1, e2⟩ := fdm16 N h0
  have hp : 0 < N.natAbs := by omega
  have h4 := hx_step h3 hp
  have hm : N.natAbs % 16 < 16 := Nat.mod_lt _ (by decide)
  rw [e1, e2, apbytes _ hm]
  have h5 : hx v.natAbs = hx ((N.natAbs / 16 : Nat) : Int).natAbs ++ List.map (fun x => UInt8.toNat x) (#[UInt8.ofNat (65 + N.natAbs % 16)] ++ b).toList := by
    rw [h4]
    simp only [Int.natAbs_natCast, Array.toList_append, List.map_append, List.map_cons, List.map_nil, List.cons_append, List.nil_append]
    have : (UInt8.ofNat (65 + N.natAbs % 16)).toNat = 65 + N.natAbs % 16 := by simp [UInt8.toNat_ofNat', Nat.mod_eq_of_lt (show 65 + N.natAbs % 16 < 256 by omega)]
    rw [this]
  refine ⟨by omega, by simp only [Int.natAbs_natCast]; omega, ?_, h5⟩
  have h6 : (hx v.natAbs).length = (hx ((N.natAbs / 16 : Nat) : Int).natAbs).length + (#[UInt8.ofNat (65 + N.natAbs % 16)] ++ b).size := (congrArg List.length h5).trans (by rw [List.length_append, List.length_map, Array.length_toList (xs := #[UInt8.ofNat (65 + N.natAbs % 16)] ++ b)])
  have h7 := hx_len 6 _ hv
  clear h5 h4 h3
  generalize (#[UInt8.ofNat (65 + N.natAbs % 16)] ++ b).size = z at *
  omega
theorem fd_less {N : Int} (h0 : 0 ≤ N) (hN : N ≠ 0) : (N.fdiv 16).natAbs < N.natAbs := by
  rw [(fdm16 N h0).1, Int.natAbs_natCast]
  omega
theorem ap_end2 {v N : Int} {b : Array UInt8} (hz : N = 0) (h : hx v.natAbs = hx N.natAbs ++ b.toList.map (fun x => UInt8.toNat x)) : ((hx v.natAbs).map UInt8.ofNat).toArray = b := by
  subst hz
  rw [h, Int.natAbs_zero, hx_zero, List.nil_append, List.map_map]
  have : (UInt8.ofNat ∘ fun x : UInt8 => x.toNat) = id := by funext x; simp
  rw [this, List.map_id]
theorem wd_end2 {v N : Int} {x : Str} (hN : ¬ 0 < N) (h0 : 0 ≤ N) (h : hx v.natAbs = hx N.natAbs ++ sg x) : (⟨(hx v.natAbs).toArray⟩ : Str) = x := by
  have : N = 0 := by omega
  subst this
  rw [h, Int.natAbs_zero, hx_zero, List.nil_append]
theorem wd_start (v : Int) (h0 : 0 ≤ v) (hv : v.natAbs < 16 ^ 6) : 0 ≤ v ∧ v.natAbs < 16 ^ 6 ∧ (Str.ofString "").length ≤ 6 ∧ hx v.natAbs = hx v.natAbs ++ sg (Str.ofString "") :=
  ⟨h0, hv, by decide, by rw [show sg (Str.ofString "") = [] from by decide, List.append_nil]⟩
theorem wd_turn {v N : Int} {x : Str} (hv : v.natAbs < 16 ^ 6) (h : 0 ≤ N ∧ N.natAbs < 16 ^ 6 ∧ x.length ≤ 6 ∧ hx v.natAbs = hx N.natAbs ++ sg x) (hN : 0 < N) :
    0 ≤ N.fdiv 16 ∧ (N.fdiv 16).natAbs < 16 ^ 6 ∧ (Txt.item (Str.ofString "ABCDEFGHIJKLMNOP") (N.fmod 16) ++ x).length ≤ 6 ∧
      hx v.natAbs = hx (N.fdiv 16).natAbs ++ sg (Txt.item (Str.ofString "ABCDEFGHIJKLMNOP") (N.fmod 16) ++ x) := by
  obtain ⟨h0, h1, h2, h3⟩ := h
  obtain ⟨e1, e2⟩ := fdm16 N h0
  have hp : 0 < N.natAbs := by omega
  have h4 := hx_step h3 hp
  have hm : N.natAbs % 16 < 16 := Nat.mod_lt _ (by decide)
  rw [e1, e2, apitem _ hm]
  have h5 : hx v.natAbs = hx ((N.natAbs / 16 : Nat) : Int).natAbs ++ sg ((⟨#[65 + N.natAbs % 16]⟩ : Str) ++ x) := by
    rw [h4]
    simp only [Int.natAbs_natCast, sg, Str.cps_append, Array.toList_append, List.cons_append, List.nil_append]
  refine ⟨by omega, by simp only [Int.natAbs_natCast]; omega, ?_, h5⟩
  have h6 := congrArg List.length h5
  have h7 := hx_len 6 _ hv
  rw [List.length_append] at h6
  have h8 : ((⟨#[65 + N.natAbs % 16]⟩ : Str) ++ x).length = (sg ((⟨#[65 + N.natAbs % 16]⟩ : Str) ++ x)).length := by simp [sg, Str.length]
  omega
end

section
/-- how many there are of a kind that comes first -/
noncomputable def cntLt (x : Int) (ns : List Int) : Nat := ns.countP fun a => decide (a < x)
noncomputable def cntLe (x : Int) (ns : List Int) : Nat := ns.countP fun a => decide (a ≤ x)
noncomputable def PL (x : Int) (a : Int) : Bool := decide (a < x)
noncomputable def PR (x : Int) (a : Int) : Bool := decide (a ≤ x)
noncomputable abbrev BInv (p : Int → Bool) (ns : List Int) (lo hi : Int) : Prop :=
  0 ≤ lo ∧ lo ≤ hi ∧ hi ≤ (ns.length : Int) ∧ (∀ i : Nat, (i : Int) < lo → p (ns.getD i 0) = true) ∧ (∀ i : Nat, hi ≤ (i : Int) → i < ns.length → p (ns.getD i 0) = false)
theorem sorted_getD {ns : List Int} (hs : ns.Pairwise (· ≤ ·)) {i j : Nat} (hij : i ≤ j) (hj : j < ns.length) : ns.getD i 0 ≤ ns.getD j 0 := by
  rcases Nat.lt_or_eq_of_le hij with h | h
  · have h1 := (List.pairwise_iff_getElem.mp hs) i j (by omega) hj h
    simpa [List.getD_eq_getElem?_getD, List.getElem?_eq_getElem (show i < ns.length by omega), List.getElem?_eq_getElem hj] using h1
  · subst h; exact Int.le_refl _
theorem fd2 {lo hi : Int} (h0 : 0 ≤ lo) (h : lo < hi) : lo ≤ (lo + hi).fdiv 2 ∧ (lo + hi).fdiv 2 < hi := by
  have : (lo + hi).fdiv 2 = (lo + hi) / 2 := Int.fdiv_eq_ediv_of_nonneg _ (by decide)
  rw [this]; omega
theorem binv_start (p : Int → Bool) (ns : List Int) : BInv p ns 0 (ns.length : Int) := ⟨by omega, by omega, by omega, fun i h => by omega, fun i h h2 => by omega⟩
theorem binv_up {p : Int → Bool} {ns : List Int} {lo hi : Int} (mono : ∀ a b, a ≤ b → p b = true → p a = true) (hs : ns.Pairwise (· ≤ ·)) (h : BInv p ns lo hi) (hlt : lo < hi) (hp : p (ns.getD ((lo + hi).fdiv 2).toNat 0) = true) : BInv p ns ((lo + hi).fdiv 2 + 1) hi := by
  obtain ⟨h0, h1, h2, h3, h4⟩ := h
  have hm := fd2 h0 hlt
  refine ⟨by omega, by omega, h2, fun i hi' => mono _ _ (sorted_getD hs (show i ≤ ((lo + hi).fdiv 2).toNat by omega) (by omega)) hp, h4⟩
theorem binv_down {p : Int → Bool} {ns : List Int} {lo hi : Int} (mono : ∀ a b, a ≤ b → p b = true → p a = true) (hs : ns.Pairwise (· ≤ ·)) (h : BInv p ns lo hi) (hlt : lo < hi) (hp : p (ns.getD ((lo + hi).fdiv 2).toNat 0) = false) : BInv p ns lo ((lo + hi).fdiv 2) := by
  obtain ⟨h0, h1, h2, h3, h4⟩ := h
  have hm := fd2 h0 hlt
  refine ⟨h0, by omega, by omega, h3, fun i hi' hl => ?_⟩
  cases e : p (ns.getD i 0) with
  | false => rfl
  | true =>
    have := mono _ _ (sorted_getD hs (show ((lo + hi).fdiv 2).toNat ≤ i by omega) hl) e
    rw [this] at hp; cases hp
theorem count_of {p : Int → Bool} : ∀ {ns : List Int} {k : Nat}, k ≤ ns.length → (∀ i : Nat, i < k → p (ns.getD i 0) = true) → (∀ i : Nat, k ≤ i → i < ns.length → p (ns.getD i 0) = false) → ns.countP p = k
  | [], k, h, _, _ => by simp at h; subst h; rfl
  | a :: r, 0, _, _, h2 => by
    have h0 := h2 0 (Nat.le_refl _) (by simp)
    rw [List.countP_cons_of_neg (by simpa using h0)]
    exact count_of (Nat.zero_le _) (fun i h => by omega) (fun i _ hl => by simpa using h2 (i + 1) (by omega) (by simpa using hl))
  | a :: r, k + 1, h, h1, h2 => by
    have h0 := h1 0 (by omega)
    rw [List.countP_cons_of_pos (by simpa using h0)]
    rw [count_of (k := k) (by simpa using h) (fun i hi => by simpa using h1 (i + 1) (by omega)) (fun i hi hl => by simpa using h2 (i + 1) (by omega) (by simpa using hl))]
theorem binv_end {p : Int → Bool} {ns : List Int} {lo hi : Int} (h : BInv p ns lo hi) (hge : ¬ lo < hi) : ((ns.countP p : Nat) : Int) = lo := by
  obtain ⟨h0, h1, h2, h3, h4⟩ := h
  rw [count_of (k := lo.toNat) (by omega) (fun i hi' => h3 i (by omega)) (fun i hi' hl => h4 i (by omega) hl)]
  omega
theorem PL_mono (x : Int) : ∀ a b, a ≤ b → PL x b = true → PL x a = true := fun a b h hb => by simp only [PL, decide_eq_true_eq] at hb ⊢; omega
theorem PR_mono (x : Int) : ∀ a b, a ≤ b → PR x b = true → PR x a = true := fun a b h hb => by simp only [PR, decide_eq_true_eq] at hb ⊢; omega
theorem PL_tt {x a : Int} (h : a < x) : PL x a = true := decide_eq_true h
theorem PL_ff {x a : Int} (h : ¬ a < x) : PL x a = false := decide_eq_false h
theorem PR_ff {x a : Int} (h : x < a) : PR x a = false := decide_eq_false (by omega)
theorem PR_tt {x a : Int} (h : ¬ x < a) : PR x a = true := decide_eq_true (by omega)
theorem fd2_less1 {lo hi : Int} (h0 : 0 ≤ lo) (h : lo < hi) : (hi - ((lo + hi).fdiv 2 + 1)).toNat < (hi - lo).toNat := by have := fd2 h0 h; omega
theorem fd2_less2 {lo hi : Int} (h0 : 0 ≤ lo) (h : lo < hi) : ((lo + hi).fdiv 2 - lo).toNat < (hi - lo).toNat := by have := fd2 h0 h; omega
end

section
noncomputable abbrev mapOf2 {g h : Heap} {L : Addr} {m : Str → Option Value} (_ : Fr g L h m) : Str → Option Value := m
noncomputable abbrev fst1 {g h : Heap} {L : Addr} {a : Addr × Obj} {r : List (Addr × Obj)} (_ : News g L h (a :: r)) : Addr × Obj := a
noncomputable abbrev tl1 {g h : Heap} {L : Addr} {a : Addr × Obj} {r : List (Addr × Obj)} (_ : News g L h (a :: r)) : List (Addr × Obj) := r
/-- the frame's map with one name laid over -/
noncomputable abbrev ov1 (x : Str) (m : Str → Option Value) (v : Option Value) : Str → Option Value := fun y => if y = x then v else m y
theorem ov1_self (x : Str) (m : Str → Option Value) : m = ov1 x m (m x) := by
  funext y
  show m y = if y = x then m x else m y
  by_cases h : y = x
  · rw [if_pos h, h]
  · rw [if_neg h]
theorem ov1_ov1 (x : Str) (m : Str → Option Value) (v w : Option Value) : (fun y => if y = x then v else ov1 x m w y) = ov1 x m v := by
  funext y
  show (if y = x then v else if y = x then w else m y) = if y = x then v else m y
  by_cases h : y = x
  · rw [if_pos h, if_pos h]
  · rw [if_neg h, if_neg h, if_neg h]

theorem ints_lt {ns : List Int} {B : Nat} (h : ∀ v ∈ ns, v.natAbs < B) (hB : 0 < B) (k : Nat) : (ns.getD k 0).natAbs < B := by
  rw [List.getD_eq_getElem?_getD]
  by_cases hk : k < ns.length
  · rw [List.getElem?_eq_getElem hk]; exact h _ (List.getElem_mem hk)
  · rw [List.getElem?_eq_none (by omega)]; exact hB
theorem ov1s (a : Str) (M : Str → Option Value) {v : Option Value} (h : M a = v) : M = ov1 a M v := by subst h; exact ov1_self a M
theorem ov2s (a b : Str) (M : Str → Option Value) {v1 v2 : Option Value} (h1 : M a = v1) (h2 : M b = v2) : M = ov1 a (ov1 b M v2) v1 := by
  subst h1; subst h2
  rw [← ov1_self b M, ← ov1_self a M]
theorem ov3s (a b c : Str) (M : Str → Option Value) {v1 v2 v3 : Option Value} (h1 : M a = v1) (h2 : M b = v2) (h3 : M c = v3) : M = ov1 a (ov1 b (ov1 c M v3) v2) v1 := by
  subst h1; subst h2; subst h3
  rw [← ov1_self c M, ← ov1_self b M, ← ov1_self a M]
theorem foldE9 {α : Type} {M : Model} {A : Around} {t : Sem α} {Q : α → Shared → Prop} {E : Value → Shared → Prop} {s : Shared} (h : let Q' := Q; let E' := E; wpAny M A t Q' E' s) : wpAny M A t Q E s := h
theorem foldG9 {G : Prop} (h : let G' := G; G') : G := h
end

local macro_rules | `(tactic| k_mem) => `(tactic| first | (with_reducible assumption) | (refine Mine.mem_of ?_; with_reducible assumption) | fail "k_mem")
local macro_rules | `(tactic| k_room) => `(tactic| ktr_room)
local macro_rules | `(tactic| k_all) => `(tactic| first | (with_reducible first | assumption | exact Mine.alR (by assumption) (Nat.le_refl _) | exact Mine.al0 (by assumption) (Nat.le_refl _) | exact Mine.al1 (by assumption) (Nat.le_refl _) | exact Mine.al2 (by assumption) (Nat.le_refl _) | exact Mine.al3 (by assumption) (Nat.le_refl _) | exact Mine.al4 (by assumption) (Nat.le_refl _) | exact Mine.al5 (by assumption) (Nat.le_refl _) | exact Mine.al6 (by assumption) (Nat.le_refl _) | exact Mine.al7 (by assumption) (Nat.le_refl _) | exact Mine.al8 (by assumption) (Nat.le_refl _) | exact Mine.al9 (by assumption) (Nat.le_refl _) | exact Mine.al10 (by assumption) (Nat.le_refl _) | exact Mine.al11 (by assumption) (Nat.le_refl _) | exact Mine.al12 (by assumption) (Nat.le_refl _)) | (refine' Mine.alR ?H ?L; (case H => with_reducible assumption); (case L => omega)) | (refine' Mine.al0 ?H ?L; (case H => with_reducible assumption); (case L => omega)) | (refine' Mine.al1 ?H ?L; (case H => with_reducible assumption); (case L => omega)) | (refine' Mine.al2 ?H ?L; (case H => with_reducible assumption); (case L => omega)) | (refine' Mine.al3 ?H ?L; (case H => with_reducible assumption); (case L => omega)) | (refine' Mine.al4 ?H ?L; (case H => with_reducible assumption); (case L => omega)) | (refine' Mine.al5 ?H ?L; (case H => with_reducible assumption); (case L => omega)) | (refine' Mine.al6 ?H ?L; (case H => with_reducible assumption); (case L => omega)) | (refine' Mine.al7 ?H ?L; (case H => with_reducible assumption); (case L => omega)) | (refine' Mine.al8 ?H ?L; (case H => with_reducible assumption); (case L => omega)) | (refine' Mine.al9 ?H ?L; (case H => with_reducible assumption); (case L => omega)) | (refine' Mine.al10 ?H ?L; (case H => with_reducible assumption); (case L => omega)) | (refine' Mine.al11 ?H ?L; (case H => with_reducible assumption); (case L => omega)) | (refine' Mine.al12 ?H ?L; (case H => with_reducible assumption); (case L => omega)) | fail "k_all")
local macro_rules | `(tactic| k_ne) => `(tactic| (refine neN ?_; (try dsimp only); (with_reducible first | assumption | (refine Ne.symm ?_; assumption) | exact Nat.ne_of_lt (by assumption) | exact Nat.ne_of_gt (by assumption) | exact Nat.ne_of_lt (Mine.pk0 (by assumption)) | exact Nat.ne_of_gt (Mine.pk0 (by assumption)) | exact Nat.ne_of_lt (Mine.pk1 (by assumption)) | exact Nat.ne_of_gt (Mine.pk1 (by assumption)) | exact Nat.ne_of_lt (Mine.pk2 (by assumption)) | exact Nat.ne_of_gt (Mine.pk2 (by assumption)) | exact Nat.ne_of_lt (Mine.pk3 (by assumption)) | exact Nat.ne_of_gt (Mine.pk3 (by assumption)) | exact Nat.ne_of_lt (Mine.pk4 (by assumption)) | exact Nat.ne_of_gt (Mine.pk4 (by assumption)) | exact Nat.ne_of_lt (Mine.pk5 (by assumption)) | exact Nat.ne_of_gt (Mine.pk5 (by assumption)) | exact Nat.ne_of_lt (Mine.pk6 (by assumption)) | exact Nat.ne_of_gt (Mine.pk6 (by assumption)) | exact Nat.ne_of_lt (Mine.pk7 (by assumption)) | exact Nat.ne_of_gt (Mine.pk7 (by assumption)) | exact Nat.ne_of_lt (Mine.pk8 (by assumption)) | exact Nat.ne_of_gt (Mine.pk8 (by assumption)) | fail "k_ne")))
local macro_rules | `(tactic| walk_at "ite") => `(tactic| (k_here; first | (with_reducible refine PySem.W.ite_neg (by with_reducible assumption) ?_) | (with_reducible refine PySem.W.ite_pos (by decide +kernel) ?_) | (with_reducible refine PySem.W.ite_neg (by decide +kernel) ?_)))
local macro_rules
  | `(tactic| walk_at "exec For Name Name cons nil") => `(tactic| k_extra "exec For Name Name cons nil")
  | `(tactic| walk_at "exec Assign cons ListComp") => `(tactic| k_extra "exec Assign cons ListComp")
  | `(tactic| walk_at "CompSrc") => `(tactic| k_extra "CompSrc")
  | `(tactic| walk_at "CompSrcT") => `(tactic| k_extra "CompSrcT")
  | `(tactic| walk_at "eval ListComp") => `(tactic| k_extra "eval ListComp")

section
local macro_rules | `(tactic| walk_at "setAttr ref") => `(tactic| k_extra "setAttr ref")
theorem news_mach2 {h₀ h : Heap} {L : Addr} {a1 a2 a3 b1 b2 b3 b4 b5 a4 c1 c2 c3 : Addr × Obj} {r : List (Addr × Obj)} (N : News h₀ L h (a1 :: a2 :: a3 :: b1 :: b2 :: b3 :: b4 :: b5 :: a4 :: c1 :: c2 :: c3 :: r)) :
    News h₀ L h (a1 :: a2 :: a3 :: a4 :: ([b1, b2, b3, b4, b5, c1, c2, c3] ++ r)) := news_mach N
namespace reader_new_K
noncomputable def P9 (w : World) (loose : List Str) (mean : ExcName → Option Value) (mg : Str → Option Value) (mb : Str → Option Value) (dp : Nat) (un : Nat) (gd : Option (List Code)) (cn : Str) (cs : Scope) (a : Addr) (ccd : Value) (cl : List (Str × Addr)) (outer : List Env) (A₀ : Around) (base : Heap) (h₀ : Heap) (L : Addr) (m : Str → Option Value) (s : Shared) (Q : Value → Shared → Prop) (E : Value → Shared → Prop) (rest : List (Addr × Obj)) (txt : Str) (t : Tok) : Prop :=
  (hx : txt.length < 1000) → (hr : ∀ p ∈ rest, p.1 ≠ 92) → AskV 20 w loose mean mg mb 97 ((92, tabObj #[]) :: rest) [.str txt t] (fun h₀ L m s Q =>
    ∀ (x d pb la st : Addr) (k1 k2 k3 k4 k5 k6 ti : Tok) (nb : List (Addr × Obj)) (h' : Heap) (tk' : Nat), Fr h₀ L h' m →
      News h₀ L h' ((pb, W.listOf #[] 0) :: (x, instObj 86 d) :: (d, mDict w 1 st pb k1 k2 k3 k4 k5 k6) :: (la, W.listOf #[.int 0 ti] 0) :: (nb ++ rest)) →
      (∀ q ∈ rest, q.1 ≠ pb) → (∀ q ∈ rest, q.1 ≠ x) → (∀ q ∈ rest, q.1 ≠ d) → (∀ q ∈ rest, q.1 ≠ la) → (∀ p ∈ nb, ∀ q ∈ rest, q.1 ≠ p.1) → (∃ ps, (92, tabObj ps) ∈ nb) →
      Mach w loose mean mg mb x d pb la st txt nb → Q (.ref x) { s with heap := h', toks := tk' }) dp un gd cn cs a ccd cl outer A₀ base h₀ L m s Q E
noncomputable def PV9 (v : K9 × (List (Addr × Obj)) × (Str) × (Tok)) : Prop := P9 v.1.1 v.1.2.1 v.1.2.2.1 v.1.2.2.2.1 v.1.2.2.2.2.1 v.1.2.2.2.2.2.1 v.1.2.2.2.2.2.2.1 v.1.2.2.2.2.2.2.2.1 v.1.2.2.2.2.2.2.2.2.1 v.1.2.2.2.2.2.2.2.2.2.1 v.1.2.2.2.2.2.2.2.2.2.2.1 v.1.2.2.2.2.2.2.2.2.2.2.2.1 v.1.2.2.2.2.2.2.2.2.2.2.2.2.1 v.1.2.2.2.2.2.2.2.2.2.2.2.2.2.1 v.1.2.2.2.2.2.2.2.2.2.2.2.2.2.2.1 v.1.2.2.2.2.2.2.2.2.2.2.2.2.2.2.2.1 v.1.2.2.2.2.2.2.2.2.2.2.2.2.2.2.2.2.1 v.1.2.2.2.2.2.2.2.2.2.2.2.2.2.2.2.2.2.1 v.1.2.2.2.2.2.2.2.2.2.2.2.2.2.2.2.2.2.2.1 v.1.2.2.2.2.2.2.2.2.2.2.2.2.2.2.2.2.2.2.2.1 v.1.2.2.2.2.2.2.2.2.2.2.2.2.2.2.2.2.2.2.2.2.1 v.1.2.2.2.2.2.2.2.2.2.2.2.2.2.2.2.2.2.2.2.2.2 v.2.1 v.2.2.1 v.2.2.2
theorem ex9 : ∃ c, PV9 c → ∀ v, PV9 v := sk9 ⟨(Classical.choice ne9, default, default, default)⟩ PV9
noncomputable def c9 : K9 × (List (Addr × Obj)) × (Str) × (Tok) := Classical.choose ex9
noncomputable def w : World := c9.1.1
noncomputable def loose : List Str := c9.1.2.1
noncomputable def mean : ExcName → Option Value := c9.1.2.2.1
noncomputable def mg : Str → Option Value := c9.1.2.2.2.1
noncomputable def mb : Str → Option Value := c9.1.2.2.2.2.1
noncomputable def dp : Nat := c9.1.2.2.2.2.2.1
noncomputable def un : Nat := c9.1.2.2.2.2.2.2.1
noncomputable def gd : Option (List Code) := c9.1.2.2.2.2.2.2.2.1
noncomputable def cn : Str := c9.1.2.2.2.2.2.2.2.2.1
noncomputable def cs : Scope := c9.1.2.2.2.2.2.2.2.2.2.1
noncomputable def a : Addr := c9.1.2.2.2.2.2.2.2.2.2.2.1
noncomputable def ccd : Value := c9.1.2.2.2.2.2.2.2.2.2.2.2.1
noncomputable def cl : List (Str × Addr) := c9.1.2.2.2.2.2.2.2.2.2.2.2.2.1
noncomputable def outer : List Env := c9.1.2.2.2.2.2.2.2.2.2.2.2.2.2.1
noncomputable def A₀ : Around := c9.1.2.2.2.2.2.2.2.2.2.2.2.2.2.2.1
noncomputable def base : Heap := c9.1.2.2.2.2.2.2.2.2.2.2.2.2.2.2.2.1
noncomputable def h₀ : Heap := c9.1.2.2.2.2.2.2.2.2.2.2.2.2.2.2.2.2.1
noncomputable def L : Addr := c9.1.2.2.2.2.2.2.2.2.2.2.2.2.2.2.2.2.2.1
noncomputable def m : Str → Option Value := c9.1.2.2.2.2.2.2.2.2.2.2.2.2.2.2.2.2.2.2.1
noncomputable def s : Shared := c9.1.2.2.2.2.2.2.2.2.2.2.2.2.2.2.2.2.2.2.2.1
noncomputable def Q : Value → Shared → Prop := c9.1.2.2.2.2.2.2.2.2.2.2.2.2.2.2.2.2.2.2.2.2.1
noncomputable def E : Value → Shared → Prop := c9.1.2.2.2.2.2.2.2.2.2.2.2.2.2.2.2.2.2.2.2.2.2
noncomputable def rest : List (Addr × Obj) := c9.2.1
noncomputable def txt : Str := c9.2.2.1
noncomputable def t : Tok := c9.2.2.2
end reader_new_K
open reader_new_K in
set_option maxHeartbeats 4000000 in
set_option maxRecDepth 100000 in
theorem reader_new_at : P9 w loose mean mg mb dp un gd cn cs a ccd cl outer A₀ base h₀ L m s Q E rest txt t := by
  k_with_none
  w_top off
  intro hx hr B F X N T hk hdp hun codeHd hret
  have fill9 : Challenge.rw_sr0027_01 = Challenge.rw_sr0027_01 ∧ hd.heap_39 = hd.heap_39 := by k_fill; exact ⟨rfl, rfl⟩
  (k_with "setAttr ref" => (k_here; kn_here; k_dflt (refine' Mine.set_fn_K ?F ?N ?U ?B ?_; (case F => k_asm); (case N => k_asm); (case U => k_updF); (case B => exact Mine.fread_none); k_whole); intro d' h' tk' F' N' l1; (try dsimp only at N'); (try k_lt l1); (try k_sweep)))
  k_dflt (first | (refine' code_defC ?k1 ?k2 ?k3 ?k4 ?k5 ?kA ?kF ?kK ?k6 ?k7 ?k8 ?k9 ?kB ?kD ?_ ?c2 ?c3 ?c4; (case kA => exact rfl); (case kF => exact rfl); (case kK => first | exact rfl | assumption); (case k1 => k_asm); (case k2 => k_asm); (case k3 => k_asm); (case k4 => k_asm); (case k5 => k_asm); (case k6 => k_is); (case k7 => k_is); (case k8 => ktr_room); (case k9 => first | exact BindsTo.of_eq rfl | exact binds_K (by k_in) rfl (by k_is) rfl rfl rfl | (refine' kp_binds ?kx ?ke; (case kx => k_in); (case ke => exact fun _ => rfl)) | fail "k9"); (case kB => exact rfl); (case kD => decide +kernel); (case c2 => exact rfl); (case c3 => exact rfl); (case c4 => exact rfl); k_whole; intro g' L' h' tk' cells' FG' F' N' Y' B' X' T' l1; (try k_lt l1); k_cells Y'; (try simp only [List.cons_append, List.nil_append] at N'); (try dsimp only); (try k_lift B'); (try k_fold)) | (refine' code_def ?k1 ?k2 ?k3 ?k4 ?k5 ?kA ?kF ?kK ?k6 ?k7 ?k8 ?k9 ?kB ?_ ?c2 ?c3 ?c4 ?c5; (case kA => exact rfl); (case kF => exact rfl); (case kK => first | exact rfl | assumption); (case k1 => k_asm); (case k2 => k_asm); (case k3 => k_asm); (case k4 => k_asm); (case k5 => k_asm); (case k6 => k_is); (case k7 => k_is); (case k8 => ktr_room); (case k9 => first | exact BindsTo.of_eq rfl | exact binds_K (by k_in) rfl (by k_is) rfl rfl rfl | (refine' kp_binds ?kx ?ke; (case kx => k_in); (case ke => exact fun _ => rfl)) | fail "k9"); (case c5 => decide); (case kB => exact locs rfl); (case c2 => exact rfl); (case c3 => exact rfl); (case c4 => exact rfl); k_whole; intro g' L' h' FG' F' N' B' X' T'; (try dsimp only); (try k_lift B'); (try k_fold)))
  refine foldE9 ?_
  intro QQ9 EE9
  k_steps
  (with_reducible rename News h₀ L _ ((_, W.listOf #[] 0) :: _ :: _ :: _ :: _ :: _ :: _ :: _ :: _ :: _) => kN9)
  refine hret _ _ _ _ _ _ _ _ _ _ _ _ [_, _, _, _, _, _, _, _] _ _ ?_ (news_mach2 kN9) ?_ ?_ ?_ ?_ ?_ (by first | exact ⟨_, .head _⟩ | exact ⟨_, .tail _ (.head _)⟩ | exact ⟨_, .tail _ (.tail _ (.head _))⟩ | exact ⟨_, .tail _ (.tail _ (.tail _ (.head _)))⟩ | exact ⟨_, .tail _ (.tail _ (.tail _ (.tail _ (.head _))))⟩ | exact ⟨_, .tail _ (.tail _ (.tail _ (.tail _ (.tail _ (.head _)))))⟩ | exact ⟨_, .tail _ (.tail _ (.tail _ (.tail _ (.tail _ (.tail _ (.head _))))))⟩ | exact ⟨_, .tail _ (.tail _ (.tail _ (.tail _ (.tail _ (.tail _ (.tail _ (.head _)))))))⟩) ?_
  · k_asm
  · k_all
  · k_all
  · k_all
  · k_all
  · intro p hp
    simp only [List.mem_cons, List.not_mem_nil, or_false] at hp
    rcases hp with rfl | rfl | rfl | rfl | rfl | rfl | rfl | rfl
    all_goals first | k_all | exact hr
  refine ⟨?_, ?_, ?_, ?_, ?_, ?_, ?_, ?_, ?_, _, _, _, _, _, _, _, _, List.Mem.tail _ (List.Mem.head _), List.Mem.tail _ (List.Mem.tail _ (List.Mem.tail _ (List.Mem.head _))), List.Mem.head _, ?_⟩
  · intro p hp
    simp only [List.mem_cons, List.not_mem_nil, or_false] at hp
    rcases hp with rfl | rfl | rfl | rfl | rfl | rfl | rfl | rfl <;> k_ne
  · intro p hp
    simp only [List.mem_cons, List.not_mem_nil, or_false] at hp
    rcases hp with rfl | rfl | rfl | rfl | rfl | rfl | rfl | rfl <;> k_ne
  · intro p hp
    simp only [List.mem_cons, List.not_mem_nil, or_false] at hp
    rcases hp with rfl | rfl | rfl | rfl | rfl | rfl | rfl | rfl <;> k_ne
  · k_ne
  · k_ne
  · k_ne
  · k_ne
  · k_ne
  · k_ne
  intro rest2 hled hla i ti t1 n hi
  clear hret kN9
  k_with_none
  w_top off
  intro dp un gd cn cs a ccd cl outer A₀ base h₀ L m s Q E B F X N T hk hdp hun codeHd hret
  have N := news_more N hled
  have hAll := all_more hla hled
  simp only [List.cons_append, List.nil_append] at N hAll
  k_dflt ((refine' code_nest ?k1 ?k2 ?k3 ?k4 ?k5 ?kA ?kF ?kK ?k6 ?k7 ?k8 ?k9 ?kB ?_ ?c2 ?c3 ?c4 ?c5; (case kA => exact rfl); (case kF => exact rfl); (case kK => assumption); (case k1 => k_asm); (case k2 => k_asm); (case k3 => k_asm); (case k4 => k_asm); (case k5 => k_asm); (case k6 => k_mem); (case k7 => exact codeRec_news (by k_asm) (by k_mem) (by assumption) (by assumption)); (case k8 => k_room); (case k9 => exact BindsTo.of_eq rfl); (case c5 => decide); (case kB => exact locs rfl); (case c2 => exact rfl); (case c3 => exact rfl); (case c4 => exact rfl); k_whole; intro g' L' h' FG' F' N' B' X' T'; (try dsimp only); (try k_lift B'); (try k_fold)))
  refine foldE9 ?_
  intro QQ9 EE9
  k_steps
  (with_reducible rename News h₀ L _ ((_, W.listOf #[Value.int (_ + _) _] _) :: _ :: _) => kN9)
  have e1 := slice_one txt i hi
  have e2 : (((Txt.slice txt (some (i : Int)) (some ((i : Int) + 1))).length : Nat) : Int) = (((sg txt).drop i).take 1).length := by rw [e1]; rfl
  have kN8 : News h₀ L _ ((_, W.listOf #[.int ((i : Int) + ((Txt.slice txt (some (i : Int)) (some ((i : Int) + 1))).length : Nat)) _] n) :: rest2) := fun p hp => kN9 p (by
    rcases List.mem_cons.mp hp with rfl | hp
    · exact .head _
    · exact .tail _ (.tail _ (.tail _ (.tail _ (.tail _ (.tail _ (.tail _ (.tail _ (.tail _ hp)))))))))
  rw [e2] at kN8
  show Q (.str (Txt.slice txt (some (i : Int)) (some ((i : Int) + 1))) _) _
  rw [e1]
  exact hret _ _ _ _ (by k_asm) kN8

theorem reader_new (w : World) (loose : List Str) (mean : ExcName → Option Value) (mg mb : Str → Option Value) (rest : List (Addr × Obj)) (txt : Str) (t : Tok) (hx : txt.length < 1000) (hr : ∀ p ∈ rest, p.1 ≠ 92) :
    Asks 20 w loose mean mg mb 97 ((92, tabObj #[]) :: rest) [.str txt t] (fun h₀ L m s Q =>
    ∀ (x d pb la st : Addr) (k1 k2 k3 k4 k5 k6 ti : Tok) (nb : List (Addr × Obj)) (h' : Heap) (tk' : Nat), Fr h₀ L h' m →
      News h₀ L h' ((pb, W.listOf #[] 0) :: (x, instObj 86 d) :: (d, mDict w 1 st pb k1 k2 k3 k4 k5 k6) :: (la, W.listOf #[.int 0 ti] 0) :: (nb ++ rest)) →
      (∀ q ∈ rest, q.1 ≠ pb) → (∀ q ∈ rest, q.1 ≠ x) → (∀ q ∈ rest, q.1 ≠ d) → (∀ q ∈ rest, q.1 ≠ la) → (∀ p ∈ nb, ∀ q ∈ rest, q.1 ≠ p.1) → (∃ ps, (92, tabObj ps) ∈ nb) →
      Mach w loose mean mg mb x d pb la st txt nb → Q (.ref x) { s with heap := h', toks := tk' }) :=
  fun dp un gd cn cs a ccd cl outer A₀ base h₀ L m s Q E => Classical.choose_spec reader_new_K.ex9 reader_new_at ((w, loose, mean, mg, mb, dp, un, gd, cn, cs, a, ccd, cl, outer, A₀, base, h₀, L, m, s, Q, E), rest, txt, t) hx hr
end

section
namespace read_char_spec_K
noncomputable def P9 (w : World) (loose : List Str) (mean : ExcName → Option Value) (mg : Str → Option Value) (mb : Str → Option Value) (dp : Nat) (un : Nat) (gd : Option (List Code)) (cn : Str) (cs : Scope) (a : Addr) (ccd : Value) (cl : List (Str × Addr)) (outer : List Env) (A₀ : Around) (base : Heap) (h₀ : Heap) (L : Addr) (m : Str → Option Value) (s : Shared) (Q : Value → Shared → Prop) (E : Value → Shared → Prop) (rest : List (Addr × Obj)) (txt : Str) (x : Addr) (d : Addr) (pb : Addr) (la : Addr) (st : Addr) (k1 : Tok) (k2 : Tok) (k3 : Tok) (k4 : Tok) (k5 : Tok) (k6 : Tok) (ti : Tok) (q : List Value) (nq : Nat) (nl : Nat) (i : Nat) (line : Int) : Prop :=
  (hi : i ≤ txt.length) → (hx : txt.length < 1000) → (hM : Mach w loose mean mg mb x d pb la st txt rest) → AskV 12 w loose mean mg mb 69 ((pb, W.listOf q.toArray nq) :: (x, instObj 86 d) :: (d, mDict w line st pb k1 k2 k3 k4 k5 k6) :: (la, W.listOf #[.int (i : Int) ti] nl) :: rest) [.ref x] (fun h₀ L m s Q => ∀ (k2' ti' t : Tok) (h' : Heap) (tk' : Nat), Fr h₀ L h' m →
      News h₀ L h' ((pb, W.listOf q.toArray nq) :: (x, instObj 86 d) :: (d, mDict w (line + nlOf (((sg txt).drop i).take 1)) st pb k1 k2' k3 k4 k5 k6) :: (la, W.listOf #[.int ((i + (((sg txt).drop i).take 1).length : Nat) : Int) ti'] nl) :: rest) →
        Q (.str ⟨(((sg txt).drop i).take 1).toArray⟩ t) { s with heap := h', toks := tk' }) dp un gd cn cs a ccd cl outer A₀ base h₀ L m s Q E
noncomputable def PV9 (v : K9 × (List (Addr × Obj)) × (Str) × (Addr) × (Addr) × (Addr) × (Addr) × (Addr) × (Tok) × (Tok) × (Tok) × (Tok) × (Tok) × (Tok) × (Tok) × (List Value) × (Nat) × (Nat) × (Nat) × (Int)) : Prop := P9 v.1.1 v.1.2.1 v.1.2.2.1 v.1.2.2.2.1 v.1.2.2.2.2.1 v.1.2.2.2.2.2.1 v.1.2.2.2.2.2.2.1 v.1.2.2.2.2.2.2.2.1 v.1.2.2.2.2.2.2.2.2.1 v.1.2.2.2.2.2.2.2.2.2.1 v.1.2.2.2.2.2.2.2.2.2.2.1 v.1.2.2.2.2.2.2.2.2.2.2.2.1 v.1.2.2.2.2.2.2.2.2.2.2.2.2.1 v.1.2.2.2.2.2.2.2.2.2.2.2.2.2.1 v.1.2.2.2.2.2.2.2.2.2.2.2.2.2.2.1 v.1.2.2.2.2.2.2.2.2.2.2.2.2.2.2.2.1 v.1.2.2.2.2.2.2.2.2.2.2.2.2.2.2.2.2.1 v.1.2.2.2.2.2.2.2.2.2.2.2.2.2.2.2.2.2.1 v.1.2.2.2.2.2.2.2.2.2.2.2.2.2.2.2.2.2.2.1 v.1.2.2.2.2.2.2.2.2.2.2.2.2.2.2.2.2.2.2.2.1 v.1.2.2.2.2.2.2.2.2.2.2.2.2.2.2.2.2.2.2.2.2.1 v.1.2.2.2.2.2.2.2.2.2.2.2.2.2.2.2.2.2.2.2.2.2 v.2.1 v.2.2.1 v.2.2.2.1 v.2.2.2.2.1 v.2.2.2.2.2.1 v.2.2.2.2.2.2.1 v.2.2.2.2.2.2.2.1 v.2.2.2.2.2.2.2.2.1 v.2.2.2.2.2.2.2.2.2.1 v.2.2.2.2.2.2.2.2.2.2.1 v.2.2.2.2.2.2.2.2.2.2.2.1 v.2.2.2.2.2.2.2.2.2.2.2.2.1 v.2.2.2.2.2.2.2.2.2.2.2.2.2.1 v.2.2.2.2.2.2.2.2.2.2.2.2.2.2.1 v.2.2.2.2.2.2.2.2.2.2.2.2.2.2.2.1 v.2.2.2.2.2.2.2.2.2.2.2.2.2.2.2.2.1 v.2.2.2.2.2.2.2.2.2.2.2.2.2.2.2.2.2.1 v.2.2.2.2.2.2.2.2.2.2.2.2.2.2.2.2.2.2.1 v.2.2.2.2.2.2.2.2.2.2.2.2.2.2.2.2.2.2.2
theorem ex9 : ∃ c, PV9 c → ∀ v, PV9 v := sk9 ⟨(Classical.choice ne9, default, default, default, default, default, default, default, default, default, default, default, default, default, default, default, default, default, default, default)⟩ PV9
noncomputable def c9 : K9 × (List (Addr × Obj)) × (Str) × (Addr) × (Addr) × (Addr) × (Addr) × (Addr) × (Tok) × (Tok) × (Tok) × (Tok) × (Tok) × (Tok) × (Tok) × (List Value) × (Nat) × (Nat) × (Nat) × (Int) := Classical.choose ex9
noncomputable def w : World := c9.1.1
noncomputable def loose : List Str := c9.1.2.1
noncomputable def mean : ExcName → Option Value := c9.1.2.2.1
noncomputable def mg : Str → Option Value := c9.1.2.2.2.1
noncomputable def mb : Str → Option Value := c9.1.2.2.2.2.1
noncomputable def dp : Nat := c9.1.2.2.2.2.2.1
noncomputable def un : Nat := c9.1.2.2.2.2.2.2.1
noncomputable def a : Addr := c9.1.2.2.2.2.2.2.2.2.2.2.1
noncomputable def h₀ : Heap := c9.1.2.2.2.2.2.2.2.2.2.2.2.2.2.2.2.2.1
noncomputable def L : Addr := c9.1.2.2.2.2.2.2.2.2.2.2.2.2.2.2.2.2.2.1
noncomputable def m : Str → Option Value := c9.1.2.2.2.2.2.2.2.2.2.2.2.2.2.2.2.2.2.2.1
noncomputable def s : Shared := c9.1.2.2.2.2.2.2.2.2.2.2.2.2.2.2.2.2.2.2.2.1
noncomputable def Q : Value → Shared → Prop := c9.1.2.2.2.2.2.2.2.2.2.2.2.2.2.2.2.2.2.2.2.2.1
noncomputable def E : Value → Shared → Prop := c9.1.2.2.2.2.2.2.2.2.2.2.2.2.2.2.2.2.2.2.2.2.2
noncomputable def rest : List (Addr × Obj) := c9.2.1
noncomputable def txt : Str := c9.2.2.1
noncomputable def x : Addr := c9.2.2.2.1
noncomputable def d : Addr := c9.2.2.2.2.1
noncomputable def pb : Addr := c9.2.2.2.2.2.1
noncomputable def la : Addr := c9.2.2.2.2.2.2.1
noncomputable def st : Addr := c9.2.2.2.2.2.2.2.1
noncomputable def k1 : Tok := c9.2.2.2.2.2.2.2.2.1
noncomputable def k2 : Tok := c9.2.2.2.2.2.2.2.2.2.1
noncomputable def k3 : Tok := c9.2.2.2.2.2.2.2.2.2.2.1
noncomputable def k4 : Tok := c9.2.2.2.2.2.2.2.2.2.2.2.1
noncomputable def k5 : Tok := c9.2.2.2.2.2.2.2.2.2.2.2.2.1
noncomputable def k6 : Tok := c9.2.2.2.2.2.2.2.2.2.2.2.2.2.1
noncomputable def ti : Tok := c9.2.2.2.2.2.2.2.2.2.2.2.2.2.2.1
noncomputable def q : List Value := c9.2.2.2.2.2.2.2.2.2.2.2.2.2.2.2.1
noncomputable def nq : Nat := c9.2.2.2.2.2.2.2.2.2.2.2.2.2.2.2.2.1
noncomputable def nl : Nat := c9.2.2.2.2.2.2.2.2.2.2.2.2.2.2.2.2.2.1
noncomputable def i : Nat := c9.2.2.2.2.2.2.2.2.2.2.2.2.2.2.2.2.2.2.1
noncomputable def line : Int := c9.2.2.2.2.2.2.2.2.2.2.2.2.2.2.2.2.2.2.2
end read_char_spec_K
open read_char_spec_K in
set_option maxHeartbeats 4000000 in
set_option maxRecDepth 100000 in
theorem read_char_spec_at : P9 w loose mean mg mb dp un (c9.1.2.2.2.2.2.2.2.1) (c9.1.2.2.2.2.2.2.2.2.1) (c9.1.2.2.2.2.2.2.2.2.2.1) a (c9.1.2.2.2.2.2.2.2.2.2.2.2.1) (c9.1.2.2.2.2.2.2.2.2.2.2.2.2.1) (c9.1.2.2.2.2.2.2.2.2.2.2.2.2.2.1) (c9.1.2.2.2.2.2.2.2.2.2.2.2.2.2.2.1) (c9.1.2.2.2.2.2.2.2.2.2.2.2.2.2.2.2.1) h₀ L m s Q E rest txt x d pb la st k1 k2 k3 k4 k5 k6 ti q nq nl i line := by
  k_with_none
  w_top off
  intro hi hx hM B F X N T hk hdp hun codeHd hret
  have fill9 : Challenge.rw_sr0027_01 = Challenge.rw_sr0027_01 ∧ hd.heap_39 = hd.heap_39 := by k_fill; exact ⟨rfl, rfl⟩
  k_dflt (first | (refine' code_defC ?k1 ?k2 ?k3 ?k4 ?k5 ?kA ?kF ?kK ?k6 ?k7 ?k8 ?k9 ?kB ?kD ?_ ?c2 ?c3 ?c4; (case kA => exact rfl); (case kF => exact rfl); (case kK => first | exact rfl | assumption); (case k1 => k_asm); (case k2 => k_asm); (case k3 => k_asm); (case k4 => k_asm); (case k5 => k_asm); (case k6 => k_is); (case k7 => k_is); (case k8 => ktr_room); (case k9 => first | exact BindsTo.of_eq rfl | exact binds_K (by k_in) rfl (by k_is) rfl rfl rfl | (refine' kp_binds ?kx ?ke; (case kx => k_in); (case ke => exact fun _ => rfl)) | fail "k9"); (case kB => exact rfl); (case kD => decide +kernel); (case c2 => exact rfl); (case c3 => exact rfl); (case c4 => exact rfl); k_whole; intro g' L' h' tk' cells' FG' F' N' Y' B' X' T' l1; (try k_lt l1); k_cells Y'; (try simp only [List.cons_append, List.nil_append] at N'); (try dsimp only); (try k_lift B'); (try k_fold)) | (refine' code_def ?k1 ?k2 ?k3 ?k4 ?k5 ?kA ?kF ?kK ?k6 ?k7 ?k8 ?k9 ?kB ?_ ?c2 ?c3 ?c4 ?c5; (case kA => exact rfl); (case kF => exact rfl); (case kK => first | exact rfl | assumption); (case k1 => k_asm); (case k2 => k_asm); (case k3 => k_asm); (case k4 => k_asm); (case k5 => k_asm); (case k6 => k_is); (case k7 => k_is); (case k8 => ktr_room); (case k9 => first | exact BindsTo.of_eq rfl | exact binds_K (by k_in) rfl (by k_is) rfl rfl rfl | (refine' kp_binds ?kx ?ke; (case kx => k_in); (case ke => exact fun _ => rfl)) | fail "k9"); (case c5 => decide); (case kB => exact locs rfl); (case c2 => exact rfl); (case c3 => exact rfl); (case c4 => exact rfl); k_whole; intro g' L' h' FG' F' N' B' X' T'; (try dsimp only); (try k_lift B'); (try k_fold)))
  have hnd := hM.nd
  have hnpb := hM.npb
  have hnla := hM.nla
  have e1 := neN hM.xd
  have e2 := neN hM.xpb
  have e3 := neN hM.xla
  have e4 := neN hM.dpb
  have e5 := neN hM.dla
  have e6 := neN hM.pbla
  obtain ⟨sd, f, fd, t, oc, od, fd2, sl, hstm, hfm, hsdm, hro⟩ := hM.str
  (k_with "getMethod ref" => (refine' Mine.meth_fn ?a ?b ?_; (case a => exact News.get (by k_asm) (by k_mem)); (case b => exact News.get (by k_asm) (by k_mem))))
  (k_with "call ref" => ((with_reducible show wpAny _ _ (call (Value.ref f) [Value.int 1 _]) _ _ _); k_dflt (refine' wpAny_call (hro _ Mine.sub3 hM.offla i ti _ nl hi _ _ _ _ _ _ _ _ _ _ _ _ _ _ _ _ _ ?B ?F ?X ?N ?T ?K ?dp ?un ?cd ?ret); (case B => k_asm); (case F => k_asm); (case X => k_asm); (case N => exact Mine.news_4 (by k_asm)); (case T => k_asm); (case K => first | exact rfl | assumption); (case dp => ktr_room); (case un => ktr_units); (case cd => assumption)); intro t2 t3 h' tk' F9 N9; replace N9 := Mine.news_4b N9; (try dsimp only); (try k_sweep); (try k_fold)))
  k_steps
  · (with_reducible rename (_ == _) = true => hb)
    have hn : nlOf (((sg txt).drop i).take 1) = 1 := nlOf_tt hb
    rw [hn] at hret
    exact hret _ _ _ _ _ (by k_asm) (by k_asm)
  · (with_reducible rename (_ == _) = false => hb)
    have hn : nlOf (((sg txt).drop i).take 1) = 0 := nlOf_ff hb
    rw [hn, Int.add_zero] at hret
    exact hret _ _ _ _ _ (by k_asm) (by k_asm)

theorem read_char_spec (w : World) (loose : List Str) (mean : ExcName → Option Value) (mg mb : Str → Option Value) (rest : List (Addr × Obj)) (txt : Str) (x d pb la st : Addr) (k1 k2 k3 k4 k5 k6 ti : Tok) (q : List Value) (nq nl i : Nat) (line : Int) (hi : i ≤ txt.length) (hx : txt.length < 1000) (hM : Mach w loose mean mg mb x d pb la st txt rest) :
    Asks 12 w loose mean mg mb 69 ((pb, W.listOf q.toArray nq) :: (x, instObj 86 d) :: (d, mDict w line st pb k1 k2 k3 k4 k5 k6) :: (la, W.listOf #[.int (i : Int) ti] nl) :: rest) [.ref x] (fun h₀ L m s Q => ∀ (k2' ti' t : Tok) (h' : Heap) (tk' : Nat), Fr h₀ L h' m →
      News h₀ L h' ((pb, W.listOf q.toArray nq) :: (x, instObj 86 d) :: (d, mDict w (line + nlOf (((sg txt).drop i).take 1)) st pb k1 k2' k3 k4 k5 k6) :: (la, W.listOf #[.int ((i + (((sg txt).drop i).take 1).length : Nat) : Int) ti'] nl) :: rest) →
        Q (.str ⟨(((sg txt).drop i).take 1).toArray⟩ t) { s with heap := h', toks := tk' }) :=
  fun dp un gd cn cs a ccd cl outer A₀ base h₀ L m s Q E => Classical.choose_spec read_char_spec_K.ex9 read_char_spec_at ((w, loose, mean, mg, mb, dp, un, gd, cn, cs, a, ccd, cl, outer, A₀, base, h₀, L, m, s, Q, E), rest, txt, x, d, pb, la, st, k1, k2, k3, k4, k5, k6, ti, q, nq, nl, i, line) hi hx hM
end

section
theorem news_rot2 {h₀ h : Heap} {L : Addr} {a b m1 m2 m3 m4 : Addr × Obj} {r : List (Addr × Obj)} (N : News h₀ L h (a :: b :: m1 :: m2 :: m3 :: m4 :: r)) : News h₀ L h (m1 :: m2 :: m3 :: m4 :: a :: b :: r) := fun p hp => N p (by
  simp only [List.mem_cons] at hp ⊢
  rcases hp with h | h | h | h | h | h | h <;> simp [h])
theorem news_rot2b {h₀ h : Heap} {L : Addr} {a b m1 m2 m3 m4 : Addr × Obj} {r : List (Addr × Obj)} (N : News h₀ L h (m1 :: m2 :: m3 :: m4 :: a :: b :: r)) : News h₀ L h (a :: b :: m1 :: m2 :: m3 :: m4 :: r) := fun p hp => N p (by
  simp only [List.mem_cons] at hp ⊢
  rcases hp with h | h | h | h | h | h | h <;> simp [h])
theorem news_drop1 {h₀ h : Heap} {L : Addr} {a : Addr × Obj} {r : List (Addr × Obj)} (N : News h₀ L h (a :: r)) : News h₀ L h r := fun p hp => N p (.tail _ hp)
theorem news_kept {h₀ h h' : Heap} {L : Addr} {l : List (Addr × Obj)} (N : News h₀ L h l) (k : ∀ p ∈ l, h.get? p.1 = some p.2 → h'.get? p.1 = some p.2) : News h₀ L h' l := fun p hp => ⟨k p hp (N p hp).1, (N p hp).2⟩
/-- what is known of two new ones: they are none of the machine's -/
noncomputable abbrev Off (a d pb la : Addr) : Prop := a ≠ d ∧ a ≠ pb ∧ a ≠ la
theorem Mach.two {w : World} {loose : List Str} {mean : ExcName → Option Value} {mg mb : Str → Option Value} {x d pb la st : Addr} {txt : Str} {rest : List (Addr × Obj)} {a b : Addr} {o1 o2 : Obj}
    (M : Mach w loose mean mg mb x d pb la st txt rest) (ha : Off a d pb la) (hb : Off b d pb la) : Mach w loose mean mg mb x d pb la st txt ((a, o1) :: (b, o2) :: rest) :=
  M.more (fun _ hp => .tail _ (.tail _ hp)) (List.forall_mem_cons.mpr ⟨ha.1, List.forall_mem_cons.mpr ⟨hb.1, M.nd⟩⟩) (List.forall_mem_cons.mpr ⟨ha.2.1, List.forall_mem_cons.mpr ⟨hb.2.1, M.npb⟩⟩) (List.forall_mem_cons.mpr ⟨ha.2.2, List.forall_mem_cons.mpr ⟨hb.2.2, M.nla⟩⟩)
set_option maxHeartbeats 4000000 in
set_option maxRecDepth 100000 in
theorem next_spec (w : World) (loose : List Str) (mean : ExcName → Option Value) (mg mb : Str → Option Value) (rest : List (Addr × Obj)) (txt : Str) (x d pb la st : Addr) (k1 k2 k3 k4 k5 k6 ti : Tok) (q : List Value) (nq nl i : Nat) (line : Int) (it q2 : Addr) (ts : Tok) (hi : i ≤ txt.length) (hx : txt.length < 1000) (hM : Mach w loose mean mg mb x d pb la st txt rest) (h1 : Off it d pb la) (h2 : Off q2 d pb la) (hne : it ≠ q2)
    (hr1 : ∀ p ∈ rest, p.1 ≠ it) (h3 : it ≠ x)
    {dp un : Nat} {gd : Option (List Code)} {cn : Str} {cs : Scope} {a : Addr} {ccd : Value} {cl : List (Str × Addr)} {outer : List Env} {A₀ : Around} {base h₀ : Heap} {L : Addr} {m : Str → Option Value} {s : Shared} {Q : Option Value → Shared → Prop} {E : Value → Shared → Prop}
    (B : Below A₀ base outer h₀) (F : Fr h₀ L s.heap m) (X : (hd.heap_39 w.params).In h₀) (N : News h₀ L s.heap ((it, citObj q2 ts) :: (q2, methodObj (.ref 69) (.ref x)) :: (pb, W.listOf q.toArray nq) :: (x, instObj 86 d) :: (d, mDict w line st pb k1 k2 k3 k4 k5 k6) :: (la, W.listOf #[.int (i : Int) ti] nl) :: rest)) (T : Top topProg loose mean mg mb h₀) (hk : cs.kind = .function)
    (hdp : dp + 13 < recursionLimit) (hun : un + 130 < cLine) (hcd : CodeHd base 96 92)
    (hsome : ∀ c tail, (sg txt).drop i = c :: tail → ∀ (k2' ti' t : Tok) (h' : Heap) (tk' : Nat), Fr h₀ L h' m →
      News h₀ L h' ((it, citObj q2 ts) :: (q2, methodObj (.ref 69) (.ref x)) :: (pb, W.listOf q.toArray nq) :: (x, instObj 86 d) :: (d, mDict w (line + nlOf [c]) st pb k1 k2' k3 k4 k5 k6) :: (la, W.listOf #[.int ((i + 1 : Nat) : Int) ti'] nl) :: rest) →
      Q (some (.str ⟨#[c]⟩ t)) { s with heap := h', toks := tk' })
    (hnone : (sg txt).drop i = [] → ∀ (k2' ti' : Tok) (h' : Heap) (tk' : Nat), Fr h₀ L h' m →
      News h₀ L h' ((q2, methodObj (.ref 69) (.ref x)) :: (pb, W.listOf q.toArray nq) :: (x, instObj 86 d) :: (d, mDict w line st pb k1 k2' k3 k4 k5 k6) :: (la, W.listOf #[.int (i : Int) ti'] nl) :: rest) →
      Q none { s with heap := h', toks := tk' }) :
    wpAny (model Challenge.rw_sr0027_01.row.prog w) (ktrTop dp un gd cn cs L a ccd cl outer) (pyNext (.ref it)) Q E s := by
  have fill9 : Challenge.rw_sr0027_01 = Challenge.rw_sr0027_01 ∧ hd.heap_39 = hd.heap_39 := by k_fill; exact ⟨rfl, rfl⟩
  obtain ⟨fd, hK⟩ : ∃ fd, (hd.heap_39 w.params).lookup 69 = some ({ cls := .type "function", data := .func fd } : Obj) := ⟨_, by k_is⟩
  have hfn := F.keep _ _ (X 69 _ hK)
  have hM2 := hM.two (o1 := citObj q2 ts) (o2 := methodObj (.ref 69) (.ref x)) h1 h2
  refine citer_next (fa := 69) (x := x) (q := q2) (N.get (.head _)) (N.get (.tail _ (.head _))) rfl hfn ?_
  refine codeAny_mono (R := fun r s' => match r with | .ok (.ret v) => (∃ c tc, v = .str c tc ∧ s'.heap.get? it = some (citObj q2 ts) ∧ (c.cps ≠ #[] → Q (some (.str c tc)) s') ∧ (c.cps = #[] → s'.heap.get? q2 = some (methodObj (.ref 69) (.ref x)) ∧ s'.heap.get? 69 = some { cls := .type "function", data := .func fd } ∧ ∀ h', Heap.ExtBut it s'.heap h' → Q none { s' with heap := h' })) | .ok _ => False | .error e => False) ?_ ?_
  · refine read_char_spec w loose mean mg mb _ txt x d pb la st k1 k2 k3 k4 k5 k6 ti q nq nl i line hi hx hM2 dp (un + 1) gd cn cs a ccd cl outer A₀ base h₀ L m s _ (fun _ _ => False) B F X (news_rot2 N) T hk (by omega) (by omega) hcd ?_
    intro k2' ti' t h' tk' F' N'
    have N9 := news_rot2b N'
    refine ⟨_, _, rfl, N9.get (.head _), fun hc => ?_, fun hc => ⟨N9.get (.tail _ (.head _)), F'.keep _ _ (X 69 _ hK), fun h'' ext => ?_⟩⟩
    · cases e : (sg txt).drop i with
      | nil => rw [e] at hc; exact absurd rfl hc
      | cons c tail =>
        rw [e] at N9
        exact hsome c tail e _ _ _ _ _ F' N9
    · cases e : (sg txt).drop i with
      | cons c tail => rw [e] at hc; exact absurd hc (by simp)
      | nil =>
        rw [e] at N9
        have N8 := news_drop1 N9
        have hnl : nlOf (List.take 1 []) = 0 := rfl
        rw [hnl, Int.add_zero] at N8
        have hLit : L ≠ it := Ne.symm (N9 _ (.head _)).2.1
        refine hnone e _ _ _ _ ⟨F'.ns.at' fun o eo => ext L o hLit eo, fun b o eo => ext b o (fun z => ?_) (F'.keep b o eo), F'.above⟩ (news_kept N8 fun p hp eo => ext _ _ ?_ eo)
        · subst z
          rw [(N9 _ (.head _)).2.2] at eo; cases eo
        · simp only [List.mem_cons] at hp
          rcases hp with rfl | rfl | rfl | rfl | rfl | hp
          · exact Ne.symm hne
          · exact Ne.symm h1.2.1
          · exact Ne.symm h3
          · exact Ne.symm h1.1
          · exact Ne.symm h1.2.2
          · exact hr1 p hp
  · intro r s' hr
    match r, hr with
    | .ok (.ret v), hr =>
      obtain ⟨c, tc, rfl, a1, a2, a3⟩ := hr
      exact ⟨c, tc, rfl, a1, a2, a3⟩
end

section
/-- the state of the scan: the frame, the ledger, the place j, the line -/
noncomputable def ScanSt (w : World) (g : Heap) (L : Addr) (m : Str → Option Value) (s0 : Shared) (x d pb la st it' q2 : Addr) (ts k1 k3 k4 k5 k6 : Tok) (nq nl : Nat) (rest : List (Addr × Obj)) (tok : List Nat) (j : Nat) (line' : Int) (s' : Shared) : Prop :=
  ∃ (h' : Heap) (tk' : Nat) (k2' ti' tt : Tok) (cv : Option Value), s' = { s0 with heap := h', toks := tk' } ∧ Fr g L h' (ovl m (some (.str ⟨tok.toArray⟩ tt)) cv) ∧
    News g L h' ((it', citObj q2 ts) :: (q2, methodObj (.ref 69) (.ref x)) :: (pb, W.listOf #[] nq) :: (x, instObj 86 d) :: (d, mDict w line' st pb k1 k2' k3 k4 k5 k6) :: (la, W.listOf #[.int (j : Int) ti'] nl) :: rest)
theorem ScanSt.start {w : World} {g h' : Heap} {L : Addr} {m : Str → Option Value} {s0 : Shared} {x d pb la st it' q2 : Addr} {ts k1 k2' k3 k4 k5 k6 ti' tt : Tok} {nq nl : Nat} {rest : List (Addr × Obj)} {j : Nat} {line' : Int} {tk' : Nat}
    (F : Fr g L h' m) (N : News g L h' ((it', citObj q2 ts) :: (q2, methodObj (.ref 69) (.ref x)) :: (pb, W.listOf #[] nq) :: (x, instObj 86 d) :: (d, mDict w line' st pb k1 k2' k3 k4 k5 k6) :: (la, W.listOf #[.int (j : Int) ti'] nl) :: rest)) (ht : m (Str.ofString "token") = some (.str (Str.ofString "") tt)) :
    ScanSt w g L m s0 x d pb la st it' q2 ts k1 k3 k4 k5 k6 nq nl rest [] j line' { s0 with heap := h', toks := tk' } :=
  ⟨h', tk', k2', ti', tt, m (Str.ofString "ch"), rfl, Fr.cast' F ((ovl_self m).trans (by rw [ht]; rfl)), N⟩
noncomputable abbrev mapOf {g h : Heap} {L : Addr} {m : Str → Option Value} (_ : Fr g L h m) : Str → Option Value := m
noncomputable abbrev citQ {g h : Heap} {L it q2 : Addr} {ts : Tok} {r : List (Addr × Obj)} (_ : News g L h ((it, citObj q2 ts) :: r)) : Addr := q2
noncomputable abbrev citT {g h : Heap} {L it q2 : Addr} {ts : Tok} {r : List (Addr × Obj)} (_ : News g L h ((it, citObj q2 ts) :: r)) : Tok := ts
set_option maxHeartbeats 4000000 in
set_option maxRecDepth 100000 in
theorem read_char_c (w : World) (loose : List Str) (mean : ExcName → Option Value) (mg mb : Str → Option Value) (rest : List (Addr × Obj)) (txt : Str) (x d pb la st : Addr) (k1 k2 k3 k4 k5 k6 ti : Tok) (q : List Value) (nq nl i : Nat) (line : Int) (c : Nat) (tl : List Nat) (hdj : (sg txt).drop i = c :: tl) (hx : txt.length < 1000) (hM : Mach w loose mean mg mb x d pb la st txt rest) : Asks 12 w loose mean mg mb 69 ((pb, W.listOf q.toArray nq) :: (x, instObj 86 d) :: (d, mDict w line st pb k1 k2 k3 k4 k5 k6) :: (la, W.listOf #[.int (i : Int) ti] nl) :: rest) [.ref x] (fun h₀ L m s Q => ∀ (k2' ti' t : Tok) (h' : Heap) (tk' : Nat), Fr h₀ L h' m →
      News h₀ L h' ((pb, W.listOf q.toArray nq) :: (x, instObj 86 d) :: (d, mDict w (line + nlOf [c]) st pb k1 k2' k3 k4 k5 k6) :: (la, W.listOf #[.int ((i + 1 : Nat) : Int) ti'] nl) :: rest) →
        Q (.str ⟨#[c]⟩ t) { s with heap := h', toks := tk' }) := by
  have hi : i ≤ txt.length := by
    have h1 := congrArg List.length hdj
    simp only [List.length_drop, List.length_cons] at h1
    have hil : (sg txt).length = txt.length := by simp [sg, Str.length]
    omega
  have h := read_char_spec w loose mean mg mb rest txt x d pb la st k1 k2 k3 k4 k5 k6 ti q nq nl i line hi hx hM
  k_with_none
  w_top off
  intro dp un gd cn cs a ccd cl outer A₀ base h₀ L m s Q E B F X N T hk hdp hun codeHd hret
  refine h dp un gd cn cs a ccd cl outer A₀ base h₀ L m s Q E B F X N T hk hdp hun codeHd ?_
  intro k2' ti' t h' tk' F' N'
  rw [hdj] at N' ⊢
  exact hret k2' ti' t h' tk' F' N'
/-- the same in a frame of get_token's -/
theorem rc_rule (w : World) (loose : List Str) (mean : ExcName → Option Value) (mg mb : Str → Option Value) (rest : List (Addr × Obj)) (txt : Str) (x d pb la st : Addr) (k1 k2 k3 k4 k5 k6 ti : Tok) (q : List Value) (nq nl i : Nat) (line : Int) (it q2 : Addr) (ts : Tok) (hx : txt.length < 1000) (hM : Mach w loose mean mg mb x d pb la st txt ((it, citObj q2 ts) :: (q2, methodObj (.ref 69) (.ref x)) :: rest))
    {dp un : Nat} {gd : Option (List Code)} {cn : Str} {cs : Scope} {a : Addr} {ccd : Value} {cl : List (Str × Addr)} {outer : List Env} {A₀ : Around} {base h₀ : Heap} {L : Addr} {m : Str → Option Value} {s : Shared} {Q E : Value → Shared → Prop}
    (B : Below A₀ base outer h₀) (F : Fr h₀ L s.heap m) (X : (hd.heap_39 w.params).In h₀) (N : News h₀ L s.heap ((it, citObj q2 ts) :: (q2, methodObj (.ref 69) (.ref x)) :: (pb, W.listOf q.toArray nq) :: (x, instObj 86 d) :: (d, mDict w line st pb k1 k2 k3 k4 k5 k6) :: (la, W.listOf #[.int (i : Int) ti] nl) :: rest)) (T : Top topProg loose mean mg mb h₀) (hk : cs.kind = .function)
    (hdp : dp + 12 < recursionLimit) (hun : un + 120 < cLine) (hcd : CodeHd base 96 92) {c : Nat} {tl : List Nat} (hdj : (sg txt).drop i = c :: tl)
    (hret : ∀ (k2' ti' t : Tok) (h' : Heap) (tk' : Nat), Fr h₀ L h' m →
      News h₀ L h' ((it, citObj q2 ts) :: (q2, methodObj (.ref 69) (.ref x)) :: (pb, W.listOf q.toArray nq) :: (x, instObj 86 d) :: (d, mDict w (line + nlOf [c]) st pb k1 k2' k3 k4 k5 k6) :: (la, W.listOf #[.int ((i + 1 : Nat) : Int) ti'] nl) :: rest) →
        Q (.str ⟨#[c]⟩ t) { s with heap := h', toks := tk' }) :
    wpAny (model Challenge.rw_sr0027_01.row.prog w) (ktrTop dp un gd cn cs L a ccd cl outer) (call (.ref 69) [.ref x]) Q E s :=
  wpAny_call (read_char_c w loose mean mg mb _ txt x d pb la st k1 k2 k3 k4 k5 k6 ti q nq nl i line c tl hdj hx hM dp un gd cn cs a ccd cl outer A₀ base h₀ L m s Q E B F X (news_rot2 N) T hk hdp (by omega) hcd fun k2' ti' t h' tk' F' N' => hret k2' ti' t h' tk' F' (news_rot2b N'))
/-- a bare word, a backslash ahead of each letter -/
noncomputable abbrev esc (word : List Nat) : List Nat := word.flatMap fun c => [92, c]
set_option maxHeartbeats 4000000 in
set_option maxRecDepth 100000 in
theorem esc_len (a : List Nat) : (esc a).length = 2 * a.length := by
  induction a with
  | nil => rfl
  | cons c r ih =>
    have h : esc (c :: r) = [92, c] ++ esc r := rfl
    rw [h, List.length_append, ih, List.length_cons, List.length_cons, List.length_cons, List.length_nil]
    omega

namespace get_token_page_K
noncomputable def P9 (w : World) (loose : List Str) (mean : ExcName → Option Value) (mg : Str → Option Value) (mb : Str → Option Value) (dp : Nat) (un : Nat) (gd : Option (List Code)) (cn : Str) (cs : Scope) (a : Addr) (ccd : Value) (cl : List (Str × Addr)) (outer : List Env) (A₀ : Around) (base : Heap) (h₀ : Heap) (L : Addr) (m : Str → Option Value) (s : Shared) (Q : Value → Shared → Prop) (E : Value → Shared → Prop) (rest : List (Addr × Obj)) (txt : Str) (x : Addr) (d : Addr) (pb : Addr) (la : Addr) (st : Addr) (k1 : Tok) (k2 : Tok) (k3 : Tok) (k4 : Tok) (k5 : Tok) (k6 : Tok) (ti : Tok) (nq : Nat) (nl : Nat) (i : Nat) (line : Int) : Prop :=
  (ws : List Nat) → (tt0 : List Nat) → (res : List Nat) → (p0 : Nat) → (hws : ws = [] ∨ ws = [10]) → (hT : (tt0 = [] ∧ res = [] ∧ p0 = i + ws.length) ∨ (∃ word tail : List Nat, (∀ c ∈ word, 65 ≤ c ∧ c ≤ 81) ∧ tt0 = 34 :: (word ++ 34 :: tail) ∧ res = word ∧ p0 = i + ws.length + 1 + word.length + 1) ∨
      (∃ (c0 : Nat) (word tail : List Nat), (65 ≤ c0 ∧ c0 ≤ 81) ∧ (∀ c ∈ word, 65 ≤ c ∧ c ≤ 81) ∧ tt0 = 92 :: c0 :: (esc word ++ 9 :: tail) ∧ res = c0 :: word ∧ p0 = i + ws.length + 2 + (esc word).length + 1)) → (hdrop : (sg txt).drop i = ws ++ tt0) → (hi : i ≤ txt.length) → (hx : txt.length < 1000) → (hM : Mach w loose mean mg mb x d pb la st txt rest) → AskV 16 w loose mean mg mb 76 ((pb, W.listOf #[] nq) :: (x, instObj 86 d) :: (d, mDict w line st pb k1 k2 k3 k4 k5 k6) :: (la, W.listOf #[.int (i : Int) ti] nl) :: rest) [.ref x] (fun h₀ L m s Q => ∀ (k2' ti' t : Tok) (h' : Heap) (tk' : Nat), Fr h₀ L h' m →
      News h₀ L h' ((pb, W.listOf #[] nq) :: (x, instObj 86 d) :: (d, mDict w (line + nlOf ws) st pb k1 k2' k3 k4 k5 k6) :: (la, W.listOf #[.int ((p0 : Nat) : Int) ti'] nl) :: rest) →
        Q (.str ⟨res.toArray⟩ t) { s with heap := h', toks := tk' }) dp un gd cn cs a ccd cl outer A₀ base h₀ L m s Q E
noncomputable def PV9 (v : K9 × (List (Addr × Obj)) × (Str) × (Addr) × (Addr) × (Addr) × (Addr) × (Addr) × (Tok) × (Tok) × (Tok) × (Tok) × (Tok) × (Tok) × (Tok) × (Nat) × (Nat) × (Nat) × (Int)) : Prop := P9 v.1.1 v.1.2.1 v.1.2.2.1 v.1.2.2.2.1 v.1.2.2.2.2.1 v.1.2.2.2.2.2.1 v.1.2.2.2.2.2.2.1 v.1.2.2.2.2.2.2.2.1 v.1.2.2.2.2.2.2.2.2.1 v.1.2.2.2.2.2.2.2.2.2.1 v.1.2.2.2.2.2.2.2.2.2.2.1 v.1.2.2.2.2.2.2.2.2.2.2.2.1 v.1.2.2.2.2.2.2.2.2.2.2.2.2.1 v.1.2.2.2.2.2.2.2.2.2.2.2.2.2.1 v.1.2.2.2.2.2.2.2.2.2.2.2.2.2.2.1 v.1.2.2.2.2.2.2.2.2.2.2.2.2.2.2.2.1 v.1.2.2.2.2.2.2.2.2.2.2.2.2.2.2.2.2.1 v.1.2.2.2.2.2.2.2.2.2.2.2.2.2.2.2.2.2.1 v.1.2.2.2.2.2.2.2.2.2.2.2.2.2.2.2.2.2.2.1 v.1.2.2.2.2.2.2.2.2.2.2.2.2.2.2.2.2.2.2.2.1 v.1.2.2.2.2.2.2.2.2.2.2.2.2.2.2.2.2.2.2.2.2.1 v.1.2.2.2.2.2.2.2.2.2.2.2.2.2.2.2.2.2.2.2.2.2 v.2.1 v.2.2.1 v.2.2.2.1 v.2.2.2.2.1 v.2.2.2.2.2.1 v.2.2.2.2.2.2.1 v.2.2.2.2.2.2.2.1 v.2.2.2.2.2.2.2.2.1 v.2.2.2.2.2.2.2.2.2.1 v.2.2.2.2.2.2.2.2.2.2.1 v.2.2.2.2.2.2.2.2.2.2.2.1 v.2.2.2.2.2.2.2.2.2.2.2.2.1 v.2.2.2.2.2.2.2.2.2.2.2.2.2.1 v.2.2.2.2.2.2.2.2.2.2.2.2.2.2.1 v.2.2.2.2.2.2.2.2.2.2.2.2.2.2.2.1 v.2.2.2.2.2.2.2.2.2.2.2.2.2.2.2.2.1 v.2.2.2.2.2.2.2.2.2.2.2.2.2.2.2.2.2.1 v.2.2.2.2.2.2.2.2.2.2.2.2.2.2.2.2.2.2
theorem ex9 : ∃ c, PV9 c → ∀ v, PV9 v := sk9 ⟨(Classical.choice ne9, default, default, default, default, default, default, default, default, default, default, default, default, default, default, default, default, default, default)⟩ PV9
noncomputable def c9 : K9 × (List (Addr × Obj)) × (Str) × (Addr) × (Addr) × (Addr) × (Addr) × (Addr) × (Tok) × (Tok) × (Tok) × (Tok) × (Tok) × (Tok) × (Tok) × (Nat) × (Nat) × (Nat) × (Int) := Classical.choose ex9
noncomputable def w : World := c9.1.1
noncomputable def loose : List Str := c9.1.2.1
noncomputable def mean : ExcName → Option Value := c9.1.2.2.1
noncomputable def mg : Str → Option Value := c9.1.2.2.2.1
noncomputable def mb : Str → Option Value := c9.1.2.2.2.2.1
noncomputable def dp : Nat := c9.1.2.2.2.2.2.1
noncomputable def un : Nat := c9.1.2.2.2.2.2.2.1
noncomputable def a : Addr := c9.1.2.2.2.2.2.2.2.2.2.2.1
noncomputable def h₀ : Heap := c9.1.2.2.2.2.2.2.2.2.2.2.2.2.2.2.2.2.1
noncomputable def L : Addr := c9.1.2.2.2.2.2.2.2.2.2.2.2.2.2.2.2.2.2.1
noncomputable def m : Str → Option Value := c9.1.2.2.2.2.2.2.2.2.2.2.2.2.2.2.2.2.2.2.1
noncomputable def s : Shared := c9.1.2.2.2.2.2.2.2.2.2.2.2.2.2.2.2.2.2.2.2.1
noncomputable def Q : Value → Shared → Prop := c9.1.2.2.2.2.2.2.2.2.2.2.2.2.2.2.2.2.2.2.2.2.1
noncomputable def E : Value → Shared → Prop := c9.1.2.2.2.2.2.2.2.2.2.2.2.2.2.2.2.2.2.2.2.2.2
noncomputable def rest : List (Addr × Obj) := c9.2.1
noncomputable def txt : Str := c9.2.2.1
noncomputable def x : Addr := c9.2.2.2.1
noncomputable def d : Addr := c9.2.2.2.2.1
noncomputable def pb : Addr := c9.2.2.2.2.2.1
noncomputable def la : Addr := c9.2.2.2.2.2.2.1
noncomputable def st : Addr := c9.2.2.2.2.2.2.2.1
noncomputable def k1 : Tok := c9.2.2.2.2.2.2.2.2.1
noncomputable def k2 : Tok := c9.2.2.2.2.2.2.2.2.2.1
noncomputable def k3 : Tok := c9.2.2.2.2.2.2.2.2.2.2.1
noncomputable def k4 : Tok := c9.2.2.2.2.2.2.2.2.2.2.2.1
noncomputable def k5 : Tok := c9.2.2.2.2.2.2.2.2.2.2.2.2.1
noncomputable def k6 : Tok := c9.2.2.2.2.2.2.2.2.2.2.2.2.2.1
noncomputable def ti : Tok := c9.2.2.2.2.2.2.2.2.2.2.2.2.2.2.1
noncomputable def nq : Nat := c9.2.2.2.2.2.2.2.2.2.2.2.2.2.2.2.1
noncomputable def nl : Nat := c9.2.2.2.2.2.2.2.2.2.2.2.2.2.2.2.2.1
noncomputable def i : Nat := c9.2.2.2.2.2.2.2.2.2.2.2.2.2.2.2.2.2.1
noncomputable def line : Int := c9.2.2.2.2.2.2.2.2.2.2.2.2.2.2.2.2.2.2
end get_token_page_K
open get_token_page_K in
set_option maxHeartbeats 8000000 in
set_option maxRecDepth 100000 in
theorem get_token_page_at : P9 w loose mean mg mb dp un (c9.1.2.2.2.2.2.2.2.1) (c9.1.2.2.2.2.2.2.2.2.1) (c9.1.2.2.2.2.2.2.2.2.2.1) a (c9.1.2.2.2.2.2.2.2.2.2.2.2.1) (c9.1.2.2.2.2.2.2.2.2.2.2.2.2.1) (c9.1.2.2.2.2.2.2.2.2.2.2.2.2.2.1) (c9.1.2.2.2.2.2.2.2.2.2.2.2.2.2.2.1) (c9.1.2.2.2.2.2.2.2.2.2.2.2.2.2.2.2.1) h₀ L m s Q E rest txt x d pb la st k1 k2 k3 k4 k5 k6 ti nq nl i line := by
  k_with_none
  w_top off
  intro ws tt0 res p0 hws hT hdrop hi hx hM B F X N T hk hdp hun codeHd hret
  have fill9 : Challenge.rw_sr0027_01 = Challenge.rw_sr0027_01 ∧ hd.heap_39 = hd.heap_39 := by k_fill; exact ⟨rfl, rfl⟩
  k_dflt (refine' code_def ?k1 ?k2 ?k3 ?k4 ?k5 ?kA ?kF ?kK ?k6 ?k7 ?k8 ?k9 ?kB ?_ ?c2 ?c3 ?c4 ?c5; (case kA => exact rfl); (case kF => exact rfl); (case kK => first | exact rfl | assumption); (case k1 => k_asm); (case k2 => k_asm); (case k3 => k_asm); (case k4 => k_asm); (case k5 => k_asm); (case k6 => k_is); (case k7 => k_is); (case k8 => ktr_room); (case k9 => first | exact BindsTo.of_eq rfl | exact binds_K (by k_in) rfl (by k_is) rfl rfl rfl); (case c5 => decide); (case kB => exact locs rfl); (case c2 => exact rfl); (case c3 => exact rfl); (case c4 => exact rfl))
  intro g1 L1 hh1 FG1 F1 N1 B1 X1 T1
  (try dsimp only); (try k_fold)
  have hnd := hM.nd
  have hnpb := hM.npb
  have hnla := hM.nla
  have e1 := neN hM.xd
  have e2 := neN hM.xpb
  have e3 := neN hM.xla
  have e4 := neN hM.dpb
  have e5 := neN hM.dla
  have e6 := neN hM.pbla
  (k_with "call builtin:iter" => (k_dflt (refine' Mine.citer_make_K ?F ?N ?m ?_; (case F => k_asm); (case N => k_asm); (case m => k_mem); k_whole); intro it' h' F' N' l1; (try k_lt l1); (try k_sweep)))
  k_steps
  (with_reducible rename Fr g1 L1 _ _ => kF)
  (with_reducible rename News g1 L1 _ ((it', _) :: (_, _) :: _) => kN)
  obtain ⟨QQ, TT, o2, o3, kN⟩ : ∃ (QQ : Addr) (TT : Tok), Off QQ d pb la ∧ it' ≠ QQ ∧ News g1 L1 _ ((it', citObj QQ TT) :: (QQ, methodObj (.ref 69) (.ref x)) :: _) := ⟨_, _, by exact ⟨neN (by omega), neN (by omega), neN (by omega)⟩, neN (by omega), kN⟩
  obtain ⟨m9, t9, kF⟩ : ∃ (m9 : Str → Option Value) (t9 : Tok), Fr g1 L1 _ (ov1 (Str.ofString "self") (ov1 (Str.ofString "fiter") (ov1 (Str.ofString "token") m9 (some (.str (Str.ofString "") t9))) (some (.ref it'))) (some (.ref x))) := ⟨_, _, Fr.cast' kF (ov3s _ _ _ _ rfl rfl rfl)⟩
  have o1 : Off it' d pb la := ⟨neN (by omega), neN (by omega), neN (by omega)⟩
  have o4 : it' ≠ x := neN (by omega)
  have o5 : ∀ p ∈ rest, p.1 ≠ it' := by k_all
  have hil : (sg txt).length = txt.length := by simp [sg, Str.length]
  have hM2 := hM.two (o1 := citObj QQ TT) (o2 := methodObj (.ref 69) (.ref x)) o1 o2
  (k_with "call ref" => ((with_reducible show wpAny _ _ (call (Value.ref 69) _) _ _ _); k_dflt (refine' rc_rule w loose mean mg mb _ txt x d pb la st k1 _ k3 k4 k5 k6 _ [] nq nl _ _ it' _ _ hx hM2 (by k_asm) (by k_asm) (by k_asm) (by k_asm) (by k_asm) (by first | exact rfl | assumption) (by ktr_room) (by ktr_units) (by assumption) (by assumption) ?_); intro k2n tin tn h' tk' F9 N9; (try dsimp only); (try k_sweep); (try k_fold)))
  refine mfor it' (fun k s' => ∃ j line', ScanSt w g1 L1 (ov1 (Str.ofString "self") (ov1 (Str.ofString "fiter") (ov1 (Str.ofString "token") m9 (some (.str (Str.ofString "") t9))) (some (.ref it'))) (some (.ref x))) s x d pb la st it' QQ TT k1 k3 k4 k5 k6 nq nl rest [] j line' s' ∧ ((k = 2 ∧ j = i ∧ line' = line ∧ ws = [10]) ∨ (k = 1 ∧ j = i + ws.length ∧ line' = line + nlOf ws))) ?_ ?_
  · k_dflt (refine' ld ?q1 ?q2 ?_; (case q1 => exact kF); (case q2 => exact rfl))
    refine citer_iter (kN.get (.head _)) ⟨rfl, ?_⟩
    rcases hws with rfl | rfl
    · exact ⟨1, i, line, ScanSt.start kF kN rfl, .inr ⟨rfl, rfl, (Int.add_zero _).symm⟩⟩
    · exact ⟨2, i, line, ScanSt.start kF kN rfl, .inl ⟨rfl, rfl, rfl, rfl⟩⟩
  · intro k s' hJ0_2
    refine foldG9 ?_
    intro GG
    obtain ⟨j, line', ⟨h', tk', k2', ti', tt, cv, rfl, kF', kN'⟩, hc⟩ := hJ0_2
    dsimp only [GG]
    clear GG
    have hj : j ≤ txt.length := by
      have := congrArg List.length hdrop
      simp only [List.length_drop, List.length_append] at this
      rcases hc with ⟨_, rfl, _⟩ | ⟨_, rfl, _⟩ <;> omega
    k_dflt (refine' next_spec w loose mean mg mb rest txt x d pb la st k1 k2' k3 k4 k5 k6 ti' [] nq nl j line' it' _ _ hj hx hM o1 o2 o3 o5 o4 ?B ?F ?X ?N ?T ?K ?dp ?un ?cd ?some ?none; (case B => k_asm); (case F => exact kF'); (case X => k_asm); (case N => exact kN'); (case T => k_asm); (case K => exact rfl); (case dp => ktr_room); (case un => ktr_units); (case cd => assumption))
    case none =>
      intro he k2n tin h'' tk'' kFn kNn
      rcases hc with ⟨_, rfl, _, rfl⟩ | ⟨_, rfl, rfl⟩
      · rw [hdrop] at he; cases he
      · rw [← List.drop_drop, hdrop, List.drop_left] at he
        subst he
        rcases hT with ⟨_, rfl, rfl⟩ | ⟨_, _, _, hz, _⟩ | ⟨_, _, _, _, _, hz, _⟩
        · refine owitTurn_none ?_
          k_steps
          (with_reducible rename News h₀ L _ ((_, _) :: (pb, _) :: _) => kN5)
          exact hret _ _ _ _ _ (by k_asm) (news_drop1 kN5)
        · cases hz
        · cases hz
    case some =>
      intro c tl he k2'' ti'' t2 h'' tk'' kF'' kN''
      refine owitTurn_some ?_
      rcases hc with ⟨rfl, rfl, rfl, rfl⟩ | ⟨rfl, rfl, rfl⟩
      · have hc10 : c = 10 := by
          rw [hdrop] at he; injection he with e _; exact e.symm
        subst hc10
        k_steps
        (with_reducible rename Fr g1 L1 _ _ => kF3)
        exact ⟨⟨1, by decide, _, _, ⟨_, _, _, _, _, _, rfl, Fr.cast' kF3 (ovl_ch _ _ _ _), by k_asm⟩, .inr ⟨rfl, rfl, rfl⟩⟩⟩
      · rw [← List.drop_drop, hdrop, List.drop_left] at he
        rcases hT with ⟨rfl, rfl, rfl⟩ | ⟨word, tail, hw, rfl, hres, rfl⟩ | ⟨c0, word, tail, hw0, hw, rfl, rfl, rfl⟩
        · cases he
        · have hres := hres.symm
          subst hres
          obtain rfl : c = 34 := (List.cons.inj he).1.symm
          k_steps
          (with_reducible rename Fr g1 L1 _ _ => kF3)
          (with_reducible rename News g1 L1 _ ((it', _) :: (_, _) :: _) => kN3)
          refine mfor it' (fun k s' => ∃ a b, word = a ++ b ∧ k = b.length + 1 ∧ ScanSt w g1 L1 (ov1 (Str.ofString "self") (ov1 (Str.ofString "fiter") (ov1 (Str.ofString "token") m9 (some (.str (Str.ofString "") t9))) (some (.ref it'))) (some (.ref x))) s x d pb la st it' QQ TT k1 k3 k4 k5 k6 nq nl rest a (i + ws.length + 1 + a.length) (line + nlOf ws) s') ?_ ?_
          · k_dflt (refine' ld ?q1 ?q2 ?_; (case q1 => exact kF3); (case q2 => exact rfl))
            have e0 : nlOf [34] = 0 := rfl
            rw [e0, Int.add_zero] at kN3
            exact citer_iter (kN3.get (.head _)) ⟨rfl, _, [], word, rfl, rfl, _, _, _, _, _, _, rfl, Fr.cast' kF3 (ovl_ch _ _ _ _), kN3⟩
          · clear kF3 kN3
            intro k s' hJ1_2
            refine foldG9 ?_
            intro GG
            obtain ⟨a, b, hab, rfl, h', tk', k2', ti', tt, cv, rfl, kF3, kN3⟩ := hJ1_2
            dsimp only [GG]
            clear GG
            try dsimp only at kF3 kN3
            have hdj : (sg txt).drop (i + ws.length + 1 + a.length) = b ++ 34 :: tail := by
              have h1 : (sg txt).drop (i + ws.length) = 34 :: (word ++ 34 :: tail) := by rw [← List.drop_drop, hdrop, List.drop_left]
              rw [← List.drop_drop, ← List.drop_drop, h1, List.drop_one, List.tail_cons, hab, List.append_assoc, List.drop_left]
            have hj : i + ws.length + 1 + a.length ≤ txt.length := by
              have := congrArg List.length hdj
              simp only [List.length_drop, List.length_append, List.length_cons] at this
              omega
            k_dflt (refine' next_spec w loose mean mg mb rest txt x d pb la st k1 k2' k3 k4 k5 k6 ti' [] nq nl _ (line + nlOf ws) it' _ _ hj hx hM o1 o2 o3 o5 o4 ?B ?F ?X ?N ?T ?K ?dp ?un ?cd ?some ?none; (case B => k_asm); (case F => exact kF3); (case X => k_asm); (case N => exact kN3); (case T => k_asm); (case K => exact rfl); (case dp => ktr_room); (case un => ktr_units); (case cd => assumption))
            case none =>
              intro he
              exfalso
              rw [hdj] at he
              cases b <;> cases he
            case some =>
              intro c tl he k2'' ti'' t2 h'' tk'' kF4 kN4
              refine owitTurn_some ?_
              rw [hdj] at he
              cases b with
              | nil =>
                injection he with e _
                subst e
                have e0 : nlOf [34] = 0 := rfl
                rw [e0, Int.add_zero] at kN4
                rw [List.append_nil] at hab
                subst hab
                k_steps
                (with_reducible rename News h₀ L _ ((it', _) :: (_, _) :: _) => kN5)
                exact hret _ _ _ _ _ (by k_asm) (news_drop1 (news_drop1 kN5))
              | cons c' b' =>
                injection he with e _
                subst e
                have hcw := hw c' (by rw [hab]; simp)
                have hq1 := no_quote hcw
                have hq2 := no_back hcw
                have e0 : nlOf [c'] = 0 := nlOf_ne (by omega)
                rw [e0, Int.add_zero] at kN4
                k_steps
                (with_reducible rename Fr g1 L1 _ _ => kF5)
                (with_reducible rename News g1 L1 _ ((it', _) :: (_, _) :: _) => kN5)
                have e9 : i + ws.length + 1 + a.length + 1 = i + ws.length + 1 + (a ++ [c']).length := by simp only [List.length_append, List.length_cons, List.length_nil]; omega
                rw [e9] at kN5
                exact ⟨⟨_, Nat.lt_succ_self _, a ++ [c'], b', by rw [hab]; simp, rfl, _, _, _, _, _, _, rfl, Fr.cast' kF5 ((ovl_tokch _ _ _ _ _).trans (by rw [str_snoc])), kN5⟩⟩
        · obtain rfl : c = 92 := (List.cons.inj he).1.symm
          have e0 : nlOf [92] = 0 := rfl
          rw [e0, Int.add_zero] at kN''
          have h1 : (sg txt).drop (i + ws.length) = 92 :: c0 :: (esc word ++ 9 :: tail) := by rw [← List.drop_drop, hdrop, List.drop_left]
          have h2 : (sg txt).drop (i + ws.length + 1) = c0 :: (esc word ++ 9 :: tail) := by rw [← List.drop_drop, h1]; rfl
          k_steps
          (with_reducible rename Fr g1 L1 _ _ => kF3)
          (with_reducible rename News g1 L1 _ ((it', _) :: (_, _) :: _) => kN3)
          have e0 : nlOf [c0] = 0 := nlOf_ne (by omega)
          rw [e0, Int.add_zero] at kN3
          clear h1 h2
          refine mfor it' (fun k s' => ∃ a b, word = a ++ b ∧ k = b.length + 1 ∧ ScanSt w g1 L1 (ov1 (Str.ofString "self") (ov1 (Str.ofString "fiter") (ov1 (Str.ofString "token") m9 (some (.str (Str.ofString "") t9))) (some (.ref it'))) (some (.ref x))) s x d pb la st it' QQ TT k1 k3 k4 k5 k6 nq nl rest (c0 :: a) (i + ws.length + 2 + (esc a).length) (line + nlOf ws) s') ?_ ?_
          · k_dflt (refine' ld ?q1 ?q2 ?_; (case q1 => exact kF3); (case q2 => exact rfl))
            exact citer_iter (kN3.get (.head _)) ⟨rfl, _, [], word, rfl, rfl, _, _, _, _, _, _, rfl, Fr.cast' kF3 ((ovl_tokch2 _ _ _ _ _ _).trans (by rw [str_snoc]; rfl)), kN3⟩
          · clear kF3 kN3
            intro k s' hJ2_2
            refine foldG9 ?_
            intro GG
            obtain ⟨a, b, hab, rfl, h', tk', k2', ti', tt, cv, rfl, kF3, kN3⟩ := hJ2_2
            dsimp only [GG]
            clear GG
            try dsimp only at kF3 kN3
            have hdj : (sg txt).drop (i + ws.length + 2 + (esc a).length) = esc b ++ 9 :: tail := by
              have h1 : (sg txt).drop (i + ws.length) = 92 :: c0 :: (esc word ++ 9 :: tail) := by rw [← List.drop_drop, hdrop, List.drop_left]
              rw [← List.drop_drop, ← List.drop_drop, h1]
              show (esc word ++ 9 :: tail).drop _ = _
              rw [hab]
              simp only [esc, List.flatMap_append, List.append_assoc]
              rw [List.drop_left]
            have hj : i + ws.length + 2 + (esc a).length ≤ txt.length := by
              have := congrArg List.length hdj
              simp only [List.length_drop, List.length_append, List.length_cons] at this
              omega
            k_dflt (refine' next_spec w loose mean mg mb rest txt x d pb la st k1 k2' k3 k4 k5 k6 ti' [] nq nl _ (line + nlOf ws) it' _ _ hj hx hM o1 o2 o3 o5 o4 ?B ?F ?X ?N ?T ?K ?dp ?un ?cd ?some ?none; (case B => k_asm); (case F => exact kF3); (case X => k_asm); (case N => exact kN3); (case T => k_asm); (case K => exact rfl); (case dp => ktr_room); (case un => ktr_units); (case cd => assumption))
            case none =>
              intro he
              exfalso
              rw [hdj] at he
              cases b <;> cases he
            case some =>
              intro c tl he k2'' ti'' t2 h'' tk'' kF4 kN4
              refine owitTurn_some ?_
              rw [hdj] at he
              cases b with
              | nil =>
                injection he with e _
                subst e
                have e1 : nlOf [9] = 0 := rfl
                rw [e1, Int.add_zero] at kN4
                rw [List.append_nil] at hab
                subst hab
                k_steps
                (with_reducible rename News h₀ L _ ((it', _) :: (_, _) :: _) => kN5)
                exact hret _ _ _ _ _ (by k_asm) (news_drop1 (news_drop1 kN5))
              | cons c' b' =>
                injection he with e _
                subst e
                have hcw := hw c' (by rw [hab]; simp)
                have e1 : nlOf [92] = 0 := rfl
                rw [e1, Int.add_zero] at kN4
                have hal : a.length + 10 ≤ 1100 := by
                  have := esc_len a
                  omega
                have h3 : (sg txt).drop (i + ws.length + 2 + (esc a).length + 1) = c' :: (esc b' ++ 9 :: tail) := by rw [← List.drop_drop, hdj]; rfl
                k_steps
                (with_reducible rename Fr g1 L1 _ _ => kF5)
                (with_reducible rename News g1 L1 _ ((it', _) :: (_, _) :: _) => kN5)
                have e2 : nlOf [c'] = 0 := nlOf_ne (by omega)
                rw [e2, Int.add_zero] at kN5
                have e9 : i + ws.length + 2 + (esc a).length + 1 + 1 = i + ws.length + 2 + (esc (a ++ [c'])).length := by simp only [esc, List.flatMap_append, List.flatMap_cons, List.flatMap_nil, List.length_append, List.length_cons, List.length_nil]; omega
                rw [e9] at kN5
                exact ⟨⟨_, Nat.lt_succ_self _, a ++ [c'], b', by rw [hab]; simp, rfl, _, _, _, _, _, _, rfl, Fr.cast' kF5 ((ovl_tokch2 _ _ _ _ _ _).trans (by rw [str_snoc]; rfl)), kN5⟩⟩
theorem get_token_page (w : World) (loose : List Str) (mean : ExcName → Option Value) (mg mb : Str → Option Value) (rest : List (Addr × Obj)) (txt : Str) (x d pb la st : Addr) (k1 k2 k3 k4 k5 k6 ti : Tok) (nq nl i : Nat) (line : Int) (ws tt0 res : List Nat) (p0 : Nat) (hws : ws = [] ∨ ws = [10]) (hT : (tt0 = [] ∧ res = [] ∧ p0 = i + ws.length) ∨ (∃ word tail : List Nat, (∀ c ∈ word, 65 ≤ c ∧ c ≤ 81) ∧ tt0 = 34 :: (word ++ 34 :: tail) ∧ res = word ∧ p0 = i + ws.length + 1 + word.length + 1) ∨
      (∃ (c0 : Nat) (word tail : List Nat), (65 ≤ c0 ∧ c0 ≤ 81) ∧ (∀ c ∈ word, 65 ≤ c ∧ c ≤ 81) ∧ tt0 = 92 :: c0 :: (esc word ++ 9 :: tail) ∧ res = c0 :: word ∧ p0 = i + ws.length + 2 + (esc word).length + 1)) (hdrop : (sg txt).drop i = ws ++ tt0) (hi : i ≤ txt.length) (hx : txt.length < 1000) (hM : Mach w loose mean mg mb x d pb la st txt rest) :
    Asks 16 w loose mean mg mb 76 ((pb, W.listOf #[] nq) :: (x, instObj 86 d) :: (d, mDict w line st pb k1 k2 k3 k4 k5 k6) :: (la, W.listOf #[.int (i : Int) ti] nl) :: rest) [.ref x] (fun h₀ L m s Q => ∀ (k2' ti' t : Tok) (h' : Heap) (tk' : Nat), Fr h₀ L h' m →
      News h₀ L h' ((pb, W.listOf #[] nq) :: (x, instObj 86 d) :: (d, mDict w (line + nlOf ws) st pb k1 k2' k3 k4 k5 k6) :: (la, W.listOf #[.int ((p0 : Nat) : Int) ti'] nl) :: rest) →
        Q (.str ⟨res.toArray⟩ t) { s with heap := h', toks := tk' }) :=
  fun dp un gd cn cs a ccd cl outer A₀ base h₀ L m s Q E => Classical.choose_spec get_token_page_K.ex9 get_token_page_at ((w, loose, mean, mg, mb, dp, un, gd, cn, cs, a, ccd, cl, outer, A₀, base, h₀, L, m, s, Q, E), rest, txt, x, d, pb, la, st, k1, k2, k3, k4, k5, k6, ti, nq, nl, i, line) ws tt0 res p0 hws hT hdrop hi hx hM
theorem get_token_quoted (w : World) (loose : List Str) (mean : ExcName → Option Value) (mg mb : Str → Option Value) (rest : List (Addr × Obj)) (txt : Str) (x d pb la st : Addr) (k1 k2 k3 k4 k5 k6 ti : Tok) (nq nl i : Nat) (line : Int) (ws word tail : List Nat) (hws : ws = [] ∨ ws = [10]) (hw : ∀ c ∈ word, 65 ≤ c ∧ c ≤ 81) (hdrop : (sg txt).drop i = ws ++ 34 :: (word ++ 34 :: tail))
    (hi : i ≤ txt.length) (hx : txt.length < 1000) (hM : Mach w loose mean mg mb x d pb la st txt rest) : Asks 16 w loose mean mg mb 76 ((pb, W.listOf #[] nq) :: (x, instObj 86 d) :: (d, mDict w line st pb k1 k2 k3 k4 k5 k6) :: (la, W.listOf #[.int (i : Int) ti] nl) :: rest) [.ref x] (fun h₀ L m s Q => ∀ (k2' ti' t : Tok) (h' : Heap) (tk' : Nat), Fr h₀ L h' m →
      News h₀ L h' ((pb, W.listOf #[] nq) :: (x, instObj 86 d) :: (d, mDict w (line + nlOf ws) st pb k1 k2' k3 k4 k5 k6) :: (la, W.listOf #[.int ((i + ws.length + 1 + word.length + 1 : Nat) : Int) ti'] nl) :: rest) →
        Q (.str ⟨word.toArray⟩ t) { s with heap := h', toks := tk' }) :=
  get_token_page w loose mean mg mb rest txt x d pb la st k1 k2 k3 k4 k5 k6 ti nq nl i line ws _ word _ hws (.inr (.inl ⟨word, tail, hw, rfl, rfl, rfl⟩)) hdrop hi hx hM
theorem get_token_bare (w : World) (loose : List Str) (mean : ExcName → Option Value) (mg mb : Str → Option Value) (rest : List (Addr × Obj)) (txt : Str) (x d pb la st : Addr) (k1 k2 k3 k4 k5 k6 ti : Tok) (nq nl i : Nat) (line : Int) (ws word tail : List Nat) (c0 : Nat) (hws : ws = [] ∨ ws = [10]) (hw0 : 65 ≤ c0 ∧ c0 ≤ 81) (hw : ∀ c ∈ word, 65 ≤ c ∧ c ≤ 81) (hdrop : (sg txt).drop i = ws ++ 92 :: c0 :: (esc word ++ 9 :: tail))
    (hi : i ≤ txt.length) (hx : txt.length < 1000) (hM : Mach w loose mean mg mb x d pb la st txt rest) : Asks 16 w loose mean mg mb 76 ((pb, W.listOf #[] nq) :: (x, instObj 86 d) :: (d, mDict w line st pb k1 k2 k3 k4 k5 k6) :: (la, W.listOf #[.int (i : Int) ti] nl) :: rest) [.ref x] (fun h₀ L m s Q => ∀ (k2' ti' t : Tok) (h' : Heap) (tk' : Nat), Fr h₀ L h' m →
      News h₀ L h' ((pb, W.listOf #[] nq) :: (x, instObj 86 d) :: (d, mDict w (line + nlOf ws) st pb k1 k2' k3 k4 k5 k6) :: (la, W.listOf #[.int ((i + ws.length + 2 + (esc word).length + 1 : Nat) : Int) ti'] nl) :: rest) →
        Q (.str ⟨(c0 :: word).toArray⟩ t) { s with heap := h', toks := tk' }) :=
  get_token_page w loose mean mg mb rest txt x d pb la st k1 k2 k3 k4 k5 k6 ti nq nl i line ws _ (c0 :: word) _ hws (.inr (.inr ⟨c0, word, tail, hw0, hw, rfl, rfl, rfl⟩)) hdrop hi hx hM
theorem get_token_end (w : World) (loose : List Str) (mean : ExcName → Option Value) (mg mb : Str → Option Value) (rest : List (Addr × Obj)) (txt : Str) (x d pb la st : Addr) (k1 k2 k3 k4 k5 k6 ti : Tok) (nq nl i : Nat) (line : Int) (ws : List Nat) (hws : ws = [] ∨ ws = [10]) (hdrop : (sg txt).drop i = ws)
    (hi : i ≤ txt.length) (hx : txt.length < 1000) (hM : Mach w loose mean mg mb x d pb la st txt rest) : Asks 16 w loose mean mg mb 76 ((pb, W.listOf #[] nq) :: (x, instObj 86 d) :: (d, mDict w line st pb k1 k2 k3 k4 k5 k6) :: (la, W.listOf #[.int (i : Int) ti] nl) :: rest) [.ref x] (fun h₀ L m s Q => ∀ (k2' ti' t : Tok) (h' : Heap) (tk' : Nat), Fr h₀ L h' m →
      News h₀ L h' ((pb, W.listOf #[] nq) :: (x, instObj 86 d) :: (d, mDict w (line + nlOf ws) st pb k1 k2' k3 k4 k5 k6) :: (la, W.listOf #[.int ((i + ws.length : Nat) : Int) ti'] nl) :: rest) →
        Q (.str ⟨([] : List Nat).toArray⟩ t) { s with heap := h', toks := tk' }) :=
  get_token_page w loose mean mg mb rest txt x d pb la st k1 k2 k3 k4 k5 k6 ti nq nl i line ws [] [] _ hws (.inl ⟨rfl, rfl, rfl⟩) (by rw [List.append_nil]; exact hdrop) hi hx hM
end

section
set_option maxHeartbeats 4000000 in
set_option maxRecDepth 100000 in
theorem seq0 (v : Value) (q : List Value) : seqIndex? 0 (v :: q).toArray.size = some 0 := by simp [seqIndex?]
set_option maxHeartbeats 4000000 in
set_option maxRecDepth 100000 in
theorem get_token_pop (w : World) (loose : List Str) (mean : ExcName → Option Value) (mg mb : Str → Option Value) (rest : List (Addr × Obj)) (txt : Str) (x d pb la st : Addr) (k1 k2 k3 k4 k5 k6 ti : Tok) (q : List Value) (nq nl i : Nat) (line : Int) (v : Value) (hq : q.length < 1000) (hM : Mach w loose mean mg mb x d pb la st txt rest) : Asks 16 w loose mean mg mb 76 ((pb, W.listOf (v :: q).toArray nq) :: (x, instObj 86 d) :: (d, mDict w line st pb k1 k2 k3 k4 k5 k6) :: (la, W.listOf #[.int (i : Int) ti] nl) :: rest) [.ref x] (fun h₀ L m s Q => ∀ (h' : Heap) (tk' : Nat), Fr h₀ L h' m → News h₀ L h' ((pb, W.listOf q.toArray (nq + 1)) :: (x, instObj 86 d) :: (d, mDict w line st pb k1 k2 k3 k4 k5 k6) :: (la, W.listOf #[.int (i : Int) ti] nl) :: rest) → Q v { s with heap := h', toks := tk' }) := by
  k_with_none
  w_top off
  intro dp un gd cn cs a ccd cl outer A₀ base h₀ L m s Q E B F X N T hk hdp hun codeHd hret
  have fill9 : Challenge.rw_sr0027_01 = Challenge.rw_sr0027_01 ∧ hd.heap_39 = hd.heap_39 := by k_fill; exact ⟨rfl, rfl⟩
  k_dflt (first | (refine' code_defC ?k1 ?k2 ?k3 ?k4 ?k5 ?kA ?kF ?kK ?k6 ?k7 ?k8 ?k9 ?kB ?kD ?_ ?c2 ?c3 ?c4; (case kA => exact rfl); (case kF => exact rfl); (case kK => first | exact rfl | assumption); (case k1 => k_asm); (case k2 => k_asm); (case k3 => k_asm); (case k4 => k_asm); (case k5 => k_asm); (case k6 => k_is); (case k7 => k_is); (case k8 => ktr_room); (case k9 => first | exact BindsTo.of_eq rfl | exact binds_K (by k_in) rfl (by k_is) rfl rfl rfl | (refine' kp_binds ?kx ?ke; (case kx => k_in); (case ke => exact fun _ => rfl)) | fail "k9"); (case kB => exact rfl); (case kD => decide +kernel); (case c2 => exact rfl); (case c3 => exact rfl); (case c4 => exact rfl); k_whole; intro g' L' h' tk' cells' FG' F' N' Y' B' X' T' l1; (try k_lt l1); k_cells Y'; (try simp only [List.cons_append, List.nil_append] at N'); (try dsimp only); (try k_lift B'); (try k_fold)) | (refine' code_def ?k1 ?k2 ?k3 ?k4 ?k5 ?kA ?kF ?kK ?k6 ?k7 ?k8 ?k9 ?kB ?_ ?c2 ?c3 ?c4 ?c5; (case kA => exact rfl); (case kF => exact rfl); (case kK => first | exact rfl | assumption); (case k1 => k_asm); (case k2 => k_asm); (case k3 => k_asm); (case k4 => k_asm); (case k5 => k_asm); (case k6 => k_is); (case k7 => k_is); (case k8 => ktr_room); (case k9 => first | exact BindsTo.of_eq rfl | exact binds_K (by k_in) rfl (by k_is) rfl rfl rfl | (refine' kp_binds ?kx ?ke; (case kx => k_in); (case ke => exact fun _ => rfl)) | fail "k9"); (case c5 => decide); (case kB => exact locs rfl); (case c2 => exact rfl); (case c3 => exact rfl); (case c4 => exact rfl); k_whole; intro g' L' h' FG' F' N' B' X' T'; (try dsimp only); (try k_lift B'); (try k_fold)))
  have hnd := hM.nd
  have hnpb := hM.npb
  have hnla := hM.nla
  have e1 := neN hM.xd
  have e2 := neN hM.xpb
  have e3 := neN hM.xla
  have e4 := neN hM.dpb
  have e5 := neN hM.dla
  have e6 := neN hM.pbla
  (k_with "call builtin:list.pop" => (k_dflt (refine' kl_popAt (by k_asm) (by k_asm) (by decide) (Mine.seq0 v q) rfl ?U ?z ?_; (case U => k_upd); (case z => (simp only [List.length_cons]; rw [sizeLine_eq]; omega)); k_whole); intro h' F' N'; (try k_sweep)))
  k_steps
  exact hret _ _ (by k_asm) (by k_asm)
set_option maxHeartbeats 4000000 in
set_option maxRecDepth 100000 in
theorem push_token_spec (w : World) (loose : List Str) (mean : ExcName → Option Value) (mg mb : Str → Option Value) (rest : List (Addr × Obj)) (txt : Str) (x d pb la st : Addr) (k1 k2 k3 k4 k5 k6 ti : Tok) (q : List Value) (nq nl i : Nat) (line : Int) (v : Str) (tv : Tok) (hq : q.length < 1000) (hM : Mach w loose mean mg mb x d pb la st txt rest) : Asks 16 w loose mean mg mb 83 ((pb, W.listOf q.toArray nq) :: (x, instObj 86 d) :: (d, mDict w line st pb k1 k2 k3 k4 k5 k6) :: (la, W.listOf #[.int (i : Int) ti] nl) :: rest) [.ref x, .str v tv] (fun h₀ L m s Q => ∀ (h' : Heap) (tk' : Nat), Fr h₀ L h' m → News h₀ L h' ((pb, W.listOf (q ++ [Value.str v tv]).toArray (nq + 1)) :: (x, instObj 86 d) :: (d, mDict w line st pb k1 k2 k3 k4 k5 k6) :: (la, W.listOf #[.int (i : Int) ti] nl) :: rest) → Q .none { s with heap := h', toks := tk' }) := by
  k_with_none
  w_top off
  intro dp un gd cn cs a ccd cl outer A₀ base h₀ L m s Q E B F X N T hk hdp hun codeHd hret
  have fill9 : Challenge.rw_sr0027_01 = Challenge.rw_sr0027_01 ∧ hd.heap_39 = hd.heap_39 := by k_fill; exact ⟨rfl, rfl⟩
  k_dflt (first | (refine' code_defC ?k1 ?k2 ?k3 ?k4 ?k5 ?kA ?kF ?kK ?k6 ?k7 ?k8 ?k9 ?kB ?kD ?_ ?c2 ?c3 ?c4; (case kA => exact rfl); (case kF => exact rfl); (case kK => first | exact rfl | assumption); (case k1 => k_asm); (case k2 => k_asm); (case k3 => k_asm); (case k4 => k_asm); (case k5 => k_asm); (case k6 => k_is); (case k7 => k_is); (case k8 => ktr_room); (case k9 => first | exact BindsTo.of_eq rfl | exact binds_K (by k_in) rfl (by k_is) rfl rfl rfl | (refine' kp_binds ?kx ?ke; (case kx => k_in); (case ke => exact fun _ => rfl)) | fail "k9"); (case kB => exact rfl); (case kD => decide +kernel); (case c2 => exact rfl); (case c3 => exact rfl); (case c4 => exact rfl); k_whole; intro g' L' h' tk' cells' FG' F' N' Y' B' X' T' l1; (try k_lt l1); k_cells Y'; (try simp only [List.cons_append, List.nil_append] at N'); (try dsimp only); (try k_lift B'); (try k_fold)) | (refine' code_def ?k1 ?k2 ?k3 ?k4 ?k5 ?kA ?kF ?kK ?k6 ?k7 ?k8 ?k9 ?kB ?_ ?c2 ?c3 ?c4 ?c5; (case kA => exact rfl); (case kF => exact rfl); (case kK => first | exact rfl | assumption); (case k1 => k_asm); (case k2 => k_asm); (case k3 => k_asm); (case k4 => k_asm); (case k5 => k_asm); (case k6 => k_is); (case k7 => k_is); (case k8 => ktr_room); (case k9 => first | exact BindsTo.of_eq rfl | exact binds_K (by k_in) rfl (by k_is) rfl rfl rfl | (refine' kp_binds ?kx ?ke; (case kx => k_in); (case ke => exact fun _ => rfl)) | fail "k9"); (case c5 => decide); (case kB => exact locs rfl); (case c2 => exact rfl); (case c3 => exact rfl); (case c4 => exact rfl); k_whole; intro g' L' h' FG' F' N' B' X' T'; (try dsimp only); (try k_lift B'); (try k_fold)))
  have hnd := hM.nd
  have hnpb := hM.npb
  have hnla := hM.nla
  have e1 := neN hM.xd
  have e2 := neN hM.xpb
  have e3 := neN hM.xla
  have e4 := neN hM.dpb
  have e5 := neN hM.dla
  have e6 := neN hM.pbla
  k_steps
  (with_reducible rename News h₀ L _ ((pb, _) :: _) => kN5)
  rw [List.push_toArray] at kN5
  exact hret _ _ (by k_asm) kN5
end

section
set_option maxHeartbeats 4000000 in
set_option maxRecDepth 100000 in
/-- what the masked sum has reached before turn k -/
noncomputable def msum (mask : Int) (ns : List Int) : Nat → Int
  | 0 => 0
  | k + 1 => if Builtin.bitAnd (mask.fdiv (2 ^ k)) 1 = 0 then msum mask ns k else Builtin.bitXor (msum mask ns k) (ns.getD k 0)
end

section
set_option maxHeartbeats 4000000 in
set_option maxRecDepth 100000 in
theorem ov2' (K P : Str) (m : Str → Option Value) (kc pc vk vp : Option Value) :
    (fun y => if y = P then vp else if y = K then vk else ov1 P (ov1 K m kc) pc y) = ov1 P (ov1 K m vk) vp := by
  funext y
  unfold ov1
  split
  · rfl
  · split
    · rfl
    · rfl
theorem ov2_k (K P : Str) (m : Str → Option Value) (kc pc vk : Option Value) (h : ¬ P = K) :
    (fun y => if y = K then vk else ov1 P (ov1 K m kc) pc y) = ov1 P (ov1 K m vk) pc := by
  funext y
  unfold ov1
  by_cases h1 : y = P
  · subst h1; rw [if_pos rfl, if_neg h, if_pos rfl]
  · rw [if_neg h1, if_neg h1]; split <;> rfl
theorem ov2_self (K P : Str) (m : Str → Option Value) : m = ov1 P (ov1 K m (m K)) (m P) := by
  funext y
  unfold ov1
  split
  · rename_i h; rw [h]
  · split
    · rename_i h; rw [h]
    · rfl
theorem msum_t {mask : Int} {ns : List Int} {i : Nat} (h : Builtin.bitAnd (mask.fdiv (2 ^ ((0 : Int) + (i : Nat)).toNat)) 1 ≠ 0) : Builtin.bitXor (msum mask ns i) (ns.getD ((0 : Int) + (i : Nat)).toNat 0) = msum mask ns (i + 1) := by
  rw [show ((0 : Int) + (i : Nat)).toNat = i by omega] at h ⊢
  rw [msum, if_neg h]
theorem msum_f {mask : Int} {ns : List Int} {i : Nat} (h : Builtin.bitAnd (mask.fdiv (2 ^ ((0 : Int) + (i : Nat)).toNat)) 1 = 0) : msum mask ns i = msum mask ns (i + 1) := by
  rw [show ((0 : Int) + (i : Nat)).toNat = i by omega] at h
  rw [msum, if_pos h]
namespace law_sum_any_K
noncomputable def P9 (w : World) (loose : List Str) (mean : ExcName → Option Value) (mg : Str → Option Value) (mb : Str → Option Value) (dp : Nat) (un : Nat) (gd : Option (List Code)) (cn : Str) (cs : Scope) (a : Addr) (ccd : Value) (cl : List (Str × Addr)) (outer : List Env) (A₀ : Around) (base : Heap) (h₀ : Heap) (L : Addr) (m : Str → Option Value) (s : Shared) (Q : Value → Shared → Prop) (E : Value → Shared → Prop) (rest : List (Addr × Obj)) (mask : Int) (tm : Tok) (l : Addr) (ns : List Int) (its : List Value) (n : Nat) : Prop :=
  (hi : IntsAre its ns) → (hl : ns.length < 64) → AskV 10 w loose mean mg mb 104 ((l, W.listOf its.toArray n) :: rest) [.int mask tm, .ref l] (fun h₀ L m s Q => ∀ (h' : Heap) (tk' : Nat) (t : Tok), Fr h₀ L h' m → News h₀ L h' ((l, W.listOf its.toArray n) :: rest) → Q (.int (msum mask ns ns.length) t) { s with heap := h', toks := tk' }) dp un gd cn cs a ccd cl outer A₀ base h₀ L m s Q E
noncomputable def PV9 (v : K9 × (List (Addr × Obj)) × (Int) × (Tok) × (Addr) × (List Int) × (List Value) × (Nat)) : Prop := P9 v.1.1 v.1.2.1 v.1.2.2.1 v.1.2.2.2.1 v.1.2.2.2.2.1 v.1.2.2.2.2.2.1 v.1.2.2.2.2.2.2.1 v.1.2.2.2.2.2.2.2.1 v.1.2.2.2.2.2.2.2.2.1 v.1.2.2.2.2.2.2.2.2.2.1 v.1.2.2.2.2.2.2.2.2.2.2.1 v.1.2.2.2.2.2.2.2.2.2.2.2.1 v.1.2.2.2.2.2.2.2.2.2.2.2.2.1 v.1.2.2.2.2.2.2.2.2.2.2.2.2.2.1 v.1.2.2.2.2.2.2.2.2.2.2.2.2.2.2.1 v.1.2.2.2.2.2.2.2.2.2.2.2.2.2.2.2.1 v.1.2.2.2.2.2.2.2.2.2.2.2.2.2.2.2.2.1 v.1.2.2.2.2.2.2.2.2.2.2.2.2.2.2.2.2.2.1 v.1.2.2.2.2.2.2.2.2.2.2.2.2.2.2.2.2.2.2.1 v.1.2.2.2.2.2.2.2.2.2.2.2.2.2.2.2.2.2.2.2.1 v.1.2.2.2.2.2.2.2.2.2.2.2.2.2.2.2.2.2.2.2.2.1 v.1.2.2.2.2.2.2.2.2.2.2.2.2.2.2.2.2.2.2.2.2.2 v.2.1 v.2.2.1 v.2.2.2.1 v.2.2.2.2.1 v.2.2.2.2.2.1 v.2.2.2.2.2.2.1 v.2.2.2.2.2.2.2
theorem ex9 : ∃ c, PV9 c → ∀ v, PV9 v := sk9 ⟨(Classical.choice ne9, default, default, default, default, default, default, default)⟩ PV9
noncomputable def c9 : K9 × (List (Addr × Obj)) × (Int) × (Tok) × (Addr) × (List Int) × (List Value) × (Nat) := Classical.choose ex9
noncomputable def w : World := c9.1.1
noncomputable def loose : List Str := c9.1.2.1
noncomputable def mean : ExcName → Option Value := c9.1.2.2.1
noncomputable def mg : Str → Option Value := c9.1.2.2.2.1
noncomputable def mb : Str → Option Value := c9.1.2.2.2.2.1
noncomputable def h₀ : Heap := c9.1.2.2.2.2.2.2.2.2.2.2.2.2.2.2.2.2.1
noncomputable def L : Addr := c9.1.2.2.2.2.2.2.2.2.2.2.2.2.2.2.2.2.2.1
noncomputable def m : Str → Option Value := c9.1.2.2.2.2.2.2.2.2.2.2.2.2.2.2.2.2.2.2.1
noncomputable def s : Shared := c9.1.2.2.2.2.2.2.2.2.2.2.2.2.2.2.2.2.2.2.2.1
noncomputable def Q : Value → Shared → Prop := c9.1.2.2.2.2.2.2.2.2.2.2.2.2.2.2.2.2.2.2.2.2.1
noncomputable def E : Value → Shared → Prop := c9.1.2.2.2.2.2.2.2.2.2.2.2.2.2.2.2.2.2.2.2.2.2
noncomputable def rest : List (Addr × Obj) := c9.2.1
noncomputable def mask : Int := c9.2.2.1
noncomputable def tm : Tok := c9.2.2.2.1
noncomputable def l : Addr := c9.2.2.2.2.1
noncomputable def ns : List Int := c9.2.2.2.2.2.1
noncomputable def its : List Value := c9.2.2.2.2.2.2.1
noncomputable def n : Nat := c9.2.2.2.2.2.2.2
end law_sum_any_K
open law_sum_any_K in
set_option maxHeartbeats 4000000 in
set_option maxRecDepth 100000 in
theorem law_sum_any_at : P9 w loose mean mg mb (c9.1.2.2.2.2.2.1) (c9.1.2.2.2.2.2.2.1) (c9.1.2.2.2.2.2.2.2.1) (c9.1.2.2.2.2.2.2.2.2.1) (c9.1.2.2.2.2.2.2.2.2.2.1) (c9.1.2.2.2.2.2.2.2.2.2.2.1) (c9.1.2.2.2.2.2.2.2.2.2.2.2.1) (c9.1.2.2.2.2.2.2.2.2.2.2.2.2.1) (c9.1.2.2.2.2.2.2.2.2.2.2.2.2.2.1) (c9.1.2.2.2.2.2.2.2.2.2.2.2.2.2.2.1) (c9.1.2.2.2.2.2.2.2.2.2.2.2.2.2.2.2.1) h₀ L m s Q E rest mask tm l ns its n := by
  k_with_none
  w_top off
  intro hi hl B F X N T hk hdp hun codeHd hret
  have fill9 : Challenge.rw_sr0027_01 = Challenge.rw_sr0027_01 ∧ hd.heap_39 = hd.heap_39 := by k_fill; exact ⟨rfl, rfl⟩
  k_dflt (refine' code_def ?k1 ?k2 ?k3 ?k4 ?k5 ?kA ?kF ?kK ?k6 ?k7 ?k8 ?k9 ?kB ?_ ?c2 ?c3 ?c4 ?c5; (case kA => exact rfl); (case kF => exact rfl); (case kK => first | exact rfl | assumption); (case k1 => k_asm); (case k2 => k_asm); (case k3 => k_asm); (case k4 => k_asm); (case k5 => k_asm); (case k6 => k_is); (case k7 => k_is); (case k8 => ktr_room); (case k9 => first | exact BindsTo.of_eq rfl | exact binds_K (by k_in) rfl (by k_is) rfl rfl rfl | (refine' kp_binds ?kx ?ke; (case kx => k_in); (case ke => exact fun _ => rfl)) | fail "k9"); (case c5 => decide); (case kB => exact locs rfl); (case c2 => exact rfl); (case c3 => exact rfl); (case c4 => exact rfl))
  intro g1 L1 hh1 FG1 F1 N1 B1 X1 T1
  (try dsimp only); (try k_fold)
  (k_with "exec For Name Call cons nil" => (refine Halt.h ?_))
  k_steps
  (with_reducible rename Fr g1 L1 _ _ => kF)
  refine ⟨lforRange (g := g1) 0 ns.length (fun i m nx => ∃ kc t, nx = ((l, W.listOf its.toArray n) :: rest) ∧ m = ov1 (Str.ofString "total") (ov1 (Str.ofString "k") (mapOf2 kF) kc) (some (.int (msum mask ns i) t))) rfl rfl rfl ?_ ?_ ?_⟩
  · k_steps
    exact ⟨⟨_, _, _, _, _, _, _, _, _, rfl, rfl, by assumption, small_one (by decide) (by decide) (by omega) (by omega), rangeSize_nat _ _, by k_asm, by k_asm, ⟨_, _, rfl, (ov2_self _ _ _).trans (congrArg _ (if_pos rfl))⟩⟩⟩
  · intro i t m₁ nx h tk I o hin hJ0_9 off kF2 kN2
    refine foldG9 ?_
    intro GG
    obtain ⟨kc, tp, rfl, rfl⟩ := hJ0_9
    dsimp only [GG]
    clear GG
    dsimp only [mapOf2] at kF2 kN2
    have o1 := neN (off _ (.head _))
    have o4 : ∀ p ∈ rest, p.1 ≠ I := fun p hp => off p (.tail _ hp)
    dsimp only at o1
    k_steps
    · (with_reducible rename Fr g1 L1 _ _ => kG)
      (with_reducible rename Builtin.bitAnd _ _ ≠ 0 => hm)
      exact ⟨⟨_, _, _, (l, W.listOf its.toArray n) :: rest, rfl, Fr.cast' kG ((ov2' _ _ _ _ _ _ _).trans (congrArg (ov1 _ _) (congrArg some (congrArg (fun z => Value.int z _) (msum_t hm))))), by k_asm, off, ⟨_, _, rfl, rfl⟩⟩⟩
    · (with_reducible rename Builtin.bitAnd _ _ = 0 => hm)
      exact ⟨⟨_, _, _, (l, W.listOf its.toArray n) :: rest, rfl, Fr.cast' kF2 ((ov2_k _ _ _ _ _ _ (by decide)).trans (congrArg (ov1 _ _) (congrArg some (congrArg (fun z => Value.int z _) (msum_f hm))))), by k_asm, off, ⟨_, _, rfl, rfl⟩⟩⟩
  · intro m₁ nx h tk hJ1_4 kF2 kN2
    refine foldG9 ?_
    intro GG
    obtain ⟨kc, tp, rfl, rfl⟩ := hJ1_4
    dsimp only [GG]
    clear GG
    dsimp only [mapOf2] at kF2 kN2
    k_steps
    exact hret _ _ _ (by k_asm) (by k_asm)

theorem law_sum_any (w : World) (loose : List Str) (mean : ExcName → Option Value) (mg mb : Str → Option Value) (rest : List (Addr × Obj)) (mask : Int) (tm : Tok) (l : Addr) (ns : List Int) (its : List Value) (n : Nat) (hi : IntsAre its ns) (hl : ns.length < 64) :
    Asks 10 w loose mean mg mb 104 ((l, W.listOf its.toArray n) :: rest) [.int mask tm, .ref l] (fun h₀ L m s Q => ∀ (h' : Heap) (tk' : Nat) (t : Tok), Fr h₀ L h' m → News h₀ L h' ((l, W.listOf its.toArray n) :: rest) → Q (.int (msum mask ns ns.length) t) { s with heap := h', toks := tk' }) :=
  fun dp un gd cn cs a ccd cl outer A₀ base h₀ L m s Q E => Classical.choose_spec law_sum_any_K.ex9 law_sum_any_at ((w, loose, mean, mg, mb, dp, un, gd, cn, cs, a, ccd, cl, outer, A₀, base, h₀, L, m, s, Q, E), rest, mask, tm, l, ns, its, n) hi hl
end

section
namespace int2ap_spec_K
noncomputable def P9 (w : World) (loose : List Str) (mean : ExcName → Option Value) (mg : Str → Option Value) (mb : Str → Option Value) (dp : Nat) (un : Nat) (gd : Option (List Code)) (cn : Str) (cs : Scope) (a : Addr) (ccd : Value) (cl : List (Str × Addr)) (outer : List Env) (A₀ : Around) (base : Heap) (h₀ : Heap) (L : Addr) (m : Str → Option Value) (s : Shared) (Q : Value → Shared → Prop) (E : Value → Shared → Prop) (rest : List (Addr × Obj)) (v : Int) (tv : Tok) : Prop :=
  (hv : v.natAbs < 16 ^ 6) → AskV 10 w loose mean mg mb 48 rest [.int v tv] (fun h₀ L m s Q => ∀ (h' : Heap) (tk' : Nat) (t : Tok), Fr h₀ L h' m → News h₀ L h' rest → Q (.bytes ((hx v.natAbs).map UInt8.ofNat).toArray t) { s with heap := h', toks := tk' }) dp un gd cn cs a ccd cl outer A₀ base h₀ L m s Q E
noncomputable def PV9 (v : K9 × (List (Addr × Obj)) × (Int) × (Tok)) : Prop := P9 v.1.1 v.1.2.1 v.1.2.2.1 v.1.2.2.2.1 v.1.2.2.2.2.1 v.1.2.2.2.2.2.1 v.1.2.2.2.2.2.2.1 v.1.2.2.2.2.2.2.2.1 v.1.2.2.2.2.2.2.2.2.1 v.1.2.2.2.2.2.2.2.2.2.1 v.1.2.2.2.2.2.2.2.2.2.2.1 v.1.2.2.2.2.2.2.2.2.2.2.2.1 v.1.2.2.2.2.2.2.2.2.2.2.2.2.1 v.1.2.2.2.2.2.2.2.2.2.2.2.2.2.1 v.1.2.2.2.2.2.2.2.2.2.2.2.2.2.2.1 v.1.2.2.2.2.2.2.2.2.2.2.2.2.2.2.2.1 v.1.2.2.2.2.2.2.2.2.2.2.2.2.2.2.2.2.1 v.1.2.2.2.2.2.2.2.2.2.2.2.2.2.2.2.2.2.1 v.1.2.2.2.2.2.2.2.2.2.2.2.2.2.2.2.2.2.2.1 v.1.2.2.2.2.2.2.2.2.2.2.2.2.2.2.2.2.2.2.2.1 v.1.2.2.2.2.2.2.2.2.2.2.2.2.2.2.2.2.2.2.2.2.1 v.1.2.2.2.2.2.2.2.2.2.2.2.2.2.2.2.2.2.2.2.2.2 v.2.1 v.2.2.1 v.2.2.2
theorem ex9 : ∃ c, PV9 c → ∀ v, PV9 v := sk9 ⟨(Classical.choice ne9, default, default, default)⟩ PV9
noncomputable def c9 : K9 × (List (Addr × Obj)) × (Int) × (Tok) := Classical.choose ex9
noncomputable def w : World := c9.1.1
noncomputable def loose : List Str := c9.1.2.1
noncomputable def mean : ExcName → Option Value := c9.1.2.2.1
noncomputable def mg : Str → Option Value := c9.1.2.2.2.1
noncomputable def mb : Str → Option Value := c9.1.2.2.2.2.1
noncomputable def h₀ : Heap := c9.1.2.2.2.2.2.2.2.2.2.2.2.2.2.2.2.2.1
noncomputable def L : Addr := c9.1.2.2.2.2.2.2.2.2.2.2.2.2.2.2.2.2.2.1
noncomputable def m : Str → Option Value := c9.1.2.2.2.2.2.2.2.2.2.2.2.2.2.2.2.2.2.2.1
noncomputable def s : Shared := c9.1.2.2.2.2.2.2.2.2.2.2.2.2.2.2.2.2.2.2.2.1
noncomputable def Q : Value → Shared → Prop := c9.1.2.2.2.2.2.2.2.2.2.2.2.2.2.2.2.2.2.2.2.2.1
noncomputable def E : Value → Shared → Prop := c9.1.2.2.2.2.2.2.2.2.2.2.2.2.2.2.2.2.2.2.2.2.2
noncomputable def rest : List (Addr × Obj) := c9.2.1
noncomputable def v : Int := c9.2.2.1
noncomputable def tv : Tok := c9.2.2.2
end int2ap_spec_K
open int2ap_spec_K in
set_option maxHeartbeats 4000000 in
set_option maxRecDepth 100000 in
theorem int2ap_spec_at : P9 w loose mean mg mb (c9.1.2.2.2.2.2.1) (c9.1.2.2.2.2.2.2.1) (c9.1.2.2.2.2.2.2.2.1) (c9.1.2.2.2.2.2.2.2.2.1) (c9.1.2.2.2.2.2.2.2.2.2.1) (c9.1.2.2.2.2.2.2.2.2.2.2.1) (c9.1.2.2.2.2.2.2.2.2.2.2.2.1) (c9.1.2.2.2.2.2.2.2.2.2.2.2.2.1) (c9.1.2.2.2.2.2.2.2.2.2.2.2.2.2.1) (c9.1.2.2.2.2.2.2.2.2.2.2.2.2.2.2.1) (c9.1.2.2.2.2.2.2.2.2.2.2.2.2.2.2.2.1) h₀ L m s Q E rest v tv := by
  k_with_none
  w_top off
  intro hv B F X N T hk hdp hun codeHd hret
  have fill9 : Challenge.rw_sr0027_01 = Challenge.rw_sr0027_01 ∧ hd.heap_39 = hd.heap_39 := by k_fill; exact ⟨rfl, rfl⟩
  k_dflt (first | (refine' code_defC ?k1 ?k2 ?k3 ?k4 ?k5 ?kA ?kF ?kK ?k6 ?k7 ?k8 ?k9 ?kB ?kD ?_ ?c2 ?c3 ?c4; (case kA => exact rfl); (case kF => exact rfl); (case kK => first | exact rfl | assumption); (case k1 => k_asm); (case k2 => k_asm); (case k3 => k_asm); (case k4 => k_asm); (case k5 => k_asm); (case k6 => k_is); (case k7 => k_is); (case k8 => ktr_room); (case k9 => first | exact BindsTo.of_eq rfl | exact binds_K (by k_in) rfl (by k_is) rfl rfl rfl | (refine' kp_binds ?kx ?ke; (case kx => k_in); (case ke => exact fun _ => rfl)) | fail "k9"); (case kB => exact rfl); (case kD => decide +kernel); (case c2 => exact rfl); (case c3 => exact rfl); (case c4 => exact rfl); k_whole; intro g' L' h' tk' cells' FG' F' N' Y' B' X' T' l1; (try k_lt l1); k_cells Y'; (try simp only [List.cons_append, List.nil_append] at N'); (try dsimp only); (try k_lift B'); (try k_fold)) | (refine' code_def ?k1 ?k2 ?k3 ?k4 ?k5 ?kA ?kF ?kK ?k6 ?k7 ?k8 ?k9 ?kB ?_ ?c2 ?c3 ?c4 ?c5; (case kA => exact rfl); (case kF => exact rfl); (case kK => first | exact rfl | assumption); (case k1 => k_asm); (case k2 => k_asm); (case k3 => k_asm); (case k4 => k_asm); (case k5 => k_asm); (case k6 => k_is); (case k7 => k_is); (case k8 => ktr_room); (case k9 => first | exact BindsTo.of_eq rfl | exact binds_K (by k_in) rfl (by k_is) rfl rfl rfl | (refine' kp_binds ?kx ?ke; (case kx => k_in); (case ke => exact fun _ => rfl)) | fail "k9"); (case c5 => decide); (case kB => exact locs rfl); (case c2 => exact rfl); (case c3 => exact rfl); (case c4 => exact rfl); k_whole; intro g' L' h' FG' F' N' B' X' T'; (try dsimp only); (try k_lift B'); (try k_fold)))
  (k_with "exec While Name cons nil" => k_while (fun (_ : List Int) num val => 0 ≤ num ∧ num.natAbs < 16 ^ 6 ∧ val.size ≤ 6 ∧ hx v.natAbs = hx num.natAbs ++ val.toList.map (fun x => UInt8.toNat x)) (fun (_ : List Int) num _ => num.natAbs) "num" "val")
  (k_with "state" => first | exact ap_start v hv | exact ap_turn hv ⟨by assumption, by assumption, by assumption, by assumption⟩ (by assumption))
  (k_with "subscriptTail" => ((with_reducible show wpAny _ _ (subscriptTail _ (Expr.Slice _ _ none _) (Value.bytes _ _) (Value.ref _)) _ _ _); (with_reducible rename Fr _ _ _ _ => sF); (with_reducible rename News _ _ _ _ => sN); (refine KBc.slice_K (s := ⟨_, _, _, _, _⟩) sF sN rfl (by constructor) (by constructor) (by decide) ?_); intro _ _ _ _ _ _))
  (k_with "binaryOp Add bytes bytes" => (refine KBy.add_bytes (Nat.le_trans (Nat.add_le_add (KBc.size_picked_le _ _ _) (by assumption)) (by decide)) ?_; intro _ _))
  (k_with "measure" => exact fd_less (by assumption) (by omega))
  k_steps
  rw [ap_end2 (by assumption) (by assumption)] at hret
  exact hret _ _ _ (by k_asm) (by k_asm)

theorem int2ap_spec (w : World) (loose : List Str) (mean : ExcName → Option Value) (mg mb : Str → Option Value) (rest : List (Addr × Obj)) (v : Int) (tv : Tok) (hv : v.natAbs < 16 ^ 6) :
    Asks 10 w loose mean mg mb 48 rest [.int v tv] (fun h₀ L m s Q => ∀ (h' : Heap) (tk' : Nat) (t : Tok), Fr h₀ L h' m → News h₀ L h' rest → Q (.bytes ((hx v.natAbs).map UInt8.ofNat).toArray t) { s with heap := h', toks := tk' }) :=
  fun dp un gd cn cs a ccd cl outer A₀ base h₀ L m s Q E => Classical.choose_spec int2ap_spec_K.ex9 int2ap_spec_at ((w, loose, mean, mg, mb, dp, un, gd, cn, cs, a, ccd, cl, outer, A₀, base, h₀, L, m, s, Q, E), rest, v, tv) hv
end

section
namespace law_word_spec_K
noncomputable def P9 (w : World) (loose : List Str) (mean : ExcName → Option Value) (mg : Str → Option Value) (mb : Str → Option Value) (dp : Nat) (un : Nat) (gd : Option (List Code)) (cn : Str) (cs : Scope) (a : Addr) (ccd : Value) (cl : List (Str × Addr)) (outer : List Env) (A₀ : Around) (base : Heap) (h₀ : Heap) (L : Addr) (m : Str → Option Value) (s : Shared) (Q : Value → Shared → Prop) (E : Value → Shared → Prop) (rest : List (Addr × Obj)) (v : Int) (tv : Tok) : Prop :=
  (h0 : 0 ≤ v) → (hv : v.natAbs < 16 ^ 6) → AskV 10 w loose mean mg mb 130 rest [.int v tv] (fun h₀ L m s Q => ∀ (h' : Heap) (tk' : Nat) (t : Tok), Fr h₀ L h' m → News h₀ L h' rest → Q (.str ⟨(hx v.natAbs).toArray⟩ t) { s with heap := h', toks := tk' }) dp un gd cn cs a ccd cl outer A₀ base h₀ L m s Q E
noncomputable def PV9 (v : K9 × (List (Addr × Obj)) × (Int) × (Tok)) : Prop := P9 v.1.1 v.1.2.1 v.1.2.2.1 v.1.2.2.2.1 v.1.2.2.2.2.1 v.1.2.2.2.2.2.1 v.1.2.2.2.2.2.2.1 v.1.2.2.2.2.2.2.2.1 v.1.2.2.2.2.2.2.2.2.1 v.1.2.2.2.2.2.2.2.2.2.1 v.1.2.2.2.2.2.2.2.2.2.2.1 v.1.2.2.2.2.2.2.2.2.2.2.2.1 v.1.2.2.2.2.2.2.2.2.2.2.2.2.1 v.1.2.2.2.2.2.2.2.2.2.2.2.2.2.1 v.1.2.2.2.2.2.2.2.2.2.2.2.2.2.2.1 v.1.2.2.2.2.2.2.2.2.2.2.2.2.2.2.2.1 v.1.2.2.2.2.2.2.2.2.2.2.2.2.2.2.2.2.1 v.1.2.2.2.2.2.2.2.2.2.2.2.2.2.2.2.2.2.1 v.1.2.2.2.2.2.2.2.2.2.2.2.2.2.2.2.2.2.2.1 v.1.2.2.2.2.2.2.2.2.2.2.2.2.2.2.2.2.2.2.2.1 v.1.2.2.2.2.2.2.2.2.2.2.2.2.2.2.2.2.2.2.2.2.1 v.1.2.2.2.2.2.2.2.2.2.2.2.2.2.2.2.2.2.2.2.2.2 v.2.1 v.2.2.1 v.2.2.2
theorem ex9 : ∃ c, PV9 c → ∀ v, PV9 v := sk9 ⟨(Classical.choice ne9, default, default, default)⟩ PV9
noncomputable def c9 : K9 × (List (Addr × Obj)) × (Int) × (Tok) := Classical.choose ex9
noncomputable def w : World := c9.1.1
noncomputable def loose : List Str := c9.1.2.1
noncomputable def mean : ExcName → Option Value := c9.1.2.2.1
noncomputable def mg : Str → Option Value := c9.1.2.2.2.1
noncomputable def mb : Str → Option Value := c9.1.2.2.2.2.1
noncomputable def h₀ : Heap := c9.1.2.2.2.2.2.2.2.2.2.2.2.2.2.2.2.2.1
noncomputable def L : Addr := c9.1.2.2.2.2.2.2.2.2.2.2.2.2.2.2.2.2.2.1
noncomputable def m : Str → Option Value := c9.1.2.2.2.2.2.2.2.2.2.2.2.2.2.2.2.2.2.2.1
noncomputable def s : Shared := c9.1.2.2.2.2.2.2.2.2.2.2.2.2.2.2.2.2.2.2.2.1
noncomputable def Q : Value → Shared → Prop := c9.1.2.2.2.2.2.2.2.2.2.2.2.2.2.2.2.2.2.2.2.2.1
noncomputable def E : Value → Shared → Prop := c9.1.2.2.2.2.2.2.2.2.2.2.2.2.2.2.2.2.2.2.2.2.2
noncomputable def rest : List (Addr × Obj) := c9.2.1
noncomputable def v : Int := c9.2.2.1
noncomputable def tv : Tok := c9.2.2.2
end law_word_spec_K
open law_word_spec_K in
set_option maxHeartbeats 4000000 in
set_option maxRecDepth 100000 in
theorem law_word_spec_at : P9 w loose mean mg mb (c9.1.2.2.2.2.2.1) (c9.1.2.2.2.2.2.2.1) (c9.1.2.2.2.2.2.2.2.1) (c9.1.2.2.2.2.2.2.2.2.1) (c9.1.2.2.2.2.2.2.2.2.2.1) (c9.1.2.2.2.2.2.2.2.2.2.2.1) (c9.1.2.2.2.2.2.2.2.2.2.2.2.1) (c9.1.2.2.2.2.2.2.2.2.2.2.2.2.1) (c9.1.2.2.2.2.2.2.2.2.2.2.2.2.2.1) (c9.1.2.2.2.2.2.2.2.2.2.2.2.2.2.2.1) (c9.1.2.2.2.2.2.2.2.2.2.2.2.2.2.2.2.1) h₀ L m s Q E rest v tv := by
  k_with_none
  w_top off
  intro h0 hv B F X N T hk hdp hun codeHd hret
  have fill9 : Challenge.rw_sr0027_01 = Challenge.rw_sr0027_01 ∧ hd.heap_39 = hd.heap_39 := by k_fill; exact ⟨rfl, rfl⟩
  k_dflt (first | (refine' code_defC ?k1 ?k2 ?k3 ?k4 ?k5 ?kA ?kF ?kK ?k6 ?k7 ?k8 ?k9 ?kB ?kD ?_ ?c2 ?c3 ?c4; (case kA => exact rfl); (case kF => exact rfl); (case kK => first | exact rfl | assumption); (case k1 => k_asm); (case k2 => k_asm); (case k3 => k_asm); (case k4 => k_asm); (case k5 => k_asm); (case k6 => k_is); (case k7 => k_is); (case k8 => ktr_room); (case k9 => first | exact BindsTo.of_eq rfl | exact binds_K (by k_in) rfl (by k_is) rfl rfl rfl | (refine' kp_binds ?kx ?ke; (case kx => k_in); (case ke => exact fun _ => rfl)) | fail "k9"); (case kB => exact rfl); (case kD => decide +kernel); (case c2 => exact rfl); (case c3 => exact rfl); (case c4 => exact rfl); k_whole; intro g' L' h' tk' cells' FG' F' N' Y' B' X' T' l1; (try k_lt l1); k_cells Y'; (try simp only [List.cons_append, List.nil_append] at N'); (try dsimp only); (try k_lift B'); (try k_fold)) | (refine' code_def ?k1 ?k2 ?k3 ?k4 ?k5 ?kA ?kF ?kK ?k6 ?k7 ?k8 ?k9 ?kB ?_ ?c2 ?c3 ?c4 ?c5; (case kA => exact rfl); (case kF => exact rfl); (case kK => first | exact rfl | assumption); (case k1 => k_asm); (case k2 => k_asm); (case k3 => k_asm); (case k4 => k_asm); (case k5 => k_asm); (case k6 => k_is); (case k7 => k_is); (case k8 => ktr_room); (case k9 => first | exact BindsTo.of_eq rfl | exact binds_K (by k_in) rfl (by k_is) rfl rfl rfl | (refine' kp_binds ?kx ?ke; (case kx => k_in); (case ke => exact fun _ => rfl)) | fail "k9"); (case c5 => decide); (case kB => exact locs rfl); (case c2 => exact rfl); (case c3 => exact rfl); (case c4 => exact rfl); k_whole; intro g' L' h' FG' F' N' B' X' T'; (try dsimp only); (try k_lift B'); (try k_fold)))
  (k_with "exec While Compare cons nil" => k_while (fun (_ : List Int) number word => 0 ≤ number ∧ number.natAbs < 16 ^ 6 ∧ word.length ≤ 6 ∧ hx v.natAbs = hx number.natAbs ++ sg word) (fun (_ : List Int) number _ => number.natAbs) "number" "word")
  (k_with "state" => first | exact wd_start v h0 hv | exact wd_turn hv ⟨by assumption, by assumption, by assumption, by assumption⟩ (by assumption))
  (k_with "measure" => exact fd_less (by assumption) (by omega))
  k_steps
  rw [wd_end2 (by assumption) (by assumption) (by assumption)] at hret
  exact hret _ _ _ (by k_asm) (by k_asm)

theorem law_word_spec (w : World) (loose : List Str) (mean : ExcName → Option Value) (mg mb : Str → Option Value) (rest : List (Addr × Obj)) (v : Int) (tv : Tok) (h0 : 0 ≤ v) (hv : v.natAbs < 16 ^ 6) :
    Asks 10 w loose mean mg mb 130 rest [.int v tv] (fun h₀ L m s Q => ∀ (h' : Heap) (tk' : Nat) (t : Tok), Fr h₀ L h' m → News h₀ L h' rest → Q (.str ⟨(hx v.natAbs).toArray⟩ t) { s with heap := h', toks := tk' }) :=
  fun dp un gd cn cs a ccd cl outer A₀ base h₀ L m s Q E => Classical.choose_spec law_word_spec_K.ex9 law_word_spec_at ((w, loose, mean, mg, mb, dp, un, gd, cn, cs, a, ccd, cl, outer, A₀, base, h₀, L, m, s, Q, E), rest, v, tv) h0 hv
end

section
set_option maxHeartbeats 4000000 in
set_option maxRecDepth 100000 in
/-- the number that letters tell -/
noncomputable def numOf (l : List Nat) : Int := l.foldl (fun (t : Int) (c : Nat) => 16 * t + ((c : Int) - 65)) 0
theorem numOf_snoc (l : List Nat) (c : Nat) : numOf (l ++ [c]) = 16 * numOf l + ((c : Int) - 65) := by unfold numOf; rw [List.foldl_append]; rfl
theorem numOf_hx : ∀ n : Nat, numOf (hx n) = n := by
  intro n
  induction n using Nat.strongRecOn with
  | ind n ih =>
    by_cases h0 : n = 0
    · subst h0; rw [hx_zero]; rfl
    · rw [hx_pos (by omega), numOf_snoc, ih (n / 16) (by omega)]
      omega
theorem find_let : ∀ m : Nat, m < 16 → Txt.find (Str.ofString "ABCDEFGHIJKLMNOP") ⟨#[65 + m]⟩ = (m : Int) := by decide +kernel
theorem find_c {c : Nat} (h : 65 ≤ c ∧ c ≤ 80) : Txt.find (Str.ofString "ABCDEFGHIJKLMNOP") ⟨#[c]⟩ = (c : Int) - 65 := by
  have := find_let (c - 65) (by omega)
  rw [show 65 + (c - 65) = c by omega] at this
  rw [this]; omega
theorem fold_signs (w : List Nat) (hw : ∀ c ∈ w, 65 ≤ c ∧ c ≤ 80) : List.foldl (fun T a => 16 * T + Txt.find (Str.ofString "ABCDEFGHIJKLMNOP") a) (0 : Int) (signs ⟨w.toArray⟩) = numOf w := by
  unfold numOf
  have key : ∀ (l : List Nat) (t : Int), (∀ c ∈ l, 65 ≤ c ∧ c ≤ 80) → List.foldl (fun T a => 16 * T + Txt.find (Str.ofString "ABCDEFGHIJKLMNOP") a) t (l.map fun c => (⟨#[c]⟩ : Str)) = l.foldl (fun (t : Int) (c : Nat) => 16 * t + ((c : Int) - 65)) t := by
    intro l
    induction l with
    | nil => intro t _; rfl
    | cons c r ih =>
      intro t hl
      rw [List.map_cons, List.foldl_cons, List.foldl_cons, find_c (hl c (.head _)), ih _ fun d hd => hl d (.tail _ hd)]
  exact key w 0 hw
theorem sign_no {w : List Nat} (hw : ∀ c ∈ w, 65 ≤ c ∧ c ≤ 80) {a : Str} (ha : a ∈ signs ⟨w.toArray⟩) (hf : Txt.find (Str.ofString "ABCDEFGHIJKLMNOP") a = -1) : False := by
  obtain ⟨c, hc, rfl⟩ := List.mem_map.mp (show a ∈ w.map fun c => (⟨#[c]⟩ : Str) from ha)
  rw [find_c (hw c hc)] at hf
  have := hw c hc
  omega
namespace law_number_spec_K
noncomputable def P9 (w : World) (loose : List Str) (mean : ExcName → Option Value) (mg : Str → Option Value) (mb : Str → Option Value) (dp : Nat) (un : Nat) (gd : Option (List Code)) (cn : Str) (cs : Scope) (a : Addr) (ccd : Value) (cl : List (Str × Addr)) (outer : List Env) (A₀ : Around) (base : Heap) (h₀ : Heap) (L : Addr) (m : Str → Option Value) (s : Shared) (Q : Value → Shared → Prop) (E : Value → Shared → Prop) (rest : List (Addr × Obj)) (wd : List Nat) (tv : Tok) : Prop :=
  (hl : wd.length < 100) → (hw : ∀ c ∈ wd, 65 ≤ c ∧ c ≤ 80) → AskV 10 w loose mean mg mb 123 rest [.str ⟨wd.toArray⟩ tv] (fun h₀ L m s Q => ∀ (h' : Heap) (tk' : Nat) (t : Tok), Fr h₀ L h' m → News h₀ L h' rest → Q (.int (numOf wd) t) { s with heap := h', toks := tk' }) dp un gd cn cs a ccd cl outer A₀ base h₀ L m s Q E
noncomputable def PV9 (v : K9 × (List (Addr × Obj)) × (List Nat) × (Tok)) : Prop := P9 v.1.1 v.1.2.1 v.1.2.2.1 v.1.2.2.2.1 v.1.2.2.2.2.1 v.1.2.2.2.2.2.1 v.1.2.2.2.2.2.2.1 v.1.2.2.2.2.2.2.2.1 v.1.2.2.2.2.2.2.2.2.1 v.1.2.2.2.2.2.2.2.2.2.1 v.1.2.2.2.2.2.2.2.2.2.2.1 v.1.2.2.2.2.2.2.2.2.2.2.2.1 v.1.2.2.2.2.2.2.2.2.2.2.2.2.1 v.1.2.2.2.2.2.2.2.2.2.2.2.2.2.1 v.1.2.2.2.2.2.2.2.2.2.2.2.2.2.2.1 v.1.2.2.2.2.2.2.2.2.2.2.2.2.2.2.2.1 v.1.2.2.2.2.2.2.2.2.2.2.2.2.2.2.2.2.1 v.1.2.2.2.2.2.2.2.2.2.2.2.2.2.2.2.2.2.1 v.1.2.2.2.2.2.2.2.2.2.2.2.2.2.2.2.2.2.2.1 v.1.2.2.2.2.2.2.2.2.2.2.2.2.2.2.2.2.2.2.2.1 v.1.2.2.2.2.2.2.2.2.2.2.2.2.2.2.2.2.2.2.2.2.1 v.1.2.2.2.2.2.2.2.2.2.2.2.2.2.2.2.2.2.2.2.2.2 v.2.1 v.2.2.1 v.2.2.2
theorem ex9 : ∃ c, PV9 c → ∀ v, PV9 v := sk9 ⟨(Classical.choice ne9, default, default, default)⟩ PV9
noncomputable def c9 : K9 × (List (Addr × Obj)) × (List Nat) × (Tok) := Classical.choose ex9
noncomputable def w : World := c9.1.1
noncomputable def loose : List Str := c9.1.2.1
noncomputable def mean : ExcName → Option Value := c9.1.2.2.1
noncomputable def mg : Str → Option Value := c9.1.2.2.2.1
noncomputable def mb : Str → Option Value := c9.1.2.2.2.2.1
noncomputable def h₀ : Heap := c9.1.2.2.2.2.2.2.2.2.2.2.2.2.2.2.2.2.1
noncomputable def L : Addr := c9.1.2.2.2.2.2.2.2.2.2.2.2.2.2.2.2.2.2.1
noncomputable def m : Str → Option Value := c9.1.2.2.2.2.2.2.2.2.2.2.2.2.2.2.2.2.2.2.1
noncomputable def s : Shared := c9.1.2.2.2.2.2.2.2.2.2.2.2.2.2.2.2.2.2.2.2.1
noncomputable def Q : Value → Shared → Prop := c9.1.2.2.2.2.2.2.2.2.2.2.2.2.2.2.2.2.2.2.2.2.1
noncomputable def E : Value → Shared → Prop := c9.1.2.2.2.2.2.2.2.2.2.2.2.2.2.2.2.2.2.2.2.2.2
noncomputable def rest : List (Addr × Obj) := c9.2.1
noncomputable def wd : List Nat := c9.2.2.1
noncomputable def tv : Tok := c9.2.2.2
end law_number_spec_K
open law_number_spec_K in
set_option maxHeartbeats 4000000 in
set_option maxRecDepth 100000 in
theorem law_number_spec_at : P9 w loose mean mg mb (c9.1.2.2.2.2.2.1) (c9.1.2.2.2.2.2.2.1) (c9.1.2.2.2.2.2.2.2.1) (c9.1.2.2.2.2.2.2.2.2.1) (c9.1.2.2.2.2.2.2.2.2.2.1) (c9.1.2.2.2.2.2.2.2.2.2.2.1) (c9.1.2.2.2.2.2.2.2.2.2.2.2.1) (c9.1.2.2.2.2.2.2.2.2.2.2.2.2.1) (c9.1.2.2.2.2.2.2.2.2.2.2.2.2.2.1) (c9.1.2.2.2.2.2.2.2.2.2.2.2.2.2.2.1) (c9.1.2.2.2.2.2.2.2.2.2.2.2.2.2.2.2.1) h₀ L m s Q E rest wd tv := by
  k_with_none
  w_top off
  intro hl hw B F X N T hk hdp hun codeHd hret
  have fill9 : Challenge.rw_sr0027_01 = Challenge.rw_sr0027_01 ∧ hd.heap_39 = hd.heap_39 := by k_fill; exact ⟨rfl, rfl⟩
  k_dflt (first | (refine' code_defC ?k1 ?k2 ?k3 ?k4 ?k5 ?kA ?kF ?kK ?k6 ?k7 ?k8 ?k9 ?kB ?kD ?_ ?c2 ?c3 ?c4; (case kA => exact rfl); (case kF => exact rfl); (case kK => first | exact rfl | assumption); (case k1 => k_asm); (case k2 => k_asm); (case k3 => k_asm); (case k4 => k_asm); (case k5 => k_asm); (case k6 => k_is); (case k7 => k_is); (case k8 => ktr_room); (case k9 => first | exact BindsTo.of_eq rfl | exact binds_K (by k_in) rfl (by k_is) rfl rfl rfl | (refine' kp_binds ?kx ?ke; (case kx => k_in); (case ke => exact fun _ => rfl)) | fail "k9"); (case kB => exact rfl); (case kD => decide +kernel); (case c2 => exact rfl); (case c3 => exact rfl); (case c4 => exact rfl); k_whole; intro g' L' h' tk' cells' FG' F' N' Y' B' X' T' l1; (try k_lt l1); k_cells Y'; (try simp only [List.cons_append, List.nil_append] at N'); (try dsimp only); (try k_lift B'); (try k_fold)) | (refine' code_def ?k1 ?k2 ?k3 ?k4 ?k5 ?kA ?kF ?kK ?k6 ?k7 ?k8 ?k9 ?kB ?_ ?c2 ?c3 ?c4 ?c5; (case kA => exact rfl); (case kF => exact rfl); (case kK => first | exact rfl | assumption); (case k1 => k_asm); (case k2 => k_asm); (case k3 => k_asm); (case k4 => k_asm); (case k5 => k_asm); (case k6 => k_is); (case k7 => k_is); (case k8 => ktr_room); (case k9 => first | exact BindsTo.of_eq rfl | exact binds_K (by k_in) rfl (by k_is) rfl rfl rfl | (refine' kp_binds ?kx ?ke; (case kx => k_in); (case ke => exact fun _ => rfl)) | fail "k9"); (case c5 => decide); (case kB => exact locs rfl); (case c2 => exact rfl); (case c3 => exact rfl); (case c4 => exact rfl); k_whole; intro g' L' h' FG' F' N' B' X' T'; (try dsimp only); (try k_lift B'); (try k_fold)))
  k_steps
  · exact absurd (by assumption) (fun hf => sign_no hw (by assumption) hf)
  · rw [← fold_signs wd hw] at hret
    exact hret _ _ _ (by k_asm) (by k_asm)

theorem law_number_spec (w : World) (loose : List Str) (mean : ExcName → Option Value) (mg mb : Str → Option Value) (rest : List (Addr × Obj)) (wd : List Nat) (tv : Tok) (hl : wd.length < 100) (hw : ∀ c ∈ wd, 65 ≤ c ∧ c ≤ 80) :
    Asks 10 w loose mean mg mb 123 rest [.str ⟨wd.toArray⟩ tv] (fun h₀ L m s Q => ∀ (h' : Heap) (tk' : Nat) (t : Tok), Fr h₀ L h' m → News h₀ L h' rest → Q (.int (numOf wd) t) { s with heap := h', toks := tk' }) :=
  fun dp un gd cn cs a ccd cl outer A₀ base h₀ L m s Q E => Classical.choose_spec law_number_spec_K.ex9 law_number_spec_at ((w, loose, mean, mg, mb, dp, un, gd, cn, cs, a, ccd, cl, outer, A₀, base, h₀, L, m, s, Q, E), rest, wd, tv) hl hw
end

section
namespace bisect_left_spec_K
noncomputable def P9 (w : World) (loose : List Str) (mean : ExcName → Option Value) (mg : Str → Option Value) (mb : Str → Option Value) (dp : Nat) (un : Nat) (gd : Option (List Code)) (cn : Str) (cs : Scope) (a : Addr) (ccd : Value) (cl : List (Str × Addr)) (outer : List Env) (A₀ : Around) (base : Heap) (h₀ : Heap) (L : Addr) (m : Str → Option Value) (s : Shared) (Q : Value → Shared → Prop) (E : Value → Shared → Prop) (rest : List (Addr × Obj)) (l : Addr) (ns : List Int) (its : List Value) (n : Nat) (x : Int) (tx : Tok) (t0 : Tok) : Prop :=
  (hi : IntsAre its ns) → (hl : ns.length < 64) → (hs : ns.Pairwise (· ≤ ·)) → AskV 10 w loose mean mg mb 41 ((l, W.listOf its.toArray n) :: rest) [.ref l, .int x tx] (fun h₀ L m s Q => ∀ (h' : Heap) (tk' : Nat) (t : Tok), Fr h₀ L h' m → News h₀ L h' ((l, W.listOf its.toArray n) :: rest) → Q (.int (cntLt x ns : Nat) t) { s with heap := h', toks := tk' }) dp un gd cn cs a ccd cl outer A₀ base h₀ L m s Q E
noncomputable def PV9 (v : K9 × (List (Addr × Obj)) × (Addr) × (List Int) × (List Value) × (Nat) × (Int) × (Tok) × (Tok)) : Prop := P9 v.1.1 v.1.2.1 v.1.2.2.1 v.1.2.2.2.1 v.1.2.2.2.2.1 v.1.2.2.2.2.2.1 v.1.2.2.2.2.2.2.1 v.1.2.2.2.2.2.2.2.1 v.1.2.2.2.2.2.2.2.2.1 v.1.2.2.2.2.2.2.2.2.2.1 v.1.2.2.2.2.2.2.2.2.2.2.1 v.1.2.2.2.2.2.2.2.2.2.2.2.1 v.1.2.2.2.2.2.2.2.2.2.2.2.2.1 v.1.2.2.2.2.2.2.2.2.2.2.2.2.2.1 v.1.2.2.2.2.2.2.2.2.2.2.2.2.2.2.1 v.1.2.2.2.2.2.2.2.2.2.2.2.2.2.2.2.1 v.1.2.2.2.2.2.2.2.2.2.2.2.2.2.2.2.2.1 v.1.2.2.2.2.2.2.2.2.2.2.2.2.2.2.2.2.2.1 v.1.2.2.2.2.2.2.2.2.2.2.2.2.2.2.2.2.2.2.1 v.1.2.2.2.2.2.2.2.2.2.2.2.2.2.2.2.2.2.2.2.1 v.1.2.2.2.2.2.2.2.2.2.2.2.2.2.2.2.2.2.2.2.2.1 v.1.2.2.2.2.2.2.2.2.2.2.2.2.2.2.2.2.2.2.2.2.2 v.2.1 v.2.2.1 v.2.2.2.1 v.2.2.2.2.1 v.2.2.2.2.2.1 v.2.2.2.2.2.2.1 v.2.2.2.2.2.2.2.1 v.2.2.2.2.2.2.2.2
theorem ex9 : ∃ c, PV9 c → ∀ v, PV9 v := sk9 ⟨(Classical.choice ne9, default, default, default, default, default, default, default, default)⟩ PV9
noncomputable def c9 : K9 × (List (Addr × Obj)) × (Addr) × (List Int) × (List Value) × (Nat) × (Int) × (Tok) × (Tok) := Classical.choose ex9
noncomputable def w : World := c9.1.1
noncomputable def loose : List Str := c9.1.2.1
noncomputable def mean : ExcName → Option Value := c9.1.2.2.1
noncomputable def mg : Str → Option Value := c9.1.2.2.2.1
noncomputable def mb : Str → Option Value := c9.1.2.2.2.2.1
noncomputable def h₀ : Heap := c9.1.2.2.2.2.2.2.2.2.2.2.2.2.2.2.2.2.1
noncomputable def L : Addr := c9.1.2.2.2.2.2.2.2.2.2.2.2.2.2.2.2.2.2.1
noncomputable def m : Str → Option Value := c9.1.2.2.2.2.2.2.2.2.2.2.2.2.2.2.2.2.2.2.1
noncomputable def s : Shared := c9.1.2.2.2.2.2.2.2.2.2.2.2.2.2.2.2.2.2.2.2.1
noncomputable def Q : Value → Shared → Prop := c9.1.2.2.2.2.2.2.2.2.2.2.2.2.2.2.2.2.2.2.2.2.1
noncomputable def E : Value → Shared → Prop := c9.1.2.2.2.2.2.2.2.2.2.2.2.2.2.2.2.2.2.2.2.2.2
noncomputable def rest : List (Addr × Obj) := c9.2.1
noncomputable def l : Addr := c9.2.2.1
noncomputable def ns : List Int := c9.2.2.2.1
noncomputable def its : List Value := c9.2.2.2.2.1
noncomputable def n : Nat := c9.2.2.2.2.2.1
noncomputable def x : Int := c9.2.2.2.2.2.2.1
noncomputable def tx : Tok := c9.2.2.2.2.2.2.2.1
noncomputable def t0 : Tok := c9.2.2.2.2.2.2.2.2
end bisect_left_spec_K
open bisect_left_spec_K in
set_option maxHeartbeats 4000000 in
set_option maxRecDepth 100000 in
theorem bisect_left_spec_at : P9 w loose mean mg mb (c9.1.2.2.2.2.2.1) (c9.1.2.2.2.2.2.2.1) (c9.1.2.2.2.2.2.2.2.1) (c9.1.2.2.2.2.2.2.2.2.1) (c9.1.2.2.2.2.2.2.2.2.2.1) (c9.1.2.2.2.2.2.2.2.2.2.2.1) (c9.1.2.2.2.2.2.2.2.2.2.2.2.1) (c9.1.2.2.2.2.2.2.2.2.2.2.2.2.1) (c9.1.2.2.2.2.2.2.2.2.2.2.2.2.2.1) (c9.1.2.2.2.2.2.2.2.2.2.2.2.2.2.2.1) (c9.1.2.2.2.2.2.2.2.2.2.2.2.2.2.2.2.1) h₀ L m s Q E rest l ns its n x tx t0 := by
  k_with_none
  w_top off
  intro hi hl hs B F X N T hk hdp hun codeHd hret
  have fill9 : Challenge.rw_sr0027_01 = Challenge.rw_sr0027_01 ∧ hd.heap_39 = hd.heap_39 := by k_fill; exact ⟨rfl, rfl⟩
  k_dflt (first | (refine' code_defC ?k1 ?k2 ?k3 ?k4 ?k5 ?kA ?kF ?kK ?k6 ?k7 ?k8 ?k9 ?kB ?kD ?_ ?c2 ?c3 ?c4; (case kA => exact rfl); (case kF => exact rfl); (case kK => first | exact rfl | assumption); (case k1 => k_asm); (case k2 => k_asm); (case k3 => k_asm); (case k4 => k_asm); (case k5 => k_asm); (case k6 => k_is); (case k7 => k_is); (case k8 => ktr_room); (case k9 => first | exact BindsTo.of_eq rfl | exact binds_K (by k_in) rfl (by k_is) rfl rfl rfl | (refine' kp_binds ?kx ?ke; (case kx => k_in); (case ke => exact fun _ => rfl)) | fail "k9"); (case kB => exact rfl); (case kD => decide +kernel); (case c2 => exact rfl); (case c3 => exact rfl); (case c4 => exact rfl); k_whole; intro g' L' h' tk' cells' FG' F' N' Y' B' X' T' l1; (try k_lt l1); k_cells Y'; (try simp only [List.cons_append, List.nil_append] at N'); (try dsimp only); (try k_lift B'); (try k_fold)) | (refine' code_def ?k1 ?k2 ?k3 ?k4 ?k5 ?kA ?kF ?kK ?k6 ?k7 ?k8 ?k9 ?kB ?_ ?c2 ?c3 ?c4 ?c5; (case kA => exact rfl); (case kF => exact rfl); (case kK => first | exact rfl | assumption); (case k1 => k_asm); (case k2 => k_asm); (case k3 => k_asm); (case k4 => k_asm); (case k5 => k_asm); (case k6 => k_is); (case k7 => k_is); (case k8 => ktr_room); (case k9 => first | exact BindsTo.of_eq rfl | exact binds_K (by k_in) rfl (by k_is) rfl rfl rfl | (refine' kp_binds ?kx ?ke; (case kx => k_in); (case ke => exact fun _ => rfl)) | fail "k9"); (case c5 => decide); (case kB => exact locs rfl); (case c2 => exact rfl); (case c3 => exact rfl); (case c4 => exact rfl); k_whole; intro g' L' h' FG' F' N' B' X' T'; (try dsimp only); (try k_lift B'); (try k_fold)))
  (k_with "exec While Compare cons nil" => k_while (fun (_ : List Int) lo hi => BInv (PL x) ns lo hi) (fun (_ : List Int) lo hi => (hi - lo).toNat) "lo" "hi")
  (k_with "state" => first | exact binv_start _ _ | exact binv_up (PL_mono x) hs ⟨by assumption, by assumption, by assumption, by assumption, by assumption⟩ (by assumption) (PL_tt (by assumption)) | exact binv_down (PL_mono x) hs ⟨by assumption, by assumption, by assumption, by assumption, by assumption⟩ (by assumption) (PL_ff (by assumption)))
  (k_with "measure" => first | exact fd2_less1 (by assumption) (by assumption) | exact fd2_less2 (by assumption) (by assumption))
  k_steps
  have e := binv_end (p := PL x) (ns := ns) ⟨by assumption, by assumption, by assumption, by assumption, by assumption⟩ (by assumption)
  rw [show ((cntLt x ns : Nat) : Int) = _ from e] at hret
  exact hret _ _ _ (by k_asm) (by k_asm)

theorem bisect_left_spec (w : World) (loose : List Str) (mean : ExcName → Option Value) (mg mb : Str → Option Value) (rest : List (Addr × Obj)) (l : Addr) (ns : List Int) (its : List Value) (n : Nat) (x : Int) (tx t0 : Tok) (hi : IntsAre its ns) (hl : ns.length < 64) (hs : ns.Pairwise (· ≤ ·)) :
    Asks 10 w loose mean mg mb 41 ((l, W.listOf its.toArray n) :: rest) [.ref l, .int x tx] (fun h₀ L m s Q => ∀ (h' : Heap) (tk' : Nat) (t : Tok), Fr h₀ L h' m → News h₀ L h' ((l, W.listOf its.toArray n) :: rest) → Q (.int (cntLt x ns : Nat) t) { s with heap := h', toks := tk' }) :=
  fun dp un gd cn cs a ccd cl outer A₀ base h₀ L m s Q E => Classical.choose_spec bisect_left_spec_K.ex9 bisect_left_spec_at ((w, loose, mean, mg, mb, dp, un, gd, cn, cs, a, ccd, cl, outer, A₀, base, h₀, L, m, s, Q, E), rest, l, ns, its, n, x, tx, t0) hi hl hs
end

section
namespace bisect_right_spec_K
noncomputable def P9 (w : World) (loose : List Str) (mean : ExcName → Option Value) (mg : Str → Option Value) (mb : Str → Option Value) (dp : Nat) (un : Nat) (gd : Option (List Code)) (cn : Str) (cs : Scope) (a : Addr) (ccd : Value) (cl : List (Str × Addr)) (outer : List Env) (A₀ : Around) (base : Heap) (h₀ : Heap) (L : Addr) (m : Str → Option Value) (s : Shared) (Q : Value → Shared → Prop) (E : Value → Shared → Prop) (rest : List (Addr × Obj)) (l : Addr) (ns : List Int) (its : List Value) (n : Nat) (x : Int) (tx : Tok) (t0 : Tok) : Prop :=
  (hi : IntsAre its ns) → (hl : ns.length < 64) → (hs : ns.Pairwise (· ≤ ·)) → AskV 10 w loose mean mg mb 32 ((l, W.listOf its.toArray n) :: rest) [.ref l, .int x tx, .int 0 t0, .none] (fun h₀ L m s Q => ∀ (h' : Heap) (tk' : Nat) (t : Tok), Fr h₀ L h' m → News h₀ L h' ((l, W.listOf its.toArray n) :: rest) → Q (.int (cntLe x ns : Nat) t) { s with heap := h', toks := tk' }) dp un gd cn cs a ccd cl outer A₀ base h₀ L m s Q E
noncomputable def PV9 (v : K9 × (List (Addr × Obj)) × (Addr) × (List Int) × (List Value) × (Nat) × (Int) × (Tok) × (Tok)) : Prop := P9 v.1.1 v.1.2.1 v.1.2.2.1 v.1.2.2.2.1 v.1.2.2.2.2.1 v.1.2.2.2.2.2.1 v.1.2.2.2.2.2.2.1 v.1.2.2.2.2.2.2.2.1 v.1.2.2.2.2.2.2.2.2.1 v.1.2.2.2.2.2.2.2.2.2.1 v.1.2.2.2.2.2.2.2.2.2.2.1 v.1.2.2.2.2.2.2.2.2.2.2.2.1 v.1.2.2.2.2.2.2.2.2.2.2.2.2.1 v.1.2.2.2.2.2.2.2.2.2.2.2.2.2.1 v.1.2.2.2.2.2.2.2.2.2.2.2.2.2.2.1 v.1.2.2.2.2.2.2.2.2.2.2.2.2.2.2.2.1 v.1.2.2.2.2.2.2.2.2.2.2.2.2.2.2.2.2.1 v.1.2.2.2.2.2.2.2.2.2.2.2.2.2.2.2.2.2.1 v.1.2.2.2.2.2.2.2.2.2.2.2.2.2.2.2.2.2.2.1 v.1.2.2.2.2.2.2.2.2.2.2.2.2.2.2.2.2.2.2.2.1 v.1.2.2.2.2.2.2.2.2.2.2.2.2.2.2.2.2.2.2.2.2.1 v.1.2.2.2.2.2.2.2.2.2.2.2.2.2.2.2.2.2.2.2.2.2 v.2.1 v.2.2.1 v.2.2.2.1 v.2.2.2.2.1 v.2.2.2.2.2.1 v.2.2.2.2.2.2.1 v.2.2.2.2.2.2.2.1 v.2.2.2.2.2.2.2.2
theorem ex9 : ∃ c, PV9 c → ∀ v, PV9 v := sk9 ⟨(Classical.choice ne9, default, default, default, default, default, default, default, default)⟩ PV9
noncomputable def c9 : K9 × (List (Addr × Obj)) × (Addr) × (List Int) × (List Value) × (Nat) × (Int) × (Tok) × (Tok) := Classical.choose ex9
noncomputable def w : World := c9.1.1
noncomputable def loose : List Str := c9.1.2.1
noncomputable def mean : ExcName → Option Value := c9.1.2.2.1
noncomputable def mg : Str → Option Value := c9.1.2.2.2.1
noncomputable def mb : Str → Option Value := c9.1.2.2.2.2.1
noncomputable def h₀ : Heap := c9.1.2.2.2.2.2.2.2.2.2.2.2.2.2.2.2.2.1
noncomputable def L : Addr := c9.1.2.2.2.2.2.2.2.2.2.2.2.2.2.2.2.2.2.1
noncomputable def m : Str → Option Value := c9.1.2.2.2.2.2.2.2.2.2.2.2.2.2.2.2.2.2.2.1
noncomputable def s : Shared := c9.1.2.2.2.2.2.2.2.2.2.2.2.2.2.2.2.2.2.2.2.1
noncomputable def Q : Value → Shared → Prop := c9.1.2.2.2.2.2.2.2.2.2.2.2.2.2.2.2.2.2.2.2.2.1
noncomputable def E : Value → Shared → Prop := c9.1.2.2.2.2.2.2.2.2.2.2.2.2.2.2.2.2.2.2.2.2.2
noncomputable def rest : List (Addr × Obj) := c9.2.1
noncomputable def l : Addr := c9.2.2.1
noncomputable def ns : List Int := c9.2.2.2.1
noncomputable def its : List Value := c9.2.2.2.2.1
noncomputable def n : Nat := c9.2.2.2.2.2.1
noncomputable def x : Int := c9.2.2.2.2.2.2.1
noncomputable def tx : Tok := c9.2.2.2.2.2.2.2.1
noncomputable def t0 : Tok := c9.2.2.2.2.2.2.2.2
end bisect_right_spec_K
open bisect_right_spec_K in
set_option maxHeartbeats 4000000 in
set_option maxRecDepth 100000 in
theorem bisect_right_spec_at : P9 w loose mean mg mb (c9.1.2.2.2.2.2.1) (c9.1.2.2.2.2.2.2.1) (c9.1.2.2.2.2.2.2.2.1) (c9.1.2.2.2.2.2.2.2.2.1) (c9.1.2.2.2.2.2.2.2.2.2.1) (c9.1.2.2.2.2.2.2.2.2.2.2.1) (c9.1.2.2.2.2.2.2.2.2.2.2.2.1) (c9.1.2.2.2.2.2.2.2.2.2.2.2.2.1) (c9.1.2.2.2.2.2.2.2.2.2.2.2.2.2.1) (c9.1.2.2.2.2.2.2.2.2.2.2.2.2.2.2.1) (c9.1.2.2.2.2.2.2.2.2.2.2.2.2.2.2.2.1) h₀ L m s Q E rest l ns its n x tx t0 := by
  k_with_none
  w_top off
  intro hi hl hs B F X N T hk hdp hun codeHd hret
  have fill9 : Challenge.rw_sr0027_01 = Challenge.rw_sr0027_01 ∧ hd.heap_39 = hd.heap_39 := by k_fill; exact ⟨rfl, rfl⟩
  k_dflt (first | (refine' code_defC ?k1 ?k2 ?k3 ?k4 ?k5 ?kA ?kF ?kK ?k6 ?k7 ?k8 ?k9 ?kB ?kD ?_ ?c2 ?c3 ?c4; (case kA => exact rfl); (case kF => exact rfl); (case kK => first | exact rfl | assumption); (case k1 => k_asm); (case k2 => k_asm); (case k3 => k_asm); (case k4 => k_asm); (case k5 => k_asm); (case k6 => k_is); (case k7 => k_is); (case k8 => ktr_room); (case k9 => first | exact BindsTo.of_eq rfl | exact binds_K (by k_in) rfl (by k_is) rfl rfl rfl | (refine' kp_binds ?kx ?ke; (case kx => k_in); (case ke => exact fun _ => rfl)) | fail "k9"); (case kB => exact rfl); (case kD => decide +kernel); (case c2 => exact rfl); (case c3 => exact rfl); (case c4 => exact rfl); k_whole; intro g' L' h' tk' cells' FG' F' N' Y' B' X' T' l1; (try k_lt l1); k_cells Y'; (try simp only [List.cons_append, List.nil_append] at N'); (try dsimp only); (try k_lift B'); (try k_fold)) | (refine' code_def ?k1 ?k2 ?k3 ?k4 ?k5 ?kA ?kF ?kK ?k6 ?k7 ?k8 ?k9 ?kB ?_ ?c2 ?c3 ?c4 ?c5; (case kA => exact rfl); (case kF => exact rfl); (case kK => first | exact rfl | assumption); (case k1 => k_asm); (case k2 => k_asm); (case k3 => k_asm); (case k4 => k_asm); (case k5 => k_asm); (case k6 => k_is); (case k7 => k_is); (case k8 => ktr_room); (case k9 => first | exact BindsTo.of_eq rfl | exact binds_K (by k_in) rfl (by k_is) rfl rfl rfl | (refine' kp_binds ?kx ?ke; (case kx => k_in); (case ke => exact fun _ => rfl)) | fail "k9"); (case c5 => decide); (case kB => exact locs rfl); (case c2 => exact rfl); (case c3 => exact rfl); (case c4 => exact rfl); k_whole; intro g' L' h' FG' F' N' B' X' T'; (try dsimp only); (try k_lift B'); (try k_fold)))
  (k_with "exec While Compare cons nil" => k_while (fun (_ : List Int) lo hi => BInv (PR x) ns lo hi) (fun (_ : List Int) lo hi => (hi - lo).toNat) "lo" "hi")
  (k_with "state" => first | exact binv_start _ _ | exact binv_up (PR_mono x) hs ⟨by assumption, by assumption, by assumption, by assumption, by assumption⟩ (by assumption) (PR_tt (by assumption)) | exact binv_down (PR_mono x) hs ⟨by assumption, by assumption, by assumption, by assumption, by assumption⟩ (by assumption) (PR_ff (by assumption)))
  (k_with "measure" => first | exact fd2_less1 (by assumption) (by assumption) | exact fd2_less2 (by assumption) (by assumption))
  k_steps
  have e := binv_end (p := PR x) (ns := ns) ⟨by assumption, by assumption, by assumption, by assumption, by assumption⟩ (by assumption)
  rw [show ((cntLe x ns : Nat) : Int) = _ from e] at hret
  exact hret _ _ _ (by k_asm) (by k_asm)

theorem bisect_right_spec (w : World) (loose : List Str) (mean : ExcName → Option Value) (mg mb : Str → Option Value) (rest : List (Addr × Obj)) (l : Addr) (ns : List Int) (its : List Value) (n : Nat) (x : Int) (tx t0 : Tok) (hi : IntsAre its ns) (hl : ns.length < 64) (hs : ns.Pairwise (· ≤ ·)) :
    Asks 10 w loose mean mg mb 32 ((l, W.listOf its.toArray n) :: rest) [.ref l, .int x tx, .int 0 t0, .none] (fun h₀ L m s Q => ∀ (h' : Heap) (tk' : Nat) (t : Tok), Fr h₀ L h' m → News h₀ L h' ((l, W.listOf its.toArray n) :: rest) → Q (.int (cntLe x ns : Nat) t) { s with heap := h', toks := tk' }) :=
  fun dp un gd cn cs a ccd cl outer A₀ base h₀ L m s Q E => Classical.choose_spec bisect_right_spec_K.ex9 bisect_right_spec_at ((w, loose, mean, mg, mb, dp, un, gd, cn, cs, a, ccd, cl, outer, A₀, base, h₀, L, m, s, Q, E), rest, l, ns, its, n, x, tx, t0) hi hl hs
end

section
set_option maxHeartbeats 4000000 in
set_option maxRecDepth 100000 in
theorem insort_right_spec (w : World) (loose : List Str) (mean : ExcName → Option Value) (mg mb : Str → Option Value) (rest : List (Addr × Obj)) (l : Addr) (ns : List Int) (its : List Value) (n : Nat) (x : Int) (tx : Tok) (hi : IntsAre its ns) (hl : ns.length < 63) (hs : ns.Pairwise (· ≤ ·)) (hr : ∀ p ∈ rest, p.1 ≠ l) :
    Asks 12 w loose mean mg mb 23 ((l, W.listOf its.toArray n) :: rest) [.ref l, .int x tx] (fun h₀ L m s Q => ∀ (h' : Heap) (tk' : Nat) (its' : List Value), IntsAre its' (insR x ns) → Fr h₀ L h' m → News h₀ L h' ((l, W.listOf its'.toArray (n + 1)) :: rest) → Q .none { s with heap := h', toks := tk' }) := by
  k_with_none
  w_top off
  intro dp un gd cn cs a ccd cl outer A₀ base h₀ L m s Q E B F X N T hk hdp hun codeHd hret
  have fill9 : Challenge.rw_sr0027_01 = Challenge.rw_sr0027_01 ∧ hd.heap_39 = hd.heap_39 := by k_fill; exact ⟨rfl, rfl⟩
  k_dflt (first | (refine' code_defC ?k1 ?k2 ?k3 ?k4 ?k5 ?kA ?kF ?kK ?k6 ?k7 ?k8 ?k9 ?kB ?kD ?_ ?c2 ?c3 ?c4; (case kA => exact rfl); (case kF => exact rfl); (case kK => first | exact rfl | assumption); (case k1 => k_asm); (case k2 => k_asm); (case k3 => k_asm); (case k4 => k_asm); (case k5 => k_asm); (case k6 => k_is); (case k7 => k_is); (case k8 => ktr_room); (case k9 => first | exact BindsTo.of_eq rfl | exact binds_K (by k_in) rfl (by k_is) rfl rfl rfl | (refine' kp_binds ?kx ?ke; (case kx => k_in); (case ke => exact fun _ => rfl)) | fail "k9"); (case kB => exact rfl); (case kD => decide +kernel); (case c2 => exact rfl); (case c3 => exact rfl); (case c4 => exact rfl); k_whole; intro g' L' h' tk' cells' FG' F' N' Y' B' X' T' l1; (try k_lt l1); k_cells Y'; (try simp only [List.cons_append, List.nil_append] at N'); (try dsimp only); (try k_lift B'); (try k_fold)) | (refine' code_def ?k1 ?k2 ?k3 ?k4 ?k5 ?kA ?kF ?kK ?k6 ?k7 ?k8 ?k9 ?kB ?_ ?c2 ?c3 ?c4 ?c5; (case kA => exact rfl); (case kF => exact rfl); (case kK => first | exact rfl | assumption); (case k1 => k_asm); (case k2 => k_asm); (case k3 => k_asm); (case k4 => k_asm); (case k5 => k_asm); (case k6 => k_is); (case k7 => k_is); (case k8 => ktr_room); (case k9 => first | exact BindsTo.of_eq rfl | exact binds_K (by k_in) rfl (by k_is) rfl rfl rfl | (refine' kp_binds ?kx ?ke; (case kx => k_in); (case ke => exact fun _ => rfl)) | fail "k9"); (case c5 => decide); (case kB => exact locs rfl); (case c2 => exact rfl); (case c3 => exact rfl); (case c4 => exact rfl); k_whole; intro g' L' h' FG' F' N' B' X' T'; (try dsimp only); (try k_lift B'); (try k_fold)))
  have hcl : ns.countP (fun a => decide (a ≤ x)) ≤ its.length := by rw [hi.length]; exact List.countP_le_length
  (k_with "call ref" => ((with_reducible show wpAny _ _ (call (Value.ref 32) _) _ _ _); k_dflt (refine' wpAny_call (bisect_right_spec w loose mean mg mb _ l ns its n x _ _ hi (by omega) hs _ _ _ _ _ _ _ _ _ _ _ _ _ _ _ _ _ (by k_asm) (by k_asm) (by k_asm) (by k_asm) (by k_asm) (by first | exact rfl | assumption) (by ktr_room) (by ktr_units) (by assumption) ?_)); intro h' tk' t9 F9 N9; (try dsimp only); (try k_sweep); (try k_fold)))
  (k_with "call builtin:list.insert" => (k_dflt (refine' ins_K (k := ns.countP fun a => decide (a ≤ x)) (by k_asm) (by k_asm) rfl hcl ?U (by rw [hi.length]; omega) ?_; (case U => k_upd)); intro h' F' N'; (try k_sweep)))
  k_steps
  exact hret _ _ _ (ints_ins hi _ x _) (by k_asm) (by k_asm)
end

section
open PySem PySem.W PyProof.Rows PySem.Builtin
theorem utf8At_ascii (b : Array UInt8) (p : Nat) (h : (b.getD p 0).toNat < 128) : _codecs.utf8Decoder.find true b p = .char (b.getD p 0).toNat (p + 1) := by
  unfold _codecs.utf8Decoder
  dsimp only
  unfold Bytes.utf8At
  dsimp only
  rw [if_pos h]
theorem forIn_go {β : Type} (F : Nat → β → Sem (ForInStep β)) (S : Nat → β) (N : Nat) (hF : ∀ x i, i < N → F x (S i) = pure (.yield (S (i + 1)))) : ∀ (l : List Nat) (k : Nat), k + l.length ≤ N → forIn l (S k) F = pure (S (k + l.length))
  | [], k, _ => rfl
  | a :: l, k, h => by
    rw [List.forIn_cons, hF a k (by simp only [List.length_cons] at h; omega)]
    show forIn l (S (k + 1)) F = _
    rw [forIn_go F S N hF l (k + 1) (by simp only [List.length_cons] at h; omega)]
    congr 2
    simp only [List.length_cons]; omega
noncomputable def decS (b : Array UInt8) (i : Nat) : Array Nat := ((b.toList.take i).map UInt8.toNat).toArray
theorem decS_step (b : Array UInt8) (i : Nat) (h : i < b.size) : decS b i ++ [(b.getD i 0).toNat].toArray = decS b (i + 1) := by
  unfold decS
  rw [List.take_succ_eq_append_getElem (by simpa using h), List.map_append]
  simp [Array.getD, h]
theorem dec_ascii (b : Array UInt8) (h : ∀ i < b.size, (b.getD i 0).toNat < 128) (hs : b.size < 1000) (id : String) : _codecs.runDecoder id _codecs.utf8Decoder none true b 0 [] = pure ((b.toList.map UInt8.toNat).toArray, b.size) := by
  unfold _codecs.runDecoder
  dsimp only
  rw [Std.Legacy.Range.forIn_eq_forIn_range']
  refine (congrArg (fun z => z >>= _) (forIn_go _ (fun i => (i, decS b i, ({} : _codecs.Faults))) b.size ?_ _ 0 ?_)).trans ?_
  · intro x i hi
    have h1 : (decS b i).size ≤ i := by unfold decS; simp; omega
    dsimp only
    rw [if_neg (by rw [sizeLine_eq]; omega), if_neg (by omega), utf8At_ascii b i (h i hi)]
    dsimp only [_codecs.Found.char]
    rw [decS_step b i hi]
  · simp
  · have e : decS b b.size = (b.toList.map UInt8.toNat).toArray := by unfold decS; rw [show b.size = b.toList.length by simp, List.take_length]
    simp only [Std.Legacy.Range.size, List.length_range']
    simp
    rw [e]
theorem decode_empty {prog : Program} {w : World} {A : Around} {E : Value → Shared → Prop} {s : Shared} {t : Tok} {Q : Value → Shared → Prop} (h : ∀ t' k, Q (.str ⟨#[]⟩ t') { s with toks := k }) :
    wpAny (model prog w) A (call (.builtin "bytes.decode") [.bytes #[] t]) Q E s := by
  have e : Builtin.«bytes.decode» ⟨[.bytes #[] t], []⟩ = (rule s!"{s!"{Bytes.Kind.bytes.name}.decode"}.empty" >>= fun _ => mkStr ⟨#[]⟩ >>= fun v => ret v) := by kernel_rfl
  have hm : Meets (Builtin.«bytes.decode» ⟨[.bytes #[] t], []⟩) (fun _ R s => ∀ t' k, R (.ok (.ret (.str ⟨#[]⟩ t'))) { s with toks := k }) := by
    refine .of_wp fun prog w A R s hS => ?_
    rw [e]
    exact wpAny_bind (wpAny_rule (wpAny_bind (wpAny_mkStr (wpAny_pure ⟨_, rfl, hS _ _⟩) (by decide))))
  exact call_meets FB.slot_bytes_decode (typeIs_bytes _ _ _) FB.entry_bytes_decode (FB.args_bytes_decode_1 _) hm h
theorem toNat_ofNat {c : Nat} (h : c < 128) : (UInt8.ofNat c).toNat = c := by
  simp [UInt8.toNat_ofNat']; omega
theorem decode_any {prog : Program} {w : World} {A : Around} {E : Value → Shared → Prop} {s : Shared} {t : Tok} {Q : Value → Shared → Prop} (l : List Nat) (hc : ∀ c ∈ l, c < 128) (hl : l.length < 1000) (h : ∀ t' k, Q (.str ⟨l.toArray⟩ t') { s with toks := k }) :
    wpAny (model prog w) A (call (.builtin "bytes.decode") [.bytes (l.map UInt8.ofNat).toArray t]) Q E s := by
  cases l with
  | nil => exact decode_empty h
  | cons c cs =>
    refine KBd.decode (x := ⟨(c :: cs).toArray⟩) (n := ((c :: cs).map UInt8.ofNat).toArray.size) (fun id => ?_) ?_ h
    · have e2 : (((c :: cs).map UInt8.ofNat).toArray.toList.map UInt8.toNat) = c :: cs := by
        show ((c :: cs).map UInt8.ofNat).map UInt8.toNat = c :: cs
        rw [List.map_map]
        conv => rhs; rw [← List.map_id (c :: cs)]
        exact List.map_congr_left fun a ha => toNat_ofNat (hc a ha)
      have := dec_ascii ((c :: cs).map UInt8.ofNat).toArray (fun i hi => ?_) (by simpa using hl) id
      · rw [e2] at this
        exact this
      · rw [Array.getD_eq_getD_getElem?]
        have hi' : i < (c :: cs).length := by simpa using hi
        rw [Array.getElem?_eq_getElem hi]
        show (((c :: cs).map UInt8.ofNat)[i]'(by simpa using hi')).toNat < 128
        rw [List.getElem_map, toNat_ofNat (hc _ (List.getElem_mem hi'))]
        exact hc _ (List.getElem_mem hi')
    · show (c :: cs).toArray.size ≤ _
      simp only [List.size_toArray]; omega
end

section
theorem strs_signs (x : Str) : ∀ (l : List Nat) (vs : List Value), vs.length = l.length → (∀ (j : Nat) (v : Value), vs[j]? = some v → ∃ (c : Nat) (u : Tok), l[j]? = some c ∧ v = Value.str ⟨#[c]⟩ u) → StrsAre vs (l.map fun c => (⟨#[c]⟩ : Str))
  | [], [], _, _ => .nil
  | c :: l, v :: vs, hl, h => by
    obtain ⟨c', u, hc, rfl⟩ := h 0 v rfl
    cases hc
    exact .cons _ _ (strs_signs x l vs (by simpa using hl) fun j v hv => h (j + 1) v hv)
theorem kls_list {prog : Program} {w : World} {A : Around} {E : Value → Shared → Prop} {s : Shared} {h₀ : Heap} {L : Addr} {m : Str → Option Value} {news : List (Addr × Obj)} {Q : Value → Shared → Prop} {l : List Nat} {t : Tok}
    (hh : A.handled = none) (F : Fr h₀ L s.heap m) (N : News h₀ L s.heap news) (hz : l.length ≤ 1000)
    (h : ∀ D us c h' tk, Fr h₀ L h' m → News h₀ L h' ((D, W.listOf (List.toArray us) c) :: news) → (∀ p ∈ news, p.1 < D) → StrsAre us (l.map fun c => (⟨#[c]⟩ : Str)) → Q (.ref D) { s with heap := h', toks := tk }) :
    wpAny (model prog w) A (call (.type "list") [.str ⟨l.toArray⟩ t]) Q E s := by
  refine call_list_str hh ⟨l.toArray⟩ t (hn := by rw [sizeLine_eq]; simp; omega) fun h' tk acc c hk hD hI => ?_
  have hD' : h'.get? s.heap.objs.size = some (W.listOf (List.toArray acc.toList) c) := by
    rw [Array.toArray_toList]
    exact hD
  exact h _ acc.toList c h' tk (F.keeps hk) (news_pushed F N hk hD' rfl) (fun p hp => Heap.lt_size (N p hp).1) (strs_signs ⟨l.toArray⟩ l _ (by rw [Array.length_toList]; simpa using hI.1) fun j v hj => by
    obtain ⟨c, u, hc, e⟩ := hI.2 j v (by rw [← hj, Array.getElem?_toList])
    exact ⟨c, u, by simpa using hc, e⟩)

/-- a word's letters with a stroke between -/
noncomputable def jw : List Nat → List Nat
  | [] => []
  | c :: r => c :: r.flatMap fun d => [92, d]
theorem jw_fold (r : List Nat) (a : Array Nat) : (r.map fun c => (⟨#[c]⟩ : Str)).foldl (fun acc p => acc ++ (Str.ofString "\\").cps ++ p.cps) a = a ++ (r.flatMap fun d => [92, d]).toArray := by
  induction r generalizing a with
  | nil => simp
  | cons c r ih =>
    rw [List.map_cons, List.foldl_cons, ih]
    have : (Str.ofString "\\").cps = #[92] := by decide +kernel
    rw [this]
    simp [List.flatMap_cons]
theorem join_jw (l : List Nat) : Txt.join (Str.ofString "\\") (l.map fun c => (⟨#[c]⟩ : Str)) = ⟨(jw l).toArray⟩ := by
  show (⟨((l.map fun c => (⟨#[c]⟩ : Str)).drop 1).foldl _ ((l.map fun c => (⟨#[c]⟩ : Str)).headD Str.empty).cps⟩ : Str) = _
  cases l with
  | nil => rfl
  | cons c r =>
    congr 1
    show (r.map fun c => (⟨#[c]⟩ : Str)).foldl _ #[c] = _
    rw [jw_fold]
    unfold jw
    simp
theorem fm_len (r : List Nat) : (r.flatMap fun d => [92, d]).length = 2 * r.length := by
  induction r with
  | nil => rfl
  | cons c r ih => rw [List.flatMap_cons, List.length_append, ih]; simp only [List.length_cons, List.length_nil]; omega
theorem jw_len (l : List Nat) : (jw l).length ≤ 2 * l.length := by
  cases l with
  | nil => exact Nat.le_refl _
  | cons c r => unfold jw; rw [List.length_cons, fm_len, List.length_cons]; omega
theorem sum_ones (l : List Nat) : ((l.map fun c => (⟨#[c]⟩ : Str)).map (·.length)).sum = l.length := by
  induction l with
  | nil => rfl
  | cons c r ih => rw [List.map_cons, List.map_cons, List.sum_cons, ih, List.length_cons]; show 1 + _ = _; omega
theorem kls_join {prog : Program} {w : World} {A : Around} {E : Value → Shared → Prop} {s : Shared} {Q : Value → Shared → Prop} {D : Addr} {us : List Value} {l : List Nat} {t : Tok} (hl : s.heap.IsList D us.toArray) (hi : StrsAre us (l.map fun c => (⟨#[c]⟩ : Str))) (hz : l.length ≤ 1000)
    (h : ∀ t' k, Q (.str ⟨(jw l).toArray⟩ t') { s with toks := k }) : wpAny (model prog w) A (call (.builtin "str.join") [.str (Str.ofString "\\") t, .ref D]) Q E s := by
  refine join_listW hl hi (by decide +kernel) (by rw [sum_ones, List.length_map]; omega) ?_
  rw [join_jw]
  exact h
end

section
section
variable {prog : Program} {w : World} {A : Around} {E : Value → Shared → Prop} {s : Shared} {g : Heap} {L a : Addr} {cn : Str} {cs : Scope} {ccd : Value} {cl : List (Str × Addr)}
/-- a turn's end where the loop's own name is a cell: the ledger stands with the iterator and the cell ahead -/
inductive LEndCI (g : Heap) (L I c : Addr) (o : Obj) (J : Nat → (Str → Option Value) → List (Addr × Obj) → Prop) (i : Nat) (s0 s : Shared) : Prop
  | mk (h' : Heap) (tk' : Nat) (m' : Str → Option Value) (oc : Obj) (vc : Option Value) (nx : List (Addr × Obj)) : s = { s0 with heap := h', toks := tk' } → Fr g L h' m' → News g L h' ((I, o) :: (c, oc) :: nx) → oc.data = .cell vc → (∀ p ∈ nx, p.1 ≠ I) → (∀ p ∈ nx, p.1 ≠ c) → J i m' nx → LEndCI g L I c o J i s0 s
structure LEndC (g : Heap) (L I c : Addr) (o : Obj) (J : Nat → (Str → Option Value) → List (Addr × Obj) → Prop) (i : Nat) (s0 s : Shared) : Prop where
  h : LEndCI g L I c o J i s0 s
inductive StartC (g : Heap) (L c : Addr) (a₀ : Int) (n : Nat) (J : Nat → (Str → Option Value) → List (Addr × Obj) → Prop) (s : Shared) (xv : Value) (s₁ : Shared) : Prop
  | mk (r : Addr) (b : Int) (t u v : Tok) (m : Str → Option Value) (oc : Obj) (vc : Option Value) (nx : List (Addr × Obj)) (h : Heap) (tk : Nat) : xv = .ref r → s₁ = { s with heap := h, toks := tk } → IsRange h r a₀ b 1 t u v → Builtin.Range.small a₀ b 1 = true →
      Builtin.Range.rangeSize a₀ b 1 = (n : Int) → Fr g L h m → News g L h ((c, oc) :: nx) → oc.data = .cell vc → (∀ p ∈ nx, p.1 ≠ c) → J 0 m nx → StartC g L c a₀ n J s xv s₁
inductive IvC (g : Heap) (L I c : Addr) (s : Shared) (a₀ : Int) (n : Nat) (J : Nat → (Str → Option Value) → List (Addr × Obj) → Prop) (k : Nat) (s' : Shared) : Prop
  | mk (i : Nat) (m₁ : Str → Option Value) (o oc : Obj) (vc : Option Value) (nx : List (Addr × Obj)) (h : Heap) (tk : Nat) : k = n - i → i ≤ n → s' = { s with heap := h, toks := tk } → Fr g L h m₁ → News g L h ((I, o) :: (c, oc) :: nx) → oc.data = .cell vc → (∀ p ∈ nx, p.1 ≠ I) → c ≠ I → (∀ p ∈ nx, p.1 ≠ c) → IsRangeIter h I (a₀ + (i : Nat) * 1) ((n : Int) - (i : Nat)) 1 → J i m₁ nx → IvC g L I c s a₀ n J k s'
theorem lforC {x : Str} {px pos : Pos} {iter : Expr} {body : List Stmt} {Q : Flow → Shared → Prop} (c : Addr) (a₀ : Int) (n : Nat) (J : Nat → (Str → Option Value) → List (Addr × Obj) → Prop) (hh : A.handled = none) (hcl : cl.lookup x = some c)
    (hkf : cs.kind = .function) (hx : (envX cn cs L a ccd cl).kindOf x = some .cell)
    (h : wpAny (model prog w) A (eval iter (envX cn cs L a ccd cl)) (fun xv s₁ => Halt (StartC g L c a₀ n J s xv s₁)) E s)
    (turn : ∀ i t m₁ oc nx h tk I o, i < n → J i m₁ nx → (∀ p ∈ nx, p.1 ≠ I) → c ≠ I → (∀ p ∈ nx, p.1 ≠ c) → oc.data = .cell (some (.int (a₀ + (i : Nat)) t)) → Fr g L h m₁ → News g L h ((I, o) :: (c, oc) :: nx) →
      wpAny (model prog w) A (execs body (envX cn cs L a ccd cl)) (OwitFlow Q (LEndC g L I c o J (i + 1) s)) E { s with heap := h, toks := tk })
    (done : ∀ m₁ oc vc nx h tk, J n m₁ nx → oc.data = .cell vc → Fr g L h m₁ → News g L h ((c, oc) :: nx) → Q .next { s with heap := h, toks := tk })
    (hs : ∀ x, foldedSetIterable iter (envX cn cs L a ccd cl) x = pure x := by intro _; rfl) (hE : PassesOwn (model prog w) A (envX cn cs L a ccd cl) E := by passes_own) :
    wpAny (model prog w) A (exec (.For (.Name x px) iter body [] pos) (envX cn cs L a ccd cl)) Q E s := by
  refine wpAny_For (wpAny_mono h (fun xv s₁ h₁ => ?_) fun _ _ z => z) hs
  obtain ⟨r, b, t, u, v, m, oc, vc, nx, hp, tk, rfl, rfl, hr, hsm, hn, F, N, hd, offc, hJ⟩ := h₁.h
  refine wpAny_pyIter_range hr hsm ?_
  have ho0 : ∀ p ∈ (c, oc) :: nx, p.1 ≠ hp.objs.size := fun p hp' => Nat.ne_of_lt (Heap.lt_size (N p hp').1)
  have wk := Walks.range (prog := prog) (w := w) (A := A) hh hp.objs.size a₀ 1 n
  have fin0 : g.get? hp.objs.size = none := by
    cases e : g.get? hp.objs.size with
    | none => rfl
    | some o => exact absurd (Heap.lt_size (F.keep _ _ e)) (Nat.lt_irrefl _)
  refine codeAny_forLoop (R := fun r s' => match r with | .ok f => Q f s' | .error e => cameBackBy (model prog w) A (envX cn cs L a ccd cl) E e s')
    (IvC g L hp.objs.size c s a₀ n J) ?_ n
    ⟨0, m, _, oc, vc, nx, _, tk, rfl, Nat.zero_le _, rfl, F.push _, N.push F _, hd, fun p hp' => ho0 p (.tail _ hp'), ho0 _ (.head _), offc, by
      show IsRangeIter _ _ _ _ _
      rw [hn]; simpa using Heap.get?_push_size _ rfl, hJ⟩
  generalize hp.objs.size = I at *
  rintro k s' ⟨i, m₁, o, oc, vc, nx, h, tk, rfl, hin, rfl, F, N, hd, off, hcI, offc, st, hJ⟩
  have hLI : L ≠ I := Ne.symm (N _ (.head _)).2.1
  have hgI : g.get? I = none := (N _ (.head _)).2.2
  have keepF : ∀ {h' : Heap}, (∀ b ob, b ∉ [I] → h.get? b = some ob → h'.get? b = some ob) → Fr g L h' m₁ := fun hk => ⟨F.ns.at' fun ob e => hk _ _ (by simpa using hLI) e, fun b ob e => hk b ob (by
      simp only [List.mem_singleton]; intro z; subst z; rw [hgI] at e; cases e) (F.keep b ob e), F.above⟩
  by_cases hlt : i < n
  · refine wpAny_passesOwn hE (wk.item i _ _ _ hlt st fun v h' tk' hP st' hk => ?_)
    obtain ⟨t, rfl⟩ := hP
    obtain ⟨o', ho'⟩ : ∃ o', h'.get? I = some o' := ⟨_, st'⟩
    have F' := keepF hk
    have N' : News g L h' ((I, o') :: (c, oc) :: nx) := fun p hp => by
      rcases List.mem_cons.mp hp with rfl | hp
      · exact ⟨ho', (N _ (.head _)).2⟩
      · have hpI : p.1 ≠ I := by
          rcases List.mem_cons.mp hp with rfl | hp
          · exact hcI
          · exact off p hp
        exact ⟨hk _ _ (by simpa using hpI) (N p (.tail _ hp)).1, (N p (.tail _ hp)).2⟩
    refine wpAny_passesOwn hE (wpAny_assign_Name (storeX_C F' N' hcl (UpdF.tail (Ne.symm hcI) (UpdF.head offc)) hd (fun h'' oc' F'' N'' hd'' => ?_) hkf hx))
    rw [Int.mul_one] at hd''
    have st'' : IsRangeIter h'' I (a₀ + ((i + 1 : Nat) : Int) * 1) ((n : Int) - ((i + 1 : Nat) : Int)) 1 := (N'' _ (.head _)).1.trans (ho'.symm.trans st')
    refine wpAny_passesOwn hE (wpAny_mono (turn i t m₁ oc' nx h'' _ I o' hlt hJ off hcI offc hd'' F'' N'') (fun f s₃ h₃ => ?_) fun _ _ z => z)
    have fin : LEndC g L I c o' J (i + 1) s s₃ → ∃ m, m < n - i ∧ IvC g L I c s a₀ n J m s₃ := by
      rintro ⟨⟨h3, tk3, m3, oc3, vc3, nx3, rfl, F3, N3, hd3, off3, offc3, hJ3⟩⟩
      refine ⟨n - (i + 1), by omega, i + 1, m3, o', oc3, vc3, nx3, h3, tk3, rfl, hlt, rfl, F3, N3, hd3, off3, hcI, offc3, ?_, hJ3⟩
      exact (N3 _ (.head _)).1.trans ((N'' _ (.head _)).1.symm.trans st'')
    cases f with
    | next => exact fin h₃
    | cont => exact fin h₃
    | brk => exact h₃
    | ret _ => exact h₃
  · have hi : i = n := by omega
    subst hi
    refine wpAny_passesOwn hE (wk.done _ _ _ st fun h' tk' hk => wpAny_execs_nil ?_)
    refine done m₁ oc vc nx h' tk' hJ hd (keepF hk) (fun p hp => ?_)
    have hpI : p.1 ≠ I := by
      rcases List.mem_cons.mp hp with rfl | hp
      · exact hcI
      · exact off p hp
    exact ⟨hk _ _ (by simpa using hpI) (N p (.tail _ hp)).1, (N p (.tail _ hp)).2⟩
end
end

section
section
open LCg
variable {prog : Program} {w : World} {A : Around} {s : Shared} {h₀ : Heap} {L : Addr} {m : Str → Option Value} {env : Env}
theorem compEnd_mono {s₁ : Shared} {I : Addr} {oI : Obj} {C : Addr} {oC : Obj} {D : Addr} {oD : Obj} {S : List (Addr × Obj) → Prop} {r r' : Value → List (Addr × Obj) → Prop} {y : Value} {s₂ : Shared}
    (h : CompEnd h₀ L m s₁ I oI C oC D oD S r y s₂) (hr : ∀ y n, r y n → r' y n) : CompEnd h₀ L m s₁ I oI C oC D oD S r' y s₂ :=
  let ⟨h', tk, n', e, F, N, o, hS, x⟩ := h
  ⟨h', tk, n', e, F, N, o, hS, hr _ _ x⟩
/-- a comprehension by an invariant: J turn list ledger -/
theorem restInv {elt : Expr} {x : Str} {scope : Scope} {cl : List (Str × Addr)} {S : List (Addr × Obj) → Prop} {P : Nat → Value → Prop} {Fin : List Value → List (Addr × Obj) → Prop} {n : Nat} (J : Nat → List Value → List (Addr × Obj) → Prop) {news : List (Addr × Obj)}
    (start : J 0 [] news)
    (step : ∀ i v ys news I oI C oC D m₂ h tk (E' : Value → Shared → Prop), i < n → P i v → J i ys news → NsObj oC m₂ → m₂ x = some v → Fr h₀ L h m → News h₀ L h ((I, oI) :: (C, oC) :: (D, lst ys) :: news) → Off3 I C D news → ((@Ne Nat I C) ∧ (@Ne Nat I D) ∧ (@Ne Nat C D)) →
      wpAny (model prog w) A (eval elt (compEnvC scope cl C env)) (CompEnd h₀ L m { s with heap := h, toks := tk } I oI C oC D (lst ys) S (fun y news' => Halt (J (i + 1) (ys ++ [y]) news'))) E' { s with heap := h, toks := tk })
    (fin : ∀ ys news, J n ys news → Fin ys news) : CompRest prog w A h₀ L m env elt x scope cl s S P Fin n 0 [] news := by
  have key : ∀ k i ys news, i + k = n → J i ys news → CompRest prog w A h₀ L m env elt x scope cl s S P Fin k i ys news := by
    intro k
    induction k with
    | zero => intro i ys news hk hJ; obtain rfl : i = n := by omega
              exact CompRest.zero (fin _ _ hJ)
    | succ k ih =>
      intro i ys news hk hJ
      refine CompRest.succ ?_
      intro v I oI C oC D m₂ h tk E' hP hC hx F N off ne
      exact wpAny_mono (step i v ys news I oI C oC D m₂ h tk E' (by omega) hP hJ hC hx F N off ne) (fun y s₂ h₂ => compEnd_mono h₂ fun y n' hj => ih (i + 1) _ _ (by omega) hj.h) fun _ _ e => e
  exact key n 0 [] news (by omega) start
open LCt in
/-- the same with a test -/
theorem restInvT {ct elt : Expr} {x : Str} {scope : Scope} {cl : List (Str × Addr)} {S : List (Addr × Obj) → Prop} {P : Nat → Value → Prop} {Fin : List Value → List (Addr × Obj) → Prop} {n : Nat} (J : Nat → List Value → List (Addr × Obj) → Prop) {news : List (Addr × Obj)}
    (start : J 0 [] news)
    (step : ∀ i v ys news I oI C oC D m₂ h tk (E' : Value → Shared → Prop), i < n → P i v → J i ys news → NsObj oC m₂ → m₂ x = some v → Fr h₀ L h m → News h₀ L h ((I, oI) :: (C, oC) :: (D, lst ys) :: news) → Off3 I C D news → ((@Ne Nat I C) ∧ (@Ne Nat I D) ∧ (@Ne Nat C D)) →
      wpAny (model prog w) A (isTrue ct (compEnvC scope cl C env) (eval ct (compEnvC scope cl C env))) (fun ok s' => if ok = true then
        wpAny (model prog w) A (eval elt (compEnvC scope cl C env)) (CompEnd h₀ L m { s with heap := h, toks := tk } I oI C oC D (lst ys) S (fun y news' => Halt (J (i + 1) (ys ++ [y]) news'))) E' s'
        else CompEnd h₀ L m { s with heap := h, toks := tk } I oI C oC D (lst ys) S (fun _ news' => Halt (J (i + 1) ys news')) Value.none s') E' { s with heap := h, toks := tk })
    (fin : ∀ ys news, J n ys news → Fin ys news) : CompRestT prog w A h₀ L m env ct elt x scope cl s S P Fin n 0 [] news := by
  have key : ∀ k i ys news, i + k = n → J i ys news → CompRestT prog w A h₀ L m env ct elt x scope cl s S P Fin k i ys news := by
    intro k
    induction k with
    | zero => intro i ys news hk hJ; obtain rfl : i = n := by omega
              exact CompRestT.zero (fin _ _ hJ)
    | succ k ih =>
      intro i ys news hk hJ
      refine CompRestT.succ ?_
      intro v I oI C oC D m₂ h tk E' hP hC hx F N off ne
      refine wpAny_mono (step i v ys news I oI C oC D m₂ h tk E' (by omega) hP hJ hC hx F N off ne) (fun ok s₂ h₂ => ?_) fun _ _ e => e
      cases ok with
      | true =>
        rw [if_pos rfl] at h₂ ⊢
        exact wpAny_mono h₂ (fun y s₂ h₂ => compEnd_mono h₂ fun y n' hj => ih (i + 1) _ _ (by omega) hj.h) fun _ _ e => e
      | false =>
        rw [if_neg (by decide)] at h₂ ⊢
        exact compEnd_mono h₂ fun y n' hj => ih (i + 1) _ _ (by omega) hj.h
  exact key n 0 [] news (by omega) start
end
end

section
local macro_rules | `(tactic| k_all) => `(tactic| first | (with_reducible assumption) | (refine' List.forall_mem_cons.mpr ⟨?a, ?b⟩; (case a => k_ne); (case b => k_all)) | (refine' Mine.alR ?H ?L; (case H => with_reducible assumption); (case L => omega)) | (refine' Mine.al0 ?H ?L; (case H => with_reducible assumption); (case L => omega)) | (refine' Mine.al1 ?H ?L; (case H => with_reducible assumption); (case L => omega)) | (refine' Mine.al2 ?H ?L; (case H => with_reducible assumption); (case L => omega)) | (refine' Mine.al3 ?H ?L; (case H => with_reducible assumption); (case L => omega)) | fail "k_all")
local macro_rules | `(tactic| k_ne) => `(tactic| (refine neN ?_; (try dsimp only); first | (with_reducible assumption) | (refine Ne.symm ?_; with_reducible assumption) | omega))
local macro_rules | `(tactic| walk_at "CompEnd") => `(tactic| k_extra "CompEnd")
local macro_rules | `(tactic| walk_at "eval IfExp") => `(tactic| k_extra "eval IfExp")
noncomputable abbrev allOf {g h : Heap} {L : Addr} {r : List (Addr × Obj)} (_ : News g L h r) : List (Addr × Obj) := r
theorem fmodM (x : Int) : 0 ≤ x.fmod (10 ^ Int.toNat 6) ∧ x.fmod (10 ^ Int.toNat 6) < 1000000 := by
  have h : x.fmod (10 ^ Int.toNat 6) = x % 1000000 := Int.fmod_eq_emod_of_nonneg _ (by decide)
  rw [h]; omega
noncomputable def GInv (i : Nat) (gs : List Int) : Prop := gs.length = 8 ∧ ∀ v ∈ gs, 0 ≤ v ∧ v ≤ 100 + 1000000 * (i : Int)
theorem GInv.get {i : Nat} {gs : List Int} (h : GInv i gs) (j : Nat) : 0 ≤ gs.getD j 0 ∧ gs.getD j 0 ≤ 100 + 1000000 * (i : Int) := by
  by_cases hj : j < gs.length
  · have := h.2 gs[j] (List.getElem_mem hj)
    rw [List.getD_eq_getElem?_getD, List.getElem?_eq_getElem hj]
    exact this
  · rw [List.getD_eq_getElem?_getD, List.getElem?_eq_none (by omega)]
    simp only [Option.getD_none]; omega
theorem GInv.step {i : Nat} {gs : List Int} (h : GInv i gs) (j : Nat) (x : Int) : GInv (i + 1) (gs.set j (gs.getD j 0 + x.fmod (10 ^ Int.toNat 6))) := by
  refine ⟨by rw [List.length_set]; exact h.1, fun v hv => ?_⟩
  rcases List.mem_or_eq_of_mem_set hv with hv | rfl
  · have := h.2 v hv; omega
  · have h1 := h.get j
    have h2 := fmodM x
    omega
theorem GInv.start : GInv 0 [37, 54, 22, 9, 5, 0, 5, 6] := ⟨rfl, by decide⟩
theorem mulOkG {n : Nat} {gs : List Int} (hgl : gs.length = 8) (hgb : ∀ v ∈ gs, 0 ≤ v ∧ v ≤ 100 + 1000000 * ((min 16 n : Nat) : Int)) (j : Nat) (b : Int) : IntMulOk (2 * gs.getD j 0 + 1) b := by
  have h := GInv.get ⟨hgl, hgb⟩ j
  exact IntMulOk.of_left (intBits_le_64 (by omega) (by omega))
noncomputable def leadsOf (gs : List Int) (c : Nat) : List Int := (rangeKs 0 ((c : Int) - 0).toNat).map fun k' => ((2 * gs.getD k'.toNat 0 + 1) * 2 ^ k'.toNat).fmod 256
noncomputable def bansOf (gs : List Int) (c : Nat) : List Int := (rangeKs 5 ((8 : Int) - 5).toNat).map fun k' => 1 + (gs.getD k'.toNat 0).fmod (2 ^ c - 1)
theorem leads_eq (gs : List Int) (c : Nat) : leadsOf gs c = (List.range c).map fun k => ((2 * gs.getD k 0 + 1) * 2 ^ k).fmod 256 := by
  unfold leadsOf rangeKs
  rw [List.map_map]
  rw [show ((c : Int) - 0).toNat = c by omega]
  apply List.map_congr_left
  intro k _
  simp
theorem bans_eq (gs : List Int) (c : Nat) : bansOf gs c = (List.range 3).map fun k => 1 + (gs.getD (5 + k) 0).fmod (2 ^ c - 1) := by
  unfold bansOf rangeKs
  rw [List.map_map]
  rw [show ((8 : Int) - 5).toNat = 3 by omega]
  apply List.map_congr_left
  intro k _
  simp only [Function.comp]
  rw [show ((5 : Int) + (k : Nat)).toNat = 5 + k by omega]
noncomputable def leadAt (gs : List Int) (k : Nat) : Int := ((2 * gs.getD k 0 + 1) * 2 ^ k).fmod 256
theorem pow_nz {c : Nat} (hc : c = 4 ∨ c = 5) : ((2 : Int) ^ (c : Int).toNat - 1) ≠ 0 := by rcases hc with rfl | rfl <;> decide
noncomputable def banAt (gs : List Int) (c k : Nat) : Int := 1 + (gs.getD (5 + k) 0).fmod (2 ^ c - 1)
theorem range_snoc {f : Nat → Int} {zs : List Value} {j : Nat} {v : Int} {t : Tok} (h : IntsAre zs ((List.range j).map f)) (e : v = f j) : IntsAre (zs ++ [.int v t]) ((List.range (j + 1)).map f) := by
  rw [List.range_succ, List.map_append, e]
  exact h.append (.cons _ _ .nil)
theorem news_drop3 {g h : Heap} {L : Addr} {a b c d e f : Addr × Obj} {r : List (Addr × Obj)} (N : News g L h (a :: b :: c :: d :: e :: f :: r)) : News g L h (a :: b :: c :: r) := fun p hp => N p (by
  rcases List.mem_cons.mp hp with h | hp
  · exact h ▸ .head _
  rcases List.mem_cons.mp hp with h | hp
  · exact h ▸ .tail _ (.head _)
  rcases List.mem_cons.mp hp with h | hp
  · exact h ▸ .tail _ (.tail _ (.head _))
  exact .tail _ (.tail _ (.tail _ (.tail _ (.tail _ (.tail _ hp))))))
theorem rs_min (n : Nat) : Builtin.Range.rangeSize 0 (if (n : Int) < 16 then (n : Int) else 16) 1 = ((min 16 n : Nat) : Int) := by
  rw [rangeSize_nat]
  split <;> omega
namespace law_drawn_spec_K
noncomputable def P9 (w : World) (loose : List Str) (mean : ExcName → Option Value) (mg : Str → Option Value) (mb : Str → Option Value) (dp : Nat) (un : Nat) (gd : Option (List Code)) (cn : Str) (cs : Scope) (a : Addr) (ccd : Value) (cl : List (Str × Addr)) (outer : List Env) (A₀ : Around) (base : Heap) (h₀ : Heap) (L : Addr) (m : Str → Option Value) (s : Shared) (Q : Value → Shared → Prop) (E : Value → Shared → Prop) (rest : List (Addr × Obj)) (l : Addr) (ns : List Int) (its : List Value) : Prop :=
  (hi : IntsAre its ns) → (hl : ns.length < 64) → AskBV 14 w loose mean mg mb 109 rest [.ref l] l its (fun h₀ L m s Q => ∀ (c : Nat) (gs : List Int) (xs ys : List Value) (D1 D2 D : Addr) (h' : Heap) (tk' : Nat), (c = 4 ∨ c = 5) → gs.length = 8 → (∀ v ∈ gs, 0 ≤ v) → IntsAre xs (leadsOf gs c) → IntsAre ys (bansOf gs c) →
      D1 ≠ D2 → D1 ≠ D → D2 ≠ D → LCg.Off1 D1 rest → LCg.Off1 D2 rest → AllLt D rest → Fr h₀ L h' m → News h₀ L h' ((D, { cls := Value.type "tuple", data := Data.seq #[Value.ref D1, Value.ref D2] }) :: (D2, LCg.lst ys) :: (D1, LCg.lst xs) :: rest) →
      Q (.ref D) { s with heap := h', toks := tk' }) dp un gd cn cs a ccd cl outer A₀ base h₀ L m s Q E
noncomputable def PV9 (v : K9 × (List (Addr × Obj)) × (Addr) × (List Int) × (List Value)) : Prop := P9 v.1.1 v.1.2.1 v.1.2.2.1 v.1.2.2.2.1 v.1.2.2.2.2.1 v.1.2.2.2.2.2.1 v.1.2.2.2.2.2.2.1 v.1.2.2.2.2.2.2.2.1 v.1.2.2.2.2.2.2.2.2.1 v.1.2.2.2.2.2.2.2.2.2.1 v.1.2.2.2.2.2.2.2.2.2.2.1 v.1.2.2.2.2.2.2.2.2.2.2.2.1 v.1.2.2.2.2.2.2.2.2.2.2.2.2.1 v.1.2.2.2.2.2.2.2.2.2.2.2.2.2.1 v.1.2.2.2.2.2.2.2.2.2.2.2.2.2.2.1 v.1.2.2.2.2.2.2.2.2.2.2.2.2.2.2.2.1 v.1.2.2.2.2.2.2.2.2.2.2.2.2.2.2.2.2.1 v.1.2.2.2.2.2.2.2.2.2.2.2.2.2.2.2.2.2.1 v.1.2.2.2.2.2.2.2.2.2.2.2.2.2.2.2.2.2.2.1 v.1.2.2.2.2.2.2.2.2.2.2.2.2.2.2.2.2.2.2.2.1 v.1.2.2.2.2.2.2.2.2.2.2.2.2.2.2.2.2.2.2.2.2.1 v.1.2.2.2.2.2.2.2.2.2.2.2.2.2.2.2.2.2.2.2.2.2 v.2.1 v.2.2.1 v.2.2.2.1 v.2.2.2.2
theorem ex9 : ∃ c, PV9 c → ∀ v, PV9 v := sk9 ⟨(Classical.choice ne9, default, default, default, default)⟩ PV9
noncomputable def c9 : K9 × (List (Addr × Obj)) × (Addr) × (List Int) × (List Value) := Classical.choose ex9
noncomputable def w : World := c9.1.1
noncomputable def loose : List Str := c9.1.2.1
noncomputable def mean : ExcName → Option Value := c9.1.2.2.1
noncomputable def mg : Str → Option Value := c9.1.2.2.2.1
noncomputable def mb : Str → Option Value := c9.1.2.2.2.2.1
noncomputable def h₀ : Heap := c9.1.2.2.2.2.2.2.2.2.2.2.2.2.2.2.2.2.1
noncomputable def L : Addr := c9.1.2.2.2.2.2.2.2.2.2.2.2.2.2.2.2.2.2.1
noncomputable def m : Str → Option Value := c9.1.2.2.2.2.2.2.2.2.2.2.2.2.2.2.2.2.2.2.1
noncomputable def s : Shared := c9.1.2.2.2.2.2.2.2.2.2.2.2.2.2.2.2.2.2.2.2.1
noncomputable def Q : Value → Shared → Prop := c9.1.2.2.2.2.2.2.2.2.2.2.2.2.2.2.2.2.2.2.2.2.1
noncomputable def E : Value → Shared → Prop := c9.1.2.2.2.2.2.2.2.2.2.2.2.2.2.2.2.2.2.2.2.2.2
noncomputable def rest : List (Addr × Obj) := c9.2.1
noncomputable def l : Addr := c9.2.2.1
noncomputable def ns : List Int := c9.2.2.2.1
noncomputable def its : List Value := c9.2.2.2.2
end law_drawn_spec_K
open law_drawn_spec_K in
set_option maxHeartbeats 4000000 in
set_option maxRecDepth 100000 in
theorem law_drawn_spec_at : P9 w loose mean mg mb (c9.1.2.2.2.2.2.1) (c9.1.2.2.2.2.2.2.1) (c9.1.2.2.2.2.2.2.2.1) (c9.1.2.2.2.2.2.2.2.2.1) (c9.1.2.2.2.2.2.2.2.2.2.1) (c9.1.2.2.2.2.2.2.2.2.2.2.1) (c9.1.2.2.2.2.2.2.2.2.2.2.2.1) (c9.1.2.2.2.2.2.2.2.2.2.2.2.2.1) (c9.1.2.2.2.2.2.2.2.2.2.2.2.2.2.1) (c9.1.2.2.2.2.2.2.2.2.2.2.2.2.2.2.1) (c9.1.2.2.2.2.2.2.2.2.2.2.2.2.2.2.2.1) h₀ L m s Q E rest l ns its := by
  k_with_none
  w_top off
  intro hi hl B F X N T hk hdp hun codeHd hbl hret
  have fill9 : Challenge.rw_sr0027_01 = Challenge.rw_sr0027_01 ∧ hd.heap_39 = hd.heap_39 := by k_fill; exact ⟨rfl, rfl⟩
  k_dflt (refine' code_defC ?k1 ?k2 ?k3 ?k4 ?k5 ?kA ?kF ?kK ?k6 ?k7 ?k8 ?k9 ?kB ?kD ?_ ?c2 ?c3 ?c4; (case kA => exact rfl); (case kF => exact rfl); (case kK => first | exact rfl | assumption); (case k1 => k_asm); (case k2 => k_asm); (case k3 => k_asm); (case k4 => k_asm); (case k5 => k_asm); (case k6 => k_is); (case k7 => k_is); (case k8 => ktr_room); (case k9 => first | exact BindsTo.of_eq rfl | exact binds_K (by k_in) rfl (by k_is) rfl rfl rfl); (case kB => exact rfl); (case kD => decide +kernel); (case c2 => exact rfl); (case c3 => exact rfl); (case c4 => exact rfl))
  intro g1 L1 hh1 tk1 cells1 FG1 F1 N1 Y1 B1 X1 T1 l1
  (try k_lt l1)
  k_cells Y1
  (try simp only [List.cons_append, List.nil_append] at N1)
  (try dsimp only); (try k_lift B1); (try k_fold)
  refine foldE9 ?_
  intro QQ9 EE9
  obtain ⟨m9, F9⟩ : ∃ m9, Fr g1 L1 hh1 (ov1 (Str.ofString "script") m9 (some (.ref l))) := ⟨_, Fr.cast' F1 (ov1s _ _ rfl)⟩
  clear F1
  (k_with "exec For Name Call cons nil" => (refine Halt.h ?_))
  (k_with "eval IfExp" => (refine Halt.h ?_))
  (k_with "CompSrc" => (refine Halt.h ?_))
  (k_with "CompEnd" => (refine Halt.h ?_))
  k_steps
  (with_reducible rename Fr g1 L1 _ _ => kF)
  (with_reducible rename News g1 L1 _ (_ :: _) => kN)
  have hlen : its.length = ns.length := hi.length
  refine ⟨lforRange (g := g1) 0 (min 16 ns.length) (fun i m nx => ∃ gs gits nn kc, IntsAre gits gs ∧ GInv i gs ∧ nx = ((fst1 kN).1, W.listOf gits.toArray nn) :: tl1 kN ∧ m = ov1 (Str.ofString "k") (mapOf2 kF) kc) rfl rfl rfl ?_ ?_ ?_⟩
  · have kNc := kN
    k_steps
    refine ⟨⟨_, _, _, _, _, _, _, _, _, rfl, rfl, by assumption, ?_, rs_min _, by k_asm, by k_asm, ⟨_, [_, _, _, _, _, _, _, _], 0, _, ?_, GInv.start, rfl, ov1_self _ _⟩⟩⟩
    · exact small_one (by decide) (by decide) (by split <;> omega) (by split <;> omega)
    · repeat (first | exact .nil | refine .cons _ _ ?_)
  · intro i t m₁ nx h tk I o hin hJ0_9 off kF2 kN2
    refine foldG9 ?_
    intro GG
    obtain ⟨gs, gits, nn, kc, hgi, ⟨hgl, hgb⟩, rfl, rfl⟩ := hJ0_9
    dsimp only [GG]
    clear GG
    dsimp only [mapOf2, fst1, tl1] at kF2 kN2
    have o1 := neN (off _ (.head _))
    have o2 := neN (off _ (.tail _ (.head _)))
    have o3 := neN (off _ (.tail _ (.tail _ (.head _))))
    have o4 : ∀ p ∈ rest, p.1 ≠ I := fun p hp => off p (.tail _ (.tail _ (.tail _ hp)))
    dsimp only [fst1, tl1] at o1 o2 o3
    k_steps
    exact ⟨⟨_, _, _, _, rfl, Fr.cast' (by k_asm) (ov1_ov1 _ _ _ _), by k_asm, fun p hp => by
      rcases List.mem_cons.mp hp with rfl | hp
      · exact o1
      · exact off p (.tail _ hp), ⟨_, _, _, _, by assumption, GInv.step ⟨hgl, hgb⟩ _ _, rfl, rfl⟩⟩⟩
  · intro m₁ nx h tk hJ1_4 kF2 kN2
    refine foldG9 ?_
    intro GG
    obtain ⟨gs, gits, nn, kc, hgi, ⟨hgl, hgb⟩, rfl, rfl⟩ := hJ1_4
    dsimp only [GG]
    clear GG
    dsimp only [mapOf2, fst1, tl1] at kF2 kN2
    k_steps
    refine ⟨?_⟩
    k_with_none
    refine wpAny_mono (Q := fun v s' => Halt (∃ (c : Nat) (t : Tok) (h' : Heap) (tk' : Nat), (c = 4 ∨ c = 5) ∧ v = .int c t ∧ s' = { s with heap := h', toks := tk' } ∧ Fr g1 L1 h' (mapOf2 kF2) ∧ News g1 L1 h' (allOf kN2))) ?_ ?_ (fun _ _ e => e)
    · dsimp only [mapOf2, allOf]
      k_steps
      · exact ⟨⟨4, _, _, _, .inl rfl, rfl, rfl, by k_asm, by k_asm⟩⟩
      · exact ⟨⟨5, _, _, _, .inr rfl, rfl, rfl, by k_asm, by k_asm⟩⟩
    intro _ _ hJ2_2
    refine foldG9 ?_
    intro GG
    obtain ⟨c, t9, h9, tk9, hc, rfl, rfl, F9, N9⟩ := hJ2_2
    dsimp only [GG]
    clear GG
    dsimp only [mapOf2, allOf] at F9 N9
    clear kF2 kN2
    (k_with "CompSrc" => (refine Halt.h ?_))
    (k_with "CompEnd" => (refine Halt.h ?_))
    (k_with "binaryOp Mult int int" => (first | refine mul_int ?_ (by mul_fits) | refine mul_int ?_ (mulOkG hgl hgb _ _)))
    (try dsimp only)
    (try k_sweep)
    (try k_fold)
    k_steps
    (with_reducible rename IsRange .. => kR)
    refine ⟨LCg.CompSrc.range (n := c) (by rfl) (by k_asm) (by k_asm) (by assumption) (small_one (by decide) (by decide) (by omega) (by omega)) (by rw [rangeSize_nat]; omega) (by rw [sizeLine_eq]; omega) ?_⟩
    intro g'
    refine restInv (J := fun j zs nx => IntsAre zs ((List.range j).map (leadAt gs)) ∧ nx = _) ⟨.nil, rfl⟩ ?_ ?_
    · intro j v2 zs news I' oI C oC D1 m₂ h' tk' E' hj hJ3_14 hJ3_15 hC hx' F' N' off' ne'
      refine foldG9 ?_
      intro GG
      obtain ⟨tv, hP⟩ := hJ3_14
      obtain ⟨hzs, rfl⟩ := hJ3_15
      dsimp only [GG]
      clear GG
      rw [Int.zero_add] at hP
      subst hP
      have hj0 : (0 : Int) ≤ (j : Int) := Int.natCast_nonneg j
      have hj8 : (j : Int) < gs.length := by omega
      clear hj
      k_steps
      exact ⟨LCg.CompEnd.intro (by assumption) (by assumption) _ (fun p hp => hp) off' trivial ⟨⟨range_snoc hzs rfl, rfl⟩⟩⟩
    · intro zs news hJ4_2
      refine foldG9 ?_
      intro GG
      obtain ⟨hzs, rfl⟩ := hJ4_2
      dsimp only [GG]
      clear GG
      intro D1 h3 tk3 F3 N3 off3
      (try dsimp only)
      (try k_sweep)
      (try k_fold)
      k_steps
      (with_reducible rename IsRange _ _ 5 _ _ _ _ _ => kR2)
      refine ⟨LCg.CompSrc.range (n := 3) (by rfl) (by k_asm) (by k_asm) (by assumption) (by decide) (by decide) (by decide) ?_⟩
      intro g'
      refine restInv (J := fun j zs nx => IntsAre zs ((List.range j).map (banAt gs c)) ∧ nx = _) ⟨.nil, rfl⟩ ?_ ?_
      · intro j v2 zs2 news I' oI C oC D2 m₂ h' tk' E' hj hJ5_14 hJ5_15 hC hx' F' N' off' ne'
        refine foldG9 ?_
        intro GG
        obtain ⟨tv, hP⟩ := hJ5_14
        obtain ⟨hzs2, rfl⟩ := hJ5_15
        dsimp only [GG]
        clear GG
        subst hP
        have hj0 : (0 : Int) ≤ 5 + (j : Int) := by omega
        have hj8 : 5 + (j : Int) < gs.length := by omega
        clear hj
        k_steps
        · exact absurd (by assumption) (pow_nz hc)
        exact ⟨LCg.CompEnd.intro (by assumption) (by assumption) _ (fun p hp => hp) off' trivial ⟨⟨range_snoc hzs2 rfl, rfl⟩⟩⟩
      · intro zs2 news hJ6_2
        refine foldG9 ?_
        intro GG
        obtain ⟨hzs2, rfl⟩ := hJ6_2
        dsimp only [GG]
        clear GG
        intro D2 h4 tk4 F4 N4 off4
        have n12 := off4.1
        (try dsimp only)
        (try k_sweep)
        (try k_fold)
        k_steps
        (with_reducible rename _ ∧ _ ∧ _ ∧ _ ∧ _ ∧ AllLt _ rest => oo3)
        (with_reducible rename News h₀ L _ _ => kN9)
        exact hret c gs _ _ D1 D2 _ _ _ hc hgl (fun v hv => (hgb v hv).1) (by rw [leads_eq]; exact hzs) (by rw [bans_eq]; exact hzs2) n12 (Nat.ne_of_lt oo3.2.1) (Nat.ne_of_lt oo3.1) off3.2.2.2 off4.2.2.2.2 oo3.2.2.2.2.2 (by k_asm) (news_drop3 kN9)

theorem law_drawn_spec (w : World) (loose : List Str) (mean : ExcName → Option Value) (mg mb : Str → Option Value) (rest : List (Addr × Obj)) (l : Addr) (ns : List Int) (its : List Value) (hi : IntsAre its ns) (hl : ns.length < 64) :
    AsksB 14 w loose mean mg mb 109 rest [.ref l] l its (fun h₀ L m s Q => ∀ (c : Nat) (gs : List Int) (xs ys : List Value) (D1 D2 D : Addr) (h' : Heap) (tk' : Nat), (c = 4 ∨ c = 5) → gs.length = 8 → (∀ v ∈ gs, 0 ≤ v) → IntsAre xs (leadsOf gs c) → IntsAre ys (bansOf gs c) →
      D1 ≠ D2 → D1 ≠ D → D2 ≠ D → LCg.Off1 D1 rest → LCg.Off1 D2 rest → AllLt D rest → Fr h₀ L h' m → News h₀ L h' ((D, { cls := Value.type "tuple", data := Data.seq #[Value.ref D1, Value.ref D2] }) :: (D2, LCg.lst ys) :: (D1, LCg.lst xs) :: rest) →
      Q (.ref D) { s with heap := h', toks := tk' }) :=
  fun dp un gd cn cs a ccd cl outer A₀ base h₀ L m s Q E => Classical.choose_spec law_drawn_spec_K.ex9 law_drawn_spec_at ((w, loose, mean, mg, mb, dp, un, gd, cn, cs, a, ccd, cl, outer, A₀, base, h₀, L, m, s, Q, E), rest, l, ns, its) hi hl
end

section
set_option maxHeartbeats 4000000 in
set_option maxRecDepth 100000 in
noncomputable def piece (k : Nat) (w : List Nat) : List Nat := if k % 2 = 0 then 34 :: (w ++ [34, 10]) else 92 :: (jw w ++ [9])
theorem hx_ascii (n : Nat) : ∀ c ∈ hx n, c < 128 := fun c hc => by have := hx_mem n c hc; omega
theorem piece_len (k : Nat) (w : List Nat) (h : w.length ≤ 6) : (piece k w).length ≤ 14 := by
  unfold piece
  have := jw_len w
  split <;> simp only [List.length_cons, List.length_append, List.length_nil] <;> omega
noncomputable def pageL (ns : List Int) : Nat → List Nat
  | 0 => []
  | k + 1 => pageL ns k ++ piece k (hx (ns.getD k 0).natAbs)
theorem ofs_nil : Str.ofString "" = ⟨#[]⟩ := by decide +kernel
theorem page_q {ns : List Int} {i : Nat} (h : ((0 : Int) + (i : Nat)).fmod 2 = 0) : (⟨(pageL ns i).toArray⟩ ++ Str.ofString "\"" ++ ⟨(hx (ns.getD ((0 : Int) + (i : Nat)).toNat 0).natAbs).toArray⟩ ++ Str.ofString "\"\n" : Str) = ⟨(pageL ns (i + 1)).toArray⟩ := by
  have h2 : i % 2 = 0 := by rw [Int.fmod_eq_emod_of_nonneg _ (by decide)] at h; omega
  have e1 : Str.ofString "\"" = ⟨#[34]⟩ := by decide +kernel
  have e2 : Str.ofString "\"\n" = ⟨#[34, 10]⟩ := by decide +kernel
  rw [e1, e2, show ((0 : Int) + (i : Nat)).toNat = i by omega]
  rw [show pageL ns (i + 1) = pageL ns i ++ piece i (hx (ns.getD i 0).natAbs) from rfl]
  unfold piece
  rw [if_pos h2]
  show (⟨((_ ++ _) ++ _) ++ _⟩ : Str) = _
  congr 1
  simp
theorem page_b {ns : List Int} {i : Nat} (h : ((0 : Int) + (i : Nat)).fmod 2 ≠ 0) : (⟨(pageL ns i).toArray⟩ ++ Str.ofString "\\" ++ ⟨(jw (hx (ns.getD ((0 : Int) + (i : Nat)).toNat 0).natAbs)).toArray⟩ ++ Str.ofString "\t" : Str) = ⟨(pageL ns (i + 1)).toArray⟩ := by
  have h2 : ¬ i % 2 = 0 := by rw [Int.fmod_eq_emod_of_nonneg _ (by decide)] at h; omega
  have e1 : Str.ofString "\\" = ⟨#[92]⟩ := by decide +kernel
  have e2 : Str.ofString "\t" = ⟨#[9]⟩ := by decide +kernel
  rw [e1, e2, show ((0 : Int) + (i : Nat)).toNat = i by omega]
  rw [show pageL ns (i + 1) = pageL ns i ++ piece i (hx (ns.getD i 0).natAbs) from rfl]
  unfold piece
  rw [if_neg h2]
  show (⟨((_ ++ _) ++ _) ++ _⟩ : Str) = _
  congr 1
  simp
theorem page_len {ns : List Int} {i : Nat} (h : (pageL ns i).length ≤ 14 * i) (hb : (ns.getD i 0).natAbs < 16 ^ 6) : (pageL ns (i + 1)).length ≤ 14 * (i + 1) := by
  unfold pageL
  rw [List.length_append]
  have := piece_len i _ (hx_len 6 _ hb)
  omega
namespace law_page_spec_K
noncomputable def P9 (w : World) (loose : List Str) (mean : ExcName → Option Value) (mg : Str → Option Value) (mb : Str → Option Value) (dp : Nat) (un : Nat) (gd : Option (List Code)) (cn : Str) (cs : Scope) (a : Addr) (ccd : Value) (cl : List (Str × Addr)) (outer : List Env) (A₀ : Around) (base : Heap) (h₀ : Heap) (L : Addr) (m : Str → Option Value) (s : Shared) (Q : Value → Shared → Prop) (E : Value → Shared → Prop) (rest : List (Addr × Obj)) (l : Addr) (ns : List Int) (its : List Value) (n : Nat) : Prop :=
  (hi : IntsAre its ns) → (hl : ns.length < 64) → (hb : ∀ v ∈ ns, v.natAbs < 16 ^ 6) → AskV 16 w loose mean mg mb 116 ((l, W.listOf its.toArray n) :: rest) [.ref l] (fun h₀ L m s Q => ∀ (h' : Heap) (tk' : Nat) (t : Tok), Fr h₀ L h' m → News h₀ L h' ((l, W.listOf its.toArray n) :: rest) → Q (.str ⟨(pageL ns ns.length).toArray⟩ t) { s with heap := h', toks := tk' }) dp un gd cn cs a ccd cl outer A₀ base h₀ L m s Q E
noncomputable def PV9 (v : K9 × (List (Addr × Obj)) × (Addr) × (List Int) × (List Value) × (Nat)) : Prop := P9 v.1.1 v.1.2.1 v.1.2.2.1 v.1.2.2.2.1 v.1.2.2.2.2.1 v.1.2.2.2.2.2.1 v.1.2.2.2.2.2.2.1 v.1.2.2.2.2.2.2.2.1 v.1.2.2.2.2.2.2.2.2.1 v.1.2.2.2.2.2.2.2.2.2.1 v.1.2.2.2.2.2.2.2.2.2.2.1 v.1.2.2.2.2.2.2.2.2.2.2.2.1 v.1.2.2.2.2.2.2.2.2.2.2.2.2.1 v.1.2.2.2.2.2.2.2.2.2.2.2.2.2.1 v.1.2.2.2.2.2.2.2.2.2.2.2.2.2.2.1 v.1.2.2.2.2.2.2.2.2.2.2.2.2.2.2.2.1 v.1.2.2.2.2.2.2.2.2.2.2.2.2.2.2.2.2.1 v.1.2.2.2.2.2.2.2.2.2.2.2.2.2.2.2.2.2.1 v.1.2.2.2.2.2.2.2.2.2.2.2.2.2.2.2.2.2.2.1 v.1.2.2.2.2.2.2.2.2.2.2.2.2.2.2.2.2.2.2.2.1 v.1.2.2.2.2.2.2.2.2.2.2.2.2.2.2.2.2.2.2.2.2.1 v.1.2.2.2.2.2.2.2.2.2.2.2.2.2.2.2.2.2.2.2.2.2 v.2.1 v.2.2.1 v.2.2.2.1 v.2.2.2.2.1 v.2.2.2.2.2
theorem ex9 : ∃ c, PV9 c → ∀ v, PV9 v := sk9 ⟨(Classical.choice ne9, default, default, default, default, default)⟩ PV9
noncomputable def c9 : K9 × (List (Addr × Obj)) × (Addr) × (List Int) × (List Value) × (Nat) := Classical.choose ex9
noncomputable def w : World := c9.1.1
noncomputable def loose : List Str := c9.1.2.1
noncomputable def mean : ExcName → Option Value := c9.1.2.2.1
noncomputable def mg : Str → Option Value := c9.1.2.2.2.1
noncomputable def mb : Str → Option Value := c9.1.2.2.2.2.1
noncomputable def h₀ : Heap := c9.1.2.2.2.2.2.2.2.2.2.2.2.2.2.2.2.2.1
noncomputable def L : Addr := c9.1.2.2.2.2.2.2.2.2.2.2.2.2.2.2.2.2.2.1
noncomputable def m : Str → Option Value := c9.1.2.2.2.2.2.2.2.2.2.2.2.2.2.2.2.2.2.2.1
noncomputable def s : Shared := c9.1.2.2.2.2.2.2.2.2.2.2.2.2.2.2.2.2.2.2.2.1
noncomputable def Q : Value → Shared → Prop := c9.1.2.2.2.2.2.2.2.2.2.2.2.2.2.2.2.2.2.2.2.2.1
noncomputable def E : Value → Shared → Prop := c9.1.2.2.2.2.2.2.2.2.2.2.2.2.2.2.2.2.2.2.2.2.2
noncomputable def rest : List (Addr × Obj) := c9.2.1
noncomputable def l : Addr := c9.2.2.1
noncomputable def ns : List Int := c9.2.2.2.1
noncomputable def its : List Value := c9.2.2.2.2.1
noncomputable def n : Nat := c9.2.2.2.2.2
end law_page_spec_K
open law_page_spec_K in
set_option maxHeartbeats 4000000 in
set_option maxRecDepth 100000 in
theorem law_page_spec_at : P9 w loose mean mg mb (c9.1.2.2.2.2.2.1) (c9.1.2.2.2.2.2.2.1) (c9.1.2.2.2.2.2.2.2.1) (c9.1.2.2.2.2.2.2.2.2.1) (c9.1.2.2.2.2.2.2.2.2.2.1) (c9.1.2.2.2.2.2.2.2.2.2.2.1) (c9.1.2.2.2.2.2.2.2.2.2.2.2.1) (c9.1.2.2.2.2.2.2.2.2.2.2.2.2.1) (c9.1.2.2.2.2.2.2.2.2.2.2.2.2.2.1) (c9.1.2.2.2.2.2.2.2.2.2.2.2.2.2.2.1) (c9.1.2.2.2.2.2.2.2.2.2.2.2.2.2.2.2.1) h₀ L m s Q E rest l ns its n := by
  k_with_none
  w_top off
  intro hi hl hb B F X N T hk hdp hun codeHd hret
  have fill9 : Challenge.rw_sr0027_01 = Challenge.rw_sr0027_01 ∧ hd.heap_39 = hd.heap_39 := by k_fill; exact ⟨rfl, rfl⟩
  k_dflt (refine' code_def ?k1 ?k2 ?k3 ?k4 ?k5 ?kA ?kF ?kK ?k6 ?k7 ?k8 ?k9 ?kB ?_ ?c2 ?c3 ?c4 ?c5; (case kA => exact rfl); (case kF => exact rfl); (case kK => first | exact rfl | assumption); (case k1 => k_asm); (case k2 => k_asm); (case k3 => k_asm); (case k4 => k_asm); (case k5 => k_asm); (case k6 => k_is); (case k7 => k_is); (case k8 => ktr_room); (case k9 => first | exact BindsTo.of_eq rfl | exact binds_K (by k_in) rfl (by k_is) rfl rfl rfl | (refine' kp_binds ?kx ?ke; (case kx => k_in); (case ke => exact fun _ => rfl)) | fail "k9"); (case c5 => decide); (case kB => exact locs rfl); (case c2 => exact rfl); (case c3 => exact rfl); (case c4 => exact rfl))
  intro g1 L1 hh1 FG1 F1 N1 B1 X1 T1
  (try dsimp only); (try k_fold)
  have hb' := ints_lt hb (by decide)
  (k_with "call ref" => ((with_reducible show wpAny _ _ (call (Value.ref 48) _) _ _ _); k_dflt (refine' wpAny_call (int2ap_spec w loose mean mg mb _ _ _ (hb' _) _ _ _ _ _ _ _ _ _ _ _ _ _ _ _ _ _ (by k_asm) (by k_asm) (by k_asm) (by k_asm) (by k_asm) (by first | exact rfl | assumption) (by ktr_room) (by ktr_units) (by assumption) ?_)); intro h' tk' t9 F9 N9; (try dsimp only); (try k_sweep); (try k_fold)))
  (k_with "call builtin:bytes.decode" => (refine decode_any _ (hx_ascii _) (Nat.lt_of_le_of_lt (hx_len 6 _ (hb' _)) (by decide)) ?_; intro _ _))
  (k_with "call type:list" => (k_dflt (refine' kls_list rfl (by k_asm) (by k_asm) (Nat.le_trans (hx_len 6 _ (hb' _)) (by decide)) ?_); intro D' vs' c' h' tk' F' N' l1 hS'; (try k_lt l1); (try k_sweep)))
  (k_with "call builtin:str.join" => (k_dflt (refine' kls_join (by is_list) (by assumption) (Nat.le_trans (hx_len 6 _ (hb' _)) (by decide)) ?_); intro _ _))
  (k_with "exec For Name Call cons nil" => (refine Halt.h ?_))
  k_steps
  (with_reducible rename Fr g1 L1 _ _ => kF)
  refine ⟨lforRange (g := g1) 0 ns.length (fun i m nx => ∃ (m9 : Str → Option Value) (t : Tok), (pageL ns i).length ≤ 14 * i ∧ nx = ((l, W.listOf its.toArray n) :: rest) ∧ m = ov1 (Str.ofString "page") (ov1 (Str.ofString "numbers") m9 (some (.ref l))) (some (.str ⟨(pageL ns i).toArray⟩ t))) rfl rfl rfl ?_ ?_ ?_⟩
  · k_steps
    exact ⟨⟨_, _, _, _, _, _, _, _, _, rfl, rfl, by assumption, small_one (by decide) (by decide) (by omega) (by omega), rangeSize_nat _ _, by k_asm, by k_asm, ⟨_, _, Nat.le_refl _, rfl, ov2s _ _ _ ((if_pos rfl).trans (congrArg some (congrArg (fun z => Value.str z _) ofs_nil))) rfl⟩⟩⟩
  · intro i t m₁ nx h tk I o hin hJ0_9 off kF2 kN2
    refine foldG9 ?_
    intro GG
    obtain ⟨m9, tp, hpl, rfl, rfl⟩ := hJ0_9
    dsimp only [GG]
    clear GG
    (try dsimp only [mapOf2] at kF2 kN2)
    have o1 := neN (off _ (.head _))
    have o4 : ∀ p ∈ rest, p.1 ≠ I := fun p hp => off p (.tail _ hp)
    dsimp only at o1
    have w1 : (⟨(hx (ns.getD ((0 : Int) + (i : Nat)).toNat 0).natAbs).toArray⟩ : Str).length ≤ 6 := hx_len 6 _ (hb' _)
    have w2 : (⟨(jw (hx (ns.getD ((0 : Int) + (i : Nat)).toNat 0).natAbs)).toArray⟩ : Str).length ≤ 12 := Nat.le_trans (jw_len _) (by have : (hx (ns.getD ((0 : Int) + (i : Nat)).toNat 0).natAbs).length ≤ 6 := hx_len 6 _ (hb' _); omega)
    have w3 : (⟨(pageL ns i).toArray⟩ : Str).length ≤ 14 * 64 := Nat.le_trans hpl (by omega)
    k_steps
    · (with_reducible rename Fr g1 L1 _ _ => kG)
      (with_reducible rename Int.fmod _ _ = 0 => hm)
      exact ⟨⟨_, _, _, (l, W.listOf its.toArray n) :: rest, rfl, Fr.cast' kG (ov2s (Str.ofString "page") (Str.ofString "numbers") _ ((if_pos rfl).trans (congrArg some (congrArg (fun z => Value.str z _) (page_q hm)))) rfl), by k_asm, off, ⟨_, _, page_len hpl (hb' _), rfl, rfl⟩⟩⟩
    · (with_reducible rename Fr g1 L1 _ _ => kG)
      (with_reducible rename Int.fmod _ _ ≠ 0 => hm)
      (with_reducible rename News g1 L1 _ _ => kM)
      exact ⟨⟨_, _, _, (l, W.listOf its.toArray n) :: rest, rfl, Fr.cast' kG (ov2s (Str.ofString "page") (Str.ofString "numbers") _ ((if_pos rfl).trans (congrArg some (congrArg (fun z => Value.str z _) (page_b hm)))) rfl), (fun p hp => kM p (.tail _ hp)), off, ⟨_, _, page_len hpl (hb' _), rfl, rfl⟩⟩⟩
  · intro m₁ nx h tk hJ1_4 kF2 kN2
    refine foldG9 ?_
    intro GG
    obtain ⟨m9, tp, hpl, rfl, rfl⟩ := hJ1_4
    dsimp only [GG]
    clear GG
    (try dsimp only [mapOf2] at kF2 kN2)
    k_steps
    exact hret _ _ _ (by k_asm) (by k_asm)

theorem law_page_spec (w : World) (loose : List Str) (mean : ExcName → Option Value) (mg mb : Str → Option Value) (rest : List (Addr × Obj)) (l : Addr) (ns : List Int) (its : List Value) (n : Nat) (hi : IntsAre its ns) (hl : ns.length < 64) (hb : ∀ v ∈ ns, v.natAbs < 16 ^ 6) :
    Asks 16 w loose mean mg mb 116 ((l, W.listOf its.toArray n) :: rest) [.ref l] (fun h₀ L m s Q => ∀ (h' : Heap) (tk' : Nat) (t : Tok), Fr h₀ L h' m → News h₀ L h' ((l, W.listOf its.toArray n) :: rest) → Q (.str ⟨(pageL ns ns.length).toArray⟩ t) { s with heap := h', toks := tk' }) :=
  fun dp un gd cn cs a ccd cl outer A₀ base h₀ L m s Q E => Classical.choose_spec law_page_spec_K.ex9 law_page_spec_at ((w, loose, mean, mg, mb, dp, un, gd, cn, cs, a, ccd, cl, outer, A₀, base, h₀, L, m, s, Q, E), rest, l, ns, its, n) hi hl hb
end

section
section
variable {w : World} {loose : List Str} {mean : ExcName → Option Value} {mg mb : Str → Option Value}
/-- a contract under a ledger that has more, or in another order -/
theorem asks_sub {lv : Nat} {f : Addr} {led led' : List (Addr × Obj)} {vs : List Value} {ret ret' : Heap → Addr → (Str → Option Value) → Shared → (Value → Shared → Prop) → Prop}
    (h : Asks lv w loose mean mg mb f led vs ret) (hs : ∀ p ∈ led, p ∈ led') (hr : ∀ h₀ L m s Q, ret' h₀ L m s Q → ret h₀ L m s Q) : Asks lv w loose mean mg mb f led' vs ret' :=
  fun dp un gd cn cs a ccd cl outer A₀ base h₀ L m s Q E B F X N T hk hdp hun codeHd hret => h dp un gd cn cs a ccd cl outer A₀ base h₀ L m s Q E B F X (fun p hp => N p (hs p hp)) T hk hdp hun codeHd (hr _ _ _ _ _ hret)
theorem law_sum_in (led : List (Addr × Obj)) (mask : Int) (tm : Tok) (l : Addr) (ns : List Int) (its : List Value) (n : Nat) (hi : IntsAre its ns) (hl : ns.length < 64) (hm : (l, W.listOf its.toArray n) ∈ led) :
    Asks 10 w loose mean mg mb 104 led [.int mask tm, .ref l] (fun h₀ L m s Q => ∀ (h' : Heap) (tk' : Nat) (t : Tok), Fr h₀ L h' m → News h₀ L h' led → Q (.int (msum mask ns ns.length) t) { s with heap := h', toks := tk' }) :=
  asks_sub (law_sum_any w loose mean mg mb led mask tm l ns its n hi hl) (fun p hp => by
    rcases List.mem_cons.mp hp with rfl | hp
    · exact hm
    · exact hp) fun _ _ _ _ _ h h' tk' t F N => h h' tk' t F fun p hp => N p (.tail _ hp)
theorem bisect_left_in (led : List (Addr × Obj)) (l : Addr) (ns : List Int) (its : List Value) (n : Nat) (x : Int) (tx t0 : Tok) (hi : IntsAre its ns) (hl : ns.length < 64) (hs : ns.Pairwise (· ≤ ·)) (hm : (l, W.listOf its.toArray n) ∈ led) :
    Asks 10 w loose mean mg mb 41 led [.ref l, .int x tx] (fun h₀ L m s Q => ∀ (h' : Heap) (tk' : Nat) (t : Tok), Fr h₀ L h' m → News h₀ L h' led → Q (.int (cntLt x ns : Nat) t) { s with heap := h', toks := tk' }) :=
  asks_sub (bisect_left_spec w loose mean mg mb led l ns its n x tx t0 hi hl hs) (fun p hp => by
    rcases List.mem_cons.mp hp with rfl | hp
    · exact hm
    · exact hp) fun _ _ _ _ _ h h' tk' t F N => h h' tk' t F fun p hp => N p (.tail _ hp)
theorem law_page_in (led : List (Addr × Obj)) (l : Addr) (ns : List Int) (its : List Value) (n : Nat) (hi : IntsAre its ns) (hl : ns.length < 64) (hb : ∀ v ∈ ns, v.natAbs < 16 ^ 6) (hm : (l, W.listOf its.toArray n) ∈ led) :
    Asks 16 w loose mean mg mb 116 led [.ref l] (fun h₀ L m s Q => ∀ (h' : Heap) (tk' : Nat) (t : Tok), Fr h₀ L h' m → News h₀ L h' led → Q (.str ⟨(pageL ns ns.length).toArray⟩ t) { s with heap := h', toks := tk' }) :=
  asks_sub (law_page_spec w loose mean mg mb led l ns its n hi hl hb) (fun p hp => by
    rcases List.mem_cons.mp hp with rfl | hp
    · exact hm
    · exact hp) fun _ _ _ _ _ h h' tk' t F N => h h' tk' t F fun p hp => N p (.tail _ hp)
end
/-- the machine at x beside its line (which lies at pb): the ledger R holds the rest of it -/
noncomputable def QM (w : World) (loose : List Str) (mean : ExcName → Option Value) (mg mb : Str → Option Value) (x pb : Addr) (R : List (Addr × Obj)) : Prop :=
  ∃ (d la st : Addr) (txt : Str) (k1 k2 k3 k4 k5 k6 ti : Tok) (nl i : Nat) (line : Int) (rest : List (Addr × Obj)), Mach w loose mean mg mb x d pb la st txt rest ∧
    ∀ p, p ∈ R ↔ p ∈ (x, instObj 86 d) :: (d, mDict w line st pb k1 k2 k3 k4 k5 k6) :: (la, W.listOf #[.int (i : Int) ti] nl) :: rest
section
variable {w : World} {loose : List Str} {mean : ExcName → Option Value} {mg mb : Str → Option Value} {x pb : Addr} {R : List (Addr × Obj)}
theorem QM.off (M : QM w loose mean mg mb x pb R) : ∀ p ∈ R, p.1 ≠ pb := by
  obtain ⟨d, la, st, txt, k1, k2, k3, k4, k5, k6, ti, nl, i, line, rest, M, hR⟩ := M
  intro p hp
  have hp := (hR p).mp hp
  simp only [List.mem_cons] at hp
  rcases hp with rfl | rfl | rfl | hp
  · exact M.xpb
  · exact M.dpb
  · exact Ne.symm M.pbla
  · exact M.npb p hp
theorem QM.add (M : QM w loose mean mg mb x pb R) {a : Addr} {o : Obj} (h : ∀ p ∈ R, p.1 ≠ a) (hp : pb ≠ a) : QM w loose mean mg mb x pb ((a, o) :: R) := by
  obtain ⟨d, la, st, txt, k1, k2, k3, k4, k5, k6, ti, nl, i, line, rest, M, hR⟩ := M
  have hd := h _ ((hR _).mpr (.tail _ (.head _)))
  have hl := h _ ((hR _).mpr (.tail _ (.tail _ (.head _))))
  refine ⟨d, la, st, txt, k1, k2, k3, k4, k5, k6, ti, nl, i, line, (a, o) :: rest, M.more (fun _ hp => .tail _ hp) (List.forall_mem_cons.mpr ⟨Ne.symm hd, M.nd⟩) (List.forall_mem_cons.mpr ⟨Ne.symm hp, M.npb⟩) (List.forall_mem_cons.mpr ⟨Ne.symm hl, M.nla⟩), fun p => ?_⟩
  have := hR p
  simp only [List.mem_cons] at this ⊢
  rw [this]
  constructor
  · rintro (h | h | h | h | h) <;> simp [h]
  · rintro (h | h | h | h | h) <;> simp [h]
theorem qpop (M : QM w loose mean mg mb x pb R) (q : List Value) (nq : Nat) (v : Value) (hq : q.length < 1000) :
    Asks 16 w loose mean mg mb 76 ((pb, W.listOf (v :: q).toArray nq) :: R) [.ref x] (fun h₀ L m s Q => ∀ (h' : Heap) (tk' : Nat), Fr h₀ L h' m → News h₀ L h' ((pb, W.listOf q.toArray (nq + 1)) :: R) → Q v { s with heap := h', toks := tk' }) := by
  obtain ⟨d, la, st, txt, k1, k2, k3, k4, k5, k6, ti, nl, i, line, rest, M, hR⟩ := M
  refine asks_sub (get_token_pop w loose mean mg mb rest txt x d pb la st k1 k2 k3 k4 k5 k6 ti q nq nl i line v hq M) (fun p hp => ?_) fun _ _ _ _ _ h h' tk' F N => h h' tk' F fun p hp => N p ?_
  · rcases List.mem_cons.mp hp with rfl | hp
    · exact .head _
    · exact .tail _ ((hR p).mpr hp)
  · rcases List.mem_cons.mp hp with rfl | hp
    · exact .head _
    · exact .tail _ ((hR p).mp hp)
theorem qpush (M : QM w loose mean mg mb x pb R) (q : List Value) (nq : Nat) (v : Str) (tv : Tok) (hq : q.length < 1000) :
    Asks 16 w loose mean mg mb 83 ((pb, W.listOf q.toArray nq) :: R) [.ref x, .str v tv] (fun h₀ L m s Q => ∀ (h' : Heap) (tk' : Nat), Fr h₀ L h' m → News h₀ L h' ((pb, W.listOf (q ++ [Value.str v tv]).toArray (nq + 1)) :: R) → Q .none { s with heap := h', toks := tk' }) := by
  obtain ⟨d, la, st, txt, k1, k2, k3, k4, k5, k6, ti, nl, i, line, rest, M, hR⟩ := M
  refine asks_sub (push_token_spec w loose mean mg mb rest txt x d pb la st k1 k2 k3 k4 k5 k6 ti q nq nl i line v tv hq M) (fun p hp => ?_) fun _ _ _ _ _ h h' tk' F N => h h' tk' F fun p hp => N p ?_
  · rcases List.mem_cons.mp hp with rfl | hp
    · exact .head _
    · exact .tail _ ((hR p).mpr hp)
  · rcases List.mem_cons.mp hp with rfl | hp
    · exact .head _
    · exact .tail _ ((hR p).mp hp)
end
/-- a contract with a premise that is looked at after the ledger is known -/
noncomputable abbrev AsksH (lv : Nat) (w : World) (loose : List Str) (mean : ExcName → Option Value) (mg mb : Str → Option Value) (f : Addr) (led : List (Addr × Obj)) (vs : List Value) (pre : Prop)
    (ret : Heap → Addr → (Str → Option Value) → Shared → (Value → Shared → Prop) → Prop) : Prop :=
  ∀ (dp un : Nat) (gd : Option (List Code)) (cn : Str) (cs : Scope) (a : Addr) (ccd : Value) (cl : List (Str × Addr)) (outer : List Env) (A₀ : Around) (base h₀ : Heap) (L : Addr) (m : Str → Option Value) (s : Shared) (Q E : Value → Shared → Prop),
    Below A₀ base outer h₀ → Fr h₀ L s.heap m → (hd.heap_39 w.params).In h₀ → News h₀ L s.heap led → pre → Top topProg loose mean mg mb h₀ → cs.kind = .function →
    dp + lv < recursionLimit → un + 10 * lv < cLine → CodeHd base 96 92 → ret h₀ L m s Q →
      codeAny (model Challenge.rw_sr0027_01.row.prog w) (ktrTop dp un gd cn cs L a ccd cl outer) (.call (.ref f) ⟨vs, []⟩) (fun r s' => match r with | .ok (.ret v) => Q v s' | .ok _ => False | .error e => E e s') s
section
variable {w : World} {loose : List Str} {mean : ExcName → Option Value} {mg mb : Str → Option Value}
theorem asksH {lv : Nat} {f : Addr} {led : List (Addr × Obj)} {vs : List Value} {pre : Prop} {ret : Heap → Addr → (Str → Option Value) → Shared → (Value → Shared → Prop) → Prop} (h : pre → Asks lv w loose mean mg mb f led vs ret) : AsksH lv w loose mean mg mb f led vs pre ret :=
  fun dp un gd cn cs a ccd cl outer A₀ base h₀ L m s Q E B F X N hp T => h hp dp un gd cn cs a ccd cl outer A₀ base h₀ L m s Q E B F X N T
theorem law_sum_h (led : List (Addr × Obj)) (mask : Int) (tm : Tok) (l : Addr) (ns : List Int) (its : List Value) (n : Nat) :
    AsksH 10 w loose mean mg mb 104 led [.int mask tm, .ref l] ((l, W.listOf its.toArray n) ∈ led ∧ IntsAre its ns ∧ ns.length < 64) (fun h₀ L m s Q => ∀ (h' : Heap) (tk' : Nat) (t : Tok), Fr h₀ L h' m → News h₀ L h' led → Q (.int (msum mask ns ns.length) t) { s with heap := h', toks := tk' }) :=
  asksH fun h => law_sum_in led mask tm l ns its n h.2.1 h.2.2 h.1
theorem bisect_left_h (led : List (Addr × Obj)) (l : Addr) (ns : List Int) (its : List Value) (n : Nat) (x : Int) (tx t0 : Tok) :
    AsksH 10 w loose mean mg mb 41 led [.ref l, .int x tx] ((l, W.listOf its.toArray n) ∈ led ∧ IntsAre its ns ∧ ns.length < 64 ∧ ns.Pairwise (· ≤ ·)) (fun h₀ L m s Q => ∀ (h' : Heap) (tk' : Nat) (t : Tok), Fr h₀ L h' m → News h₀ L h' led → Q (.int (cntLt x ns : Nat) t) { s with heap := h', toks := tk' }) :=
  asksH fun h => bisect_left_in led l ns its n x tx t0 h.2.1 h.2.2.1 h.2.2.2 h.1
theorem law_page_h (led : List (Addr × Obj)) (l : Addr) (ns : List Int) (its : List Value) (n : Nat) :
    AsksH 16 w loose mean mg mb 116 led [.ref l] ((l, W.listOf its.toArray n) ∈ led ∧ IntsAre its ns ∧ ns.length < 64 ∧ ∀ v ∈ ns, v.natAbs < 16 ^ 6) (fun h₀ L m s Q => ∀ (h' : Heap) (tk' : Nat) (t : Tok), Fr h₀ L h' m → News h₀ L h' led → Q (.str ⟨(pageL ns ns.length).toArray⟩ t) { s with heap := h', toks := tk' }) :=
  asksH fun h => law_page_in led l ns its n h.2.1 h.2.2.1 h.2.2.2 h.1
end
end

section
theorem nat_add_xor (a : Nat) : ∀ b : Nat, a + b = (a ^^^ b) + 2 * (a &&& b) := by
  induction a using Nat.strongRecOn with
  | ind a ih =>
    intro b
    rcases Nat.eq_zero_or_pos a with rfl | ha
    · simp
    have h := ih (a / 2) (by omega) (b / 2)
    have x1 : (a ^^^ b) / 2 = a / 2 ^^^ b / 2 := Nat.xor_div_two
    have x2 : (a &&& b) / 2 = a / 2 &&& b / 2 := Nat.and_div_two
    have y1 : (a ^^^ b) % 2 = (a % 2 ^^^ b % 2) := Nat.xor_mod_two_pow (n := 1)
    have y2 : (a &&& b) % 2 = (a % 2 &&& b % 2) := Nat.and_mod_two_pow (n := 1)
    rcases Nat.mod_two_eq_zero_or_one a with h1 | h1 <;> rcases Nat.mod_two_eq_zero_or_one b with h2 | h2 <;> rw [h1, h2] at y1 y2 <;> simp only [Nat.xor_self, Nat.zero_xor, Nat.xor_zero, Nat.and_self, Nat.zero_and, Nat.and_zero] at y1 y2 <;> omega
theorem bitXor_nat (a b : Nat) : Builtin.bitXor (a : Int) (b : Int) = ((a ^^^ b : Nat) : Int) := by
  rw [bitXor_and]
  have h := nat_add_xor a b
  have e : Builtin.bitAnd (a : Int) (b : Int) = ((a &&& b : Nat) : Int) := rfl
  rw [e]
  omega
theorem xor_bnd {a b : Int} {n : Nat} (ha : 0 ≤ a ∧ a < 2 ^ n) (hb : 0 ≤ b ∧ b < 2 ^ n) : 0 ≤ Builtin.bitXor a b ∧ Builtin.bitXor a b < 2 ^ n := by
  obtain ⟨x, rfl⟩ := Int.eq_ofNat_of_zero_le ha.1
  obtain ⟨y, rfl⟩ := Int.eq_ofNat_of_zero_le hb.1
  rw [bitXor_nat]
  have h1 : x < 2 ^ n := by have := ha.2; norm_cast at this
  have h2 : y < 2 ^ n := by have := hb.2; norm_cast at this
  refine ⟨Int.natCast_nonneg _, ?_⟩
  have := Nat.xor_lt_two_pow h1 h2
  norm_cast
end

section
set_option maxHeartbeats 4000000 in
set_option maxRecDepth 100000 in
noncomputable def mexL (l : List Int) : Nat → Nat → Nat
  | 0, k => k
  | f + 1, k => if (k : Int) ∈ l then mexL l f (k + 1) else k
/-- a number from which on nothing of the list is -/
noncomputable def bigOf : List Int → Nat
  | [] => 1
  | v :: l => v.natAbs + bigOf l
theorem big_pos : ∀ l : List Int, 0 < bigOf l
  | [] => Nat.one_pos
  | v :: l => by rw [bigOf]; have := big_pos l; omega
theorem big_not : ∀ (l : List Int) (n : Nat), bigOf l ≤ n → (n : Int) ∉ l
  | [], _, _ => List.not_mem_nil
  | v :: l, n, h => by
    rw [bigOf] at h
    have := big_pos l
    rw [List.mem_cons]
    rintro (h1 | h1)
    · omega
    · exact big_not l n (by omega) h1
theorem mexL_spec (l : List Int) : ∀ f k : Nat, k ≤ mexL l f k ∧ (∀ j : Nat, k ≤ j → j < mexL l f k → (j : Int) ∈ l) ∧ ((mexL l f k : Int) ∉ l ∨ mexL l f k = k + f)
  | 0, k => ⟨Nat.le_refl _, fun j h1 h2 => absurd (show j < k from h2) (by omega), .inr rfl⟩
  | f + 1, k => by
    rw [mexL]
    split
    · rename_i hm
      obtain ⟨h1, h2, h3⟩ := mexL_spec l f (k + 1)
      refine ⟨by omega, fun j hj1 hj2 => ?_, ?_⟩
      · rcases Nat.lt_or_ge k j with h | h
        · exact h2 j h hj2
        · obtain rfl : j = k := by omega
          exact hm
      · rcases h3 with h3 | h3
        · exact .inl h3
        · exact .inr (by omega)
    · rename_i hm
      exact ⟨Nat.le_refl _, fun j h1 h2 => absurd h2 (by omega), .inl hm⟩
noncomputable def mex (l : List Int) : Nat := mexL l (bigOf l) 0
theorem mex_not (l : List Int) : (mex l : Int) ∉ l := by
  rcases (mexL_spec l (bigOf l) 0).2.2 with h | h
  · exact h
  · exact big_not l _ (by unfold mex; omega)
theorem mex_lt (l : List Int) {j : Nat} (h : j < mex l) : (j : Int) ∈ l := (mexL_spec l (bigOf l) 0).2.1 j (Nat.zero_le _) h
theorem any_eq {l : List Int} {k : Int} : (l.any fun x => x == k) = true ↔ k ∈ l := by
  rw [List.any_eq_true]
  constructor
  · rintro ⟨x, hx, he⟩; rw [beq_iff_eq] at he; exact he ▸ hx
  · exact fun h => ⟨k, h, beq_self_eq_true k⟩
theorem any_mex (l : List Int) : (l.any fun x => x == (mex l : Int)) = false := by
  cases h : l.any fun x => x == (mex l : Int) with
  | false => rfl
  | true => exact absurd (any_eq.mp h) (mex_not l)
theorem mex_is {l : List Int} {k : Int} (h0 : 0 ≤ k) (h1 : ∀ j : Int, 0 ≤ j → j < k → (l.any fun x => x == j) = true) (h2 : (l.any fun x => x == k) = false) : k = (mex l : Int) := by
  rcases Int.lt_trichotomy k (mex l) with h | h | h
  · have := mex_lt l (j := k.toNat) (by omega)
    rw [show ((k.toNat : Nat) : Int) = k by omega] at this
    rw [any_eq.mpr this] at h2; cases h2
  · exact h
  · exact absurd (any_eq.mp (h1 _ (by omega) h)) (mex_not l)
noncomputable def worthsL (bs : List Int) : Nat → List Int
  | 0 => []
  | i + 1 => worthsL bs i ++ [(mex ((bs.filter fun b => decide (2 ^ i ≤ b ∧ b < 2 ^ (i + 1))).map fun b => msum (b - 2 ^ i) (worthsL bs i) i) : Int)]
theorem worths_len (bs : List Int) (i : Nat) : (worthsL bs i).length = i := by
  induction i with
  | zero => rfl
  | succ i ih => rw [worthsL, List.length_append, ih]; rfl
/-- what the comprehension has after j of the bans -/
noncomputable def madeL (bs : List Int) (i j : Nat) : List Int := ((bs.take j).filter fun b => decide (2 ^ i ≤ b ∧ b < 2 ^ (i + 1))).map fun b => msum (b - 2 ^ i) (worthsL bs i) i
theorem mex_of {l : List Int} {k : Int} (_ : MarkC (fun k => l.any fun x => x == k) 0 k) (h0 : 0 ≤ k) (h1 : ∀ j : Int, 0 ≤ j → j < k → (l.any fun x => x == j) = true) (h2 : (l.any fun x => x == k) = false) : k = (mex l : Int) := mex_is h0 h1 h2
theorem allLt_lt {d : Addr} : ∀ {l : List (Addr × Obj)}, AllLt d l → ∀ p ∈ l, @LT.lt Nat _ p.1 d
  | [], _, _, hp => nomatch hp
  | _ :: _, h, p, hp => by
    rcases List.mem_cons.mp hp with rfl | hp
    · exact h.1
    · exact allLt_lt h.2 p hp
theorem pow0 (i : Nat) : ((0 : Int) + (i : Nat)).toNat = i := by omega
theorem pow1 (i : Nat) : ((0 : Int) + (i : Nat) + 1).toNat = i + 1 := by omega
theorem take_succ_get {bs : List Int} {j : Nat} {b : Int} (h : bs[j]? = some b) : bs.take (j + 1) = bs.take j ++ [b] := by
  rw [List.take_add_one, h]; rfl
theorem madeT {bs : List Int} {i j : Nat} {b : Int} (h : bs[j]? = some b) (h1 : 2 ^ ((0 : Int) + (i : Nat)).toNat ≤ b) (h2 : b < 2 ^ ((0 : Int) + (i : Nat) + 1).toNat) :
    madeL bs i (j + 1) = madeL bs i j ++ [msum (b - 2 ^ ((0 : Int) + (i : Nat)).toNat) (worthsL bs i) (worthsL bs i).length] := by
  rw [pow0] at h1 ⊢; rw [pow1] at h2; rw [worths_len]
  unfold madeL
  rw [take_succ_get h, List.filter_append, List.map_append, List.filter_cons_of_pos (by exact decide_eq_true ⟨h1, h2⟩)]; rfl
theorem madeF {bs : List Int} {i j : Nat} {b : Int} (h : bs[j]? = some b) (h1 : ¬ (2 ^ ((0 : Int) + (i : Nat)).toNat ≤ b) ∨ ¬ (b < 2 ^ ((0 : Int) + (i : Nat) + 1).toNat)) :
    madeL bs i (j + 1) = madeL bs i j := by
  rw [pow0, pow1] at h1
  unfold madeL
  rw [take_succ_get h, List.filter_append, List.map_append, List.filter_cons_of_neg (by rw [decide_eq_true_eq]; rintro ⟨a, b⟩; rcases h1 with h1 | h1 <;> contradiction), List.filter_nil, List.map_nil, List.append_nil]
theorem worths_succ {bs : List Int} {i n : Nat} (h : n = bs.length) : worthsL bs (i + 1) = worthsL bs i ++ [(mex (madeL bs i n) : Int)] := by
  subst h
  unfold madeL
  rw [List.take_length]; rfl
namespace law_worths_spec_K
noncomputable def P9 (w : World) (loose : List Str) (mean : ExcName → Option Value) (mg : Str → Option Value) (mb : Str → Option Value) (dp : Nat) (un : Nat) (gd : Option (List Code)) (cn : Str) (cs : Scope) (a : Addr) (ccd : Value) (cl : List (Str × Addr)) (outer : List Env) (A₀ : Around) (base : Heap) (h₀ : Heap) (L : Addr) (m : Str → Option Value) (s : Shared) (Q : Value → Shared → Prop) (E : Value → Shared → Prop) (rest : List (Addr × Obj)) (c : Nat) (tc : Tok) (l : Addr) (bs : List Int) (its : List Value) (n : Nat) : Prop :=
  (hi : IntsAre its bs) → (hl : bs.length < 64) → (hc : c ≤ 5) → (hb : ∀ v ∈ bs, 0 < v ∧ v < 32) → (hr : ∀ p ∈ rest, p.1 ≠ l) → AskV 16 w loose mean mg mb 147 ((l, W.listOf its.toArray n) :: rest) [.int (c : Int) tc, .ref l] (fun h₀ L m s Q => ∀ (D : Addr) (h' : Heap) (tk' : Nat) (wits : List Value) (nw : Nat), IntsAre wits (worthsL bs c) → l ≠ D → (∀ p ∈ rest, p.1 ≠ D) → Fr h₀ L h' m → News h₀ L h' ((D, W.listOf wits.toArray nw) :: (l, W.listOf its.toArray n) :: rest) → Q (.ref D) { s with heap := h', toks := tk' }) dp un gd cn cs a ccd cl outer A₀ base h₀ L m s Q E
noncomputable def PV9 (v : K9 × (List (Addr × Obj)) × (Nat) × (Tok) × (Addr) × (List Int) × (List Value) × (Nat)) : Prop := P9 v.1.1 v.1.2.1 v.1.2.2.1 v.1.2.2.2.1 v.1.2.2.2.2.1 v.1.2.2.2.2.2.1 v.1.2.2.2.2.2.2.1 v.1.2.2.2.2.2.2.2.1 v.1.2.2.2.2.2.2.2.2.1 v.1.2.2.2.2.2.2.2.2.2.1 v.1.2.2.2.2.2.2.2.2.2.2.1 v.1.2.2.2.2.2.2.2.2.2.2.2.1 v.1.2.2.2.2.2.2.2.2.2.2.2.2.1 v.1.2.2.2.2.2.2.2.2.2.2.2.2.2.1 v.1.2.2.2.2.2.2.2.2.2.2.2.2.2.2.1 v.1.2.2.2.2.2.2.2.2.2.2.2.2.2.2.2.1 v.1.2.2.2.2.2.2.2.2.2.2.2.2.2.2.2.2.1 v.1.2.2.2.2.2.2.2.2.2.2.2.2.2.2.2.2.2.1 v.1.2.2.2.2.2.2.2.2.2.2.2.2.2.2.2.2.2.2.1 v.1.2.2.2.2.2.2.2.2.2.2.2.2.2.2.2.2.2.2.2.1 v.1.2.2.2.2.2.2.2.2.2.2.2.2.2.2.2.2.2.2.2.2.1 v.1.2.2.2.2.2.2.2.2.2.2.2.2.2.2.2.2.2.2.2.2.2 v.2.1 v.2.2.1 v.2.2.2.1 v.2.2.2.2.1 v.2.2.2.2.2.1 v.2.2.2.2.2.2.1 v.2.2.2.2.2.2.2
theorem ex9 : ∃ c, PV9 c → ∀ v, PV9 v := sk9 ⟨(Classical.choice ne9, default, default, default, default, default, default, default)⟩ PV9
noncomputable def c9 : K9 × (List (Addr × Obj)) × (Nat) × (Tok) × (Addr) × (List Int) × (List Value) × (Nat) := Classical.choose ex9
noncomputable def w : World := c9.1.1
noncomputable def loose : List Str := c9.1.2.1
noncomputable def mean : ExcName → Option Value := c9.1.2.2.1
noncomputable def mg : Str → Option Value := c9.1.2.2.2.1
noncomputable def mb : Str → Option Value := c9.1.2.2.2.2.1
noncomputable def h₀ : Heap := c9.1.2.2.2.2.2.2.2.2.2.2.2.2.2.2.2.2.1
noncomputable def L : Addr := c9.1.2.2.2.2.2.2.2.2.2.2.2.2.2.2.2.2.2.1
noncomputable def m : Str → Option Value := c9.1.2.2.2.2.2.2.2.2.2.2.2.2.2.2.2.2.2.2.1
noncomputable def s : Shared := c9.1.2.2.2.2.2.2.2.2.2.2.2.2.2.2.2.2.2.2.2.1
noncomputable def Q : Value → Shared → Prop := c9.1.2.2.2.2.2.2.2.2.2.2.2.2.2.2.2.2.2.2.2.2.1
noncomputable def E : Value → Shared → Prop := c9.1.2.2.2.2.2.2.2.2.2.2.2.2.2.2.2.2.2.2.2.2.2
noncomputable def rest : List (Addr × Obj) := c9.2.1
noncomputable def c : Nat := c9.2.2.1
noncomputable def tc : Tok := c9.2.2.2.1
noncomputable def l : Addr := c9.2.2.2.2.1
noncomputable def bs : List Int := c9.2.2.2.2.2.1
noncomputable def its : List Value := c9.2.2.2.2.2.2.1
noncomputable def n : Nat := c9.2.2.2.2.2.2.2
end law_worths_spec_K
open law_worths_spec_K in
set_option maxHeartbeats 4000000 in
set_option maxRecDepth 100000 in
theorem law_worths_spec_at : P9 w loose mean mg mb (c9.1.2.2.2.2.2.1) (c9.1.2.2.2.2.2.2.1) (c9.1.2.2.2.2.2.2.2.1) (c9.1.2.2.2.2.2.2.2.2.1) (c9.1.2.2.2.2.2.2.2.2.2.1) (c9.1.2.2.2.2.2.2.2.2.2.2.1) (c9.1.2.2.2.2.2.2.2.2.2.2.2.1) (c9.1.2.2.2.2.2.2.2.2.2.2.2.2.1) (c9.1.2.2.2.2.2.2.2.2.2.2.2.2.2.1) (c9.1.2.2.2.2.2.2.2.2.2.2.2.2.2.2.1) (c9.1.2.2.2.2.2.2.2.2.2.2.2.2.2.2.2.1) h₀ L m s Q E rest c tc l bs its n := by
  k_with_none
  w_top off
  intro hi hl hc hb hr B F X N T hk hdp hun codeHd hret
  have fill9 : Challenge.rw_sr0027_01 = Challenge.rw_sr0027_01 ∧ hd.heap_39 = hd.heap_39 := by k_fill; exact ⟨rfl, rfl⟩
  k_dflt (refine' code_defC ?k1 ?k2 ?k3 ?k4 ?k5 ?kA ?kF ?kK ?k6 ?k7 ?k8 ?k9 ?kB ?kD ?_ ?c2 ?c3 ?c4; (case kA => exact rfl); (case kF => exact rfl); (case kK => first | exact rfl | assumption); (case k1 => k_asm); (case k2 => k_asm); (case k3 => k_asm); (case k4 => k_asm); (case k5 => k_asm); (case k6 => k_is); (case k7 => k_is); (case k8 => ktr_room); (case k9 => first | exact BindsTo.of_eq rfl | exact binds_K (by k_in) rfl (by k_is) rfl rfl rfl); (case kB => exact rfl); (case kD => decide +kernel); (case c2 => exact rfl); (case c3 => exact rfl); (case c4 => exact rfl))
  intro g1 L1 hh1 tk1 cells1 FG1 F1 N1 Y1 B1 X1 T1 l1
  (try k_lt l1)
  k_cells Y1
  (try simp only [List.cons_append, List.nil_append] at N1)
  (try dsimp only); (try k_lift B1); (try k_fold)
  refine foldE9 ?_
  intro QQ9 EE9
  (k_with "call ref" => ((with_reducible show wpAny _ _ (call (Value.ref 104) _) _ _ _); k_dflt (refine' wpAny_call (law_sum_h _ _ _ _ _ _ _ _ _ _ _ _ _ _ _ _ _ _ _ _ _ _ _ _ (by k_asm) (by k_asm) (by k_asm) (by k_asm) ⟨by k_mem, by assumption, by omega⟩ (by k_asm) (by first | exact rfl | assumption) (by ktr_room) (by ktr_units) (by assumption) ?_)); intro h' tk' t9 F9 N9; (try dsimp only); (try k_sweep); (try k_fold)))
  (k_with "exec Assign cons ListComp" => (k_dflt (refine LCt.Assign_ListComp_T (F₀ := by k_asm) (by rfl) (by with_unfolding_all rfl) (by with_unfolding_all rfl) (by decide) (by rfl) (by decide) (by rfl) (by rfl) (by rfl) ?_); k_dflt lct_toSrc))
  (k_with "CompSrcT" => (refine Halt.h ?_))
  (k_with "exec For Name Call cons nil" => (refine Halt.h ?_))
  k_steps
  (with_reducible rename Fr g1 L1 _ _ => kF)
  (with_reducible rename News g1 L1 _ (_ :: _) => kN)
  refine ⟨lforC (g := g1) (L1 + 1 + 1) 0 c (fun i m nx => ∃ (m9 : Str → Option Value) (wits : List Value) (nw : Nat), IntsAre wits (worthsL bs i) ∧ nx = ((fst1 kN).1, W.listOf wits.toArray nw) :: (tl1 kN).tail ∧ m = ov1 (Str.ofString "bans") m9 (some (.ref l))) rfl rfl rfl rfl ?_ ?_ ?_⟩
  · k_steps
    (with_reducible rename News g1 L1 _ (_ :: _) => kN1)
    (with_reducible rename _ ∧ _ ∧ _ ∧ AllLt _ rest => hl9)
    exact ⟨⟨_, _, _, _, _, _, _, _, _, _, _, rfl, rfl, by assumption, small_one (by decide) (by decide) (by omega) (by omega), rangeSize_nat _ _, by k_asm, (fun p hp => kN1 p (by
      rcases List.mem_cons.mp hp with rfl | hp
      · exact .tail _ (.head _)
      rcases List.mem_cons.mp hp with rfl | hp
      · exact .head _
      · exact .tail _ (.tail _ hp))), by assumption, (fun p hp => by
      rcases List.mem_cons.mp hp with rfl | hp
      · k_ne
      rcases List.mem_cons.mp hp with rfl | hp
      · k_ne
      rcases List.mem_cons.mp hp with rfl | hp
      · k_ne
      · exact allLt_ne l1.2 (by omega) p hp), ⟨_, [], 0, .nil, rfl, ov1s _ _ rfl⟩⟩⟩
  · intro i t m₁ oc nx h tk I o hin hJ0_10 off hcI offc hoc kF2 kN2
    refine foldG9 ?_
    intro GG
    obtain ⟨m9, wits, nw, hwi, rfl, rfl⟩ := hJ0_10
    dsimp only [GG]
    clear GG
    have hwl := worths_len bs i
    dsimp only [mapOf2, fst1, tl1, List.tail] at kF2 kN2
    have o1 := neN (off _ (.head _))
    have o2 := neN (offc _ (.head _))
    dsimp only [fst1, tl1] at o1 o2
    k_steps
    refine ⟨LCt.CompSrcT.ledger (by rfl) (by k_asm) (by k_asm) (by k_mem) (by size_fits) ?_⟩
    intro g'
    refine restInvT (J := fun j ys nx => IntsAre ys (madeL bs i j) ∧ nx = _) ⟨.nil, rfl⟩ ?_ ?_
    · intro j v ys news I' oI C oC D m₂ h' tk' E' hj hP hJ1_15 hC hx F' N' off' ne'
      refine foldG9 ?_
      intro GG
      obtain ⟨hys, rfl⟩ := hJ1_15
      dsimp only [GG]
      clear GG
      obtain ⟨bn, tb, rfl, hbn⟩ := hi.at j v (by simpa using hP)
      have hbn2 := hb bn (List.mem_of_getElem? hbn)
      have hS : ∀ r, LCg.SrcAt g1 l its.toArray ((I, o) :: (L1 + 1 + 1, oc) :: (r, W.listOf wits.toArray nw) :: (tl1 kN).tail) := fun r => .inr ⟨_, .tail _ (.tail _ (.tail _ (.tail _ (.head _)))), rfl, _, rfl⟩
      k_steps
      · exact LCg.CompEnd.intro (by assumption) (by assumption) _ (fun p hp => hp) off' (hS _) ⟨⟨(by rw [madeT hbn (by assumption) (by assumption)]; exact hys.append (.cons _ _ .nil)), rfl⟩⟩
      · exact LCg.CompEnd.intro (by assumption) (by assumption) _ (fun p hp => hp) off' (hS _) ⟨⟨(by rw [madeF hbn (.inr (by assumption))]; exact hys), rfl⟩⟩
      · exact LCg.CompEnd.intro (by assumption) (by assumption) _ (fun p hp => hp) off' (hS _) ⟨⟨(by rw [madeF hbn (.inl (by assumption))]; exact hys), rfl⟩⟩
    · intro ys news hJ2_2
      refine foldG9 ?_
      intro GG
      obtain ⟨hys, rfl⟩ := hJ2_2
      dsimp only [GG]
      clear GG
      intro D h3 tk3 F3 N3 off3
      simp only [LCg.Off1, and_true] at off3
      k_steps
      case K => exact (mex (madeL bs i its.toArray.size) : Int)
      rotate_right 2
      · exact ⟨by omega, any_mex _⟩
      · (with_reducible rename Fr g1 L1 _ (bindM _ _ _) => kG)
        (with_reducible rename News g1 L1 _ ((D, LCg.lst ys) :: _) => kM)
        (with_reducible rename MarkC _ _ _ => hk1)
        have hke := mex_of hk1 (by assumption) (by assumption) (by assumption)
        rw [List.push_toArray] at kM
        exact ⟨⟨_, _, _, _, _, _, rfl, Fr.cast' kG (ov1s (Str.ofString "bans") _ rfl), fun p hp => kM p (.tail _ hp), hoc, fun p hp => by
          rcases List.mem_cons.mp hp with rfl | hp
          · exact o1
          · exact off p (.tail _ hp), fun p hp => by
          rcases List.mem_cons.mp hp with rfl | hp
          · exact o2
          · exact offc p (.tail _ hp), ⟨_, _, _, by rw [worths_succ (n := its.toArray.size) (by rw [List.size_toArray]; exact hi.length), ← hke]; exact hwi.append (.cons _ _ .nil), rfl, rfl⟩⟩⟩
      all_goals first | exact (0 : Nat) | exact Str.ofString "" | exact Value.none
  · intro m₁ oc vc nx h tk hJ3_6 hoc kF2 kN2
    refine foldG9 ?_
    intro GG
    obtain ⟨m9, wits, nw, hwi, rfl, rfl⟩ := hJ3_6
    dsimp only [GG]
    clear GG
    dsimp only [mapOf2, fst1, tl1, List.tail] at kF2 kN2
    k_steps
    (with_reducible rename _ ∧ _ ∧ _ ∧ AllLt _ rest => hl9)
    (with_reducible rename News h₀ L _ _ => kN9)
    exact hret _ _ _ _ _ hwi (by k_ne) (fun p hp => Nat.ne_of_lt (allLt_lt hl9.2.2.2 p hp)) (by k_asm) (fun p hp => kN9 p (by
      rcases List.mem_cons.mp hp with rfl | hp
      · exact .tail _ (.head _)
      · exact .tail _ (.tail _ (.tail _ hp))))

theorem law_worths_spec (w : World) (loose : List Str) (mean : ExcName → Option Value) (mg mb : Str → Option Value) (rest : List (Addr × Obj)) (c : Nat) (tc : Tok) (l : Addr) (bs : List Int) (its : List Value) (n : Nat) (hi : IntsAre its bs) (hl : bs.length < 64) (hc : c ≤ 5) (hb : ∀ v ∈ bs, 0 < v ∧ v < 32) (hr : ∀ p ∈ rest, p.1 ≠ l) :
    Asks 16 w loose mean mg mb 147 ((l, W.listOf its.toArray n) :: rest) [.int (c : Int) tc, .ref l] (fun h₀ L m s Q => ∀ (D : Addr) (h' : Heap) (tk' : Nat) (wits : List Value) (nw : Nat), IntsAre wits (worthsL bs c) → l ≠ D → (∀ p ∈ rest, p.1 ≠ D) → Fr h₀ L h' m → News h₀ L h' ((D, W.listOf wits.toArray nw) :: (l, W.listOf its.toArray n) :: rest) → Q (.ref D) { s with heap := h', toks := tk' }) :=
  fun dp un gd cn cs a ccd cl outer A₀ base h₀ L m s Q E => Classical.choose_spec law_worths_spec_K.ex9 law_worths_spec_at ((w, loose, mean, mg, mb, dp, un, gd, cn, cs, a, ccd, cl, outer, A₀, base, h₀, L, m, s, Q, E), rest, c, tc, l, bs, its, n) hi hl hc hb hr
end

section
set_option maxHeartbeats 4000000 in
set_option maxRecDepth 100000 in
/-- the line's numbers after i of the leads -/
noncomputable def lineL (ns : List Int) : Nat → List Int
  | 0 => [0]
  | i + 1 => lineL ns i ++ (lineL ns i).map fun v => Builtin.bitXor v (ns.getD i 0)
theorem line_len (ns : List Int) (i : Nat) : (lineL ns i).length = 2 ^ i := by
  induction i with
  | zero => rfl
  | succ i ih => rw [lineL, List.length_append, List.length_map, ih, Nat.pow_succ]; omega
theorem line_bnd {ns : List Int} (hb : ∀ v ∈ ns, 0 ≤ v ∧ v < 256) (i : Nat) : ∀ v ∈ lineL ns i, 0 ≤ v ∧ v < 256 := by
  induction i with
  | zero => intro v hv; rw [lineL, List.mem_singleton] at hv; omega
  | succ i ih =>
    intro v hv
    rw [lineL, List.mem_append] at hv
    rcases hv with hv | hv
    · exact ih v hv
    · obtain ⟨u, hu, rfl⟩ := List.mem_map.mp hv
      refine xor_bnd (n := 8) (ih u hu) ?_
      rw [List.getD_eq_getElem?_getD]
      by_cases hk : i < ns.length
      · rw [List.getElem?_eq_getElem hk]; exact hb _ (List.getElem_mem hk)
      · rw [List.getElem?_eq_none (by omega)]; decide
noncomputable abbrev wordOf (v : Int) : Str := ⟨(hx v.natAbs).toArray⟩
theorem news_up {g h : Heap} {L : Addr} (A : List (Addr × Obj)) {b : Addr × Obj} {C : List (Addr × Obj)} (N : News g L h (A ++ b :: C)) : News g L h (b :: (A ++ C)) := fun p hp => N p (by
  rcases List.mem_cons.mp hp with rfl | hp
  · exact List.mem_append_right _ (.head _)
  · rcases List.mem_append.mp hp with hp | hp
    · exact List.mem_append_left _ hp
    · exact List.mem_append_right _ (.tail _ hp))
theorem news_dn {g h : Heap} {L : Addr} (A : List (Addr × Obj)) {b : Addr × Obj} {C : List (Addr × Obj)} (N : News g L h (b :: (A ++ C))) : News g L h (A ++ b :: C) := fun p hp => N p (by
  rcases List.mem_append.mp hp with hp | hp
  · exact .tail _ (List.mem_append_left _ hp)
  · rcases List.mem_cons.mp hp with rfl | hp
    · exact .head _
    · exact .tail _ (List.mem_append_right _ hp))
theorem QM.addIn {w : World} {loose : List Str} {mean : ExcName → Option Value} {mg mb : Str → Option Value} {x pb : Addr} {R led : List (Addr × Obj)} {o' : Obj} {a : Addr} {o : Obj} (M : QM w loose mean mg mb x pb R) (h : ∀ p ∈ led, p.1 ≠ a) (hs : ∀ p ∈ R, p ∈ led) (hp : (pb, o') ∈ led) : QM w loose mean mg mb x pb ((a, o) :: R) :=
  M.add (fun p hp => h p (hs p hp)) (h _ hp)
theorem strs_take {ys q : List Value} {wl : List Str} {j : Nat} {v : Value} (h : StrsAre q wl) (hj : q[j]? = some v) (hy : StrsAre ys (wl.take j)) : StrsAre (ys ++ [v]) (wl.take (j + 1)) := by
  obtain ⟨y, t, rfl, hw⟩ := h.item j v hj
  rw [List.take_add_one, hw]
  exact hy.append' (.cons _ _ .nil)
theorem hx_ok {a : Int} (h : 0 ≤ a ∧ a < 256) : (hx a.natAbs).length < 100 ∧ ∀ c ∈ hx a.natAbs, 65 ≤ c ∧ c ≤ 80 :=
  ⟨Nat.lt_of_le_of_lt (hx_len 6 _ (by omega)) (by decide), fun c hc => by have := hx_mem _ c hc; omega⟩
theorem off1_mem {D : Addr} : ∀ {l : List (Addr × Obj)}, LCg.Off1 D l → ∀ p ∈ l, p.1 ≠ D
  | [], _, _, hp => nomatch hp
  | _ :: _, h, p, hp => by
    rcases List.mem_cons.mp hp with rfl | hp
    · exact h.1
    · exact off1_mem h.2 p hp
theorem num_of {a : Int} (h : 0 ≤ a ∧ a < 256) : numOf (hx a.natAbs) = a := by rw [numOf_hx]; omega
theorem xor_nat {a ld : Int} (ha : 0 ≤ a ∧ a < 256) (hl : 0 ≤ ld ∧ ld < 256) : (Builtin.bitXor (numOf (hx a.natAbs)) ld).natAbs < 16 ^ 6 := by
  rw [num_of ha]
  have := xor_bnd (n := 8) ha hl
  omega
theorem strs_xor {L : List Int} {q : List Value} {j : Nat} {a ld : Int} {wl : List Str} {t : Tok} (hj : L[j]? = some a) (ha : 0 ≤ a ∧ a < 256) (h : StrsAre q (wl ++ ((L.map fun v => Builtin.bitXor v ld).map wordOf).take j)) :
    StrsAre (q ++ [.str ⟨(hx (Builtin.bitXor (numOf (hx a.natAbs)) ld).natAbs).toArray⟩ t]) (wl ++ ((L.map fun v => Builtin.bitXor v ld).map wordOf).take (j + 1)) := by
  rw [num_of ha, List.take_add_one, List.getElem?_map, List.getElem?_map, hj, ← List.append_assoc]
  exact h.append' (.cons _ _ .nil)
theorem off_swap (A : List (Addr × Obj)) {a I : Addr} {o1 o2 : Obj} {C : List (Addr × Obj)} (h : ∀ p ∈ A ++ (a, o1) :: C, p.1 ≠ I) : ∀ p ∈ A ++ (a, o2) :: C, p.1 ≠ I := fun p hp => by
  rcases List.mem_append.mp hp with hp | hp
  · exact h p (List.mem_append_left _ hp)
  · rcases List.mem_cons.mp hp with rfl | hp
    · exact h (a, o1) (List.mem_append_right _ (.head _))
    · exact h p (List.mem_append_right _ (.tail _ hp))
theorem ld_get {ns : List Int} {i : Nat} {v : Int} (h : ns[i]? = some v) : ns.getD i 0 = v := by rw [List.getD_eq_getElem?_getD, h]; rfl
theorem mul2ok {S : Nat} (h : S ≤ 64) (b : Int) : IntMulOk 2 b := IntMulOk.of_left (intBits_le_64 (by decide) (by decide))
namespace law_line_spec_K
noncomputable def P9 (w : World) (loose : List Str) (mean : ExcName → Option Value) (mg : Str → Option Value) (mb : Str → Option Value) (dp : Nat) (un : Nat) (gd : Option (List Code)) (cn : Str) (cs : Scope) (a : Addr) (ccd : Value) (cl : List (Str × Addr)) (outer : List Env) (A₀ : Around) (base : Heap) (h₀ : Heap) (L : Addr) (m : Str → Option Value) (s : Shared) (Q : Value → Shared → Prop) (E : Value → Shared → Prop) (x : Addr) (d : Addr) (st : Addr) (pb : Addr) (l : Addr) (nq : Nat) (R : List (Addr × Obj)) (line : Int) (k1 : Tok) (k2 : Tok) (k3 : Tok) (k4 : Tok) (k5 : Tok) (k6 : Tok) (ns : List Int) (its : List Value) (n : Nat) : Prop :=
  (hi : IntsAre its ns) → (hl : ns.length ≤ 5) → (hb : ∀ v ∈ ns, 0 ≤ v ∧ v < 256) → (hM : QM w loose mean mg mb x pb ((x, instObj 86 d) :: (d, mDict w line st pb k1 k2 k3 k4 k5 k6) :: (l, W.listOf its.toArray n) :: R)) → AskV 24 w loose mean mg mb 135 ((pb, W.listOf #[] nq) :: (x, instObj 86 d) :: (d, mDict w line st pb k1 k2 k3 k4 k5 k6) :: (l, W.listOf its.toArray n) :: R) [.ref x, .ref l] (fun h₀ L m s Q => ∀ (h' : Heap) (tk' : Nat) (t : Tok) (q : List Value) (nq' : Nat), StrsAre q ((lineL ns ns.length).map wordOf) → Fr h₀ L h' m →
      News h₀ L h' ((pb, W.listOf q.toArray nq') :: (x, instObj 86 d) :: (d, mDict w line st pb k1 k2 k3 k4 k5 k6) :: (l, W.listOf its.toArray n) :: R) → Q (.int ((2 ^ ns.length : Nat) : Int) t) { s with heap := h', toks := tk' }) dp un gd cn cs a ccd cl outer A₀ base h₀ L m s Q E
noncomputable def PV9 (v : K9 × (Addr) × (Addr) × (Addr) × (Addr) × (Addr) × (Nat) × (List (Addr × Obj)) × (Int) × (Tok) × (Tok) × (Tok) × (Tok) × (Tok) × (Tok) × (List Int) × (List Value) × (Nat)) : Prop := P9 v.1.1 v.1.2.1 v.1.2.2.1 v.1.2.2.2.1 v.1.2.2.2.2.1 v.1.2.2.2.2.2.1 v.1.2.2.2.2.2.2.1 v.1.2.2.2.2.2.2.2.1 v.1.2.2.2.2.2.2.2.2.1 v.1.2.2.2.2.2.2.2.2.2.1 v.1.2.2.2.2.2.2.2.2.2.2.1 v.1.2.2.2.2.2.2.2.2.2.2.2.1 v.1.2.2.2.2.2.2.2.2.2.2.2.2.1 v.1.2.2.2.2.2.2.2.2.2.2.2.2.2.1 v.1.2.2.2.2.2.2.2.2.2.2.2.2.2.2.1 v.1.2.2.2.2.2.2.2.2.2.2.2.2.2.2.2.1 v.1.2.2.2.2.2.2.2.2.2.2.2.2.2.2.2.2.1 v.1.2.2.2.2.2.2.2.2.2.2.2.2.2.2.2.2.2.1 v.1.2.2.2.2.2.2.2.2.2.2.2.2.2.2.2.2.2.2.1 v.1.2.2.2.2.2.2.2.2.2.2.2.2.2.2.2.2.2.2.2.1 v.1.2.2.2.2.2.2.2.2.2.2.2.2.2.2.2.2.2.2.2.2.1 v.1.2.2.2.2.2.2.2.2.2.2.2.2.2.2.2.2.2.2.2.2.2 v.2.1 v.2.2.1 v.2.2.2.1 v.2.2.2.2.1 v.2.2.2.2.2.1 v.2.2.2.2.2.2.1 v.2.2.2.2.2.2.2.1 v.2.2.2.2.2.2.2.2.1 v.2.2.2.2.2.2.2.2.2.1 v.2.2.2.2.2.2.2.2.2.2.1 v.2.2.2.2.2.2.2.2.2.2.2.1 v.2.2.2.2.2.2.2.2.2.2.2.2.1 v.2.2.2.2.2.2.2.2.2.2.2.2.2.1 v.2.2.2.2.2.2.2.2.2.2.2.2.2.2.1 v.2.2.2.2.2.2.2.2.2.2.2.2.2.2.2.1 v.2.2.2.2.2.2.2.2.2.2.2.2.2.2.2.2.1 v.2.2.2.2.2.2.2.2.2.2.2.2.2.2.2.2.2
theorem ex9 : ∃ c, PV9 c → ∀ v, PV9 v := sk9 ⟨(Classical.choice ne9, default, default, default, default, default, default, default, default, default, default, default, default, default, default, default, default, default)⟩ PV9
noncomputable def c9 : K9 × (Addr) × (Addr) × (Addr) × (Addr) × (Addr) × (Nat) × (List (Addr × Obj)) × (Int) × (Tok) × (Tok) × (Tok) × (Tok) × (Tok) × (Tok) × (List Int) × (List Value) × (Nat) := Classical.choose ex9
noncomputable def w : World := c9.1.1
noncomputable def loose : List Str := c9.1.2.1
noncomputable def mean : ExcName → Option Value := c9.1.2.2.1
noncomputable def mg : Str → Option Value := c9.1.2.2.2.1
noncomputable def mb : Str → Option Value := c9.1.2.2.2.2.1
noncomputable def a : Addr := c9.1.2.2.2.2.2.2.2.2.2.2.1
noncomputable def h₀ : Heap := c9.1.2.2.2.2.2.2.2.2.2.2.2.2.2.2.2.2.1
noncomputable def L : Addr := c9.1.2.2.2.2.2.2.2.2.2.2.2.2.2.2.2.2.2.1
noncomputable def m : Str → Option Value := c9.1.2.2.2.2.2.2.2.2.2.2.2.2.2.2.2.2.2.2.1
noncomputable def s : Shared := c9.1.2.2.2.2.2.2.2.2.2.2.2.2.2.2.2.2.2.2.2.1
noncomputable def Q : Value → Shared → Prop := c9.1.2.2.2.2.2.2.2.2.2.2.2.2.2.2.2.2.2.2.2.2.1
noncomputable def E : Value → Shared → Prop := c9.1.2.2.2.2.2.2.2.2.2.2.2.2.2.2.2.2.2.2.2.2.2
noncomputable def x : Addr := c9.2.1
noncomputable def d : Addr := c9.2.2.1
noncomputable def st : Addr := c9.2.2.2.1
noncomputable def pb : Addr := c9.2.2.2.2.1
noncomputable def l : Addr := c9.2.2.2.2.2.1
noncomputable def nq : Nat := c9.2.2.2.2.2.2.1
noncomputable def R : List (Addr × Obj) := c9.2.2.2.2.2.2.2.1
noncomputable def line : Int := c9.2.2.2.2.2.2.2.2.1
noncomputable def k1 : Tok := c9.2.2.2.2.2.2.2.2.2.1
noncomputable def k2 : Tok := c9.2.2.2.2.2.2.2.2.2.2.1
noncomputable def k3 : Tok := c9.2.2.2.2.2.2.2.2.2.2.2.1
noncomputable def k4 : Tok := c9.2.2.2.2.2.2.2.2.2.2.2.2.1
noncomputable def k5 : Tok := c9.2.2.2.2.2.2.2.2.2.2.2.2.2.1
noncomputable def k6 : Tok := c9.2.2.2.2.2.2.2.2.2.2.2.2.2.2.1
noncomputable def ns : List Int := c9.2.2.2.2.2.2.2.2.2.2.2.2.2.2.2.1
noncomputable def its : List Value := c9.2.2.2.2.2.2.2.2.2.2.2.2.2.2.2.2.1
noncomputable def n : Nat := c9.2.2.2.2.2.2.2.2.2.2.2.2.2.2.2.2.2
end law_line_spec_K
open law_line_spec_K in
set_option maxHeartbeats 4000000 in
set_option maxRecDepth 100000 in
theorem law_line_spec_at : P9 w loose mean mg mb (c9.1.2.2.2.2.2.1) (c9.1.2.2.2.2.2.2.1) (c9.1.2.2.2.2.2.2.2.1) (c9.1.2.2.2.2.2.2.2.2.1) (c9.1.2.2.2.2.2.2.2.2.2.1) a (c9.1.2.2.2.2.2.2.2.2.2.2.2.1) (c9.1.2.2.2.2.2.2.2.2.2.2.2.2.1) (c9.1.2.2.2.2.2.2.2.2.2.2.2.2.2.1) (c9.1.2.2.2.2.2.2.2.2.2.2.2.2.2.2.1) (c9.1.2.2.2.2.2.2.2.2.2.2.2.2.2.2.2.1) h₀ L m s Q E x d st pb l nq R line k1 k2 k3 k4 k5 k6 ns its n := by
  k_with_none
  w_top off
  intro hi hl hb hM B F X N T hk hdp hun codeHd hret
  have fill9 : Challenge.rw_sr0027_01 = Challenge.rw_sr0027_01 ∧ hd.heap_39 = hd.heap_39 := by k_fill; exact ⟨rfl, rfl⟩
  k_dflt (refine' code_defC ?k1 ?k2 ?k3 ?k4 ?k5 ?kA ?kF ?kK ?k6 ?k7 ?k8 ?k9 ?kB ?kD ?_ ?c2 ?c3 ?c4; (case kA => exact rfl); (case kF => exact rfl); (case kK => first | exact rfl | assumption); (case k1 => k_asm); (case k2 => k_asm); (case k3 => k_asm); (case k4 => k_asm); (case k5 => k_asm); (case k6 => k_is); (case k7 => k_is); (case k8 => ktr_room); (case k9 => first | exact BindsTo.of_eq rfl | exact binds_K (by k_in) rfl (by k_is) rfl rfl rfl); (case kB => exact rfl); (case kD => decide +kernel); (case c2 => exact rfl); (case c3 => exact rfl); (case c4 => exact rfl))
  intro g1 L1 hh1 tk1 cells1 FG1 F1 N1 Y1 B1 X1 T1 l1
  (try k_lt l1)
  k_cells Y1
  (try simp only [List.cons_append, List.nil_append] at N1)
  (try dsimp only); (try k_lift B1); (try k_fold)
  refine foldE9 ?_
  intro QQ9 EE9
  have hq := hM.off
  have hbnd := line_bnd hb
  have hlen := hi.length
  have hA : AllLt L1 ((pb, W.listOf #[] nq) :: (x, instObj 86 d) :: (d, mDict w line st pb k1 k2 k3 k4 k5 k6) :: (l, W.listOf its.toArray n) :: R) := l1
  have hc := allLt_ne hA (d' := L1 + 1) (by omega)
  (k_with "call ref" => ((with_reducible show wpAny _ _ (call (Value.ref 48) _) _ _ _); k_dflt (refine' wpAny_call (int2ap_spec w loose mean mg mb _ _ _ (by first | omega | assumption) _ _ _ _ _ _ _ _ _ _ _ _ _ _ _ _ _ (by k_asm) (by k_asm) (by k_asm) (by k_asm) (by k_asm) (by first | exact rfl | assumption) (by ktr_room) (by ktr_units) (by assumption) ?_)); intro h' tk' t9 F9 N9; (try dsimp only); (try k_sweep); (try k_fold)))
  (k_with "call ref" => ((with_reducible show wpAny _ _ (call (Value.ref 123) _) _ _ _); k_dflt (refine' wpAny_call (law_number_spec w loose mean mg mb _ _ _ (hx_ok (by assumption)).1 (hx_ok (by assumption)).2 _ _ _ _ _ _ _ _ _ _ _ _ _ _ _ _ _ (by k_asm) (by k_asm) (by k_asm) (by k_asm) (by k_asm) (by first | exact rfl | assumption) (by ktr_room) (by ktr_units) (by assumption) ?_)); intro h' tk' t9 F9 N9; (try dsimp only); (try k_sweep); (try k_fold)))
  (k_with "call ref" => ((with_reducible show wpAny _ _ (call (Value.ref 76) _) _ _ _); refine Halt.h ?_))
  (k_with "call ref" => ((with_reducible show wpAny _ _ (call (Value.ref 83) _) _ _ _); refine Halt.h ?_))
  (k_with "call builtin:bytes.decode" => (refine decode_any _ (fun c hc => by have := hx_mem _ c hc; omega) (Nat.lt_of_le_of_lt (hx_len 6 _ (by first | decide | assumption)) (by decide)) ?_; intro _ _))
  (k_with "exec Assign cons ListComp" => (k_dflt (refine LCg.Assign_ListComp_U (F₀ := by k_asm) (by rfl) (by with_unfolding_all rfl) (by with_unfolding_all rfl) (by decide) (by rfl) (by decide) (by rfl) (by rfl) (by rfl) ?_); k_dflt lcg_toSrc))
  (k_with "CompSrc" => (refine Halt.h ?_))
  (k_with "exec For Name Name cons nil" => (refine Halt.h ?_))
  (k_with "binaryOp Mult int int" => (refine mul_int ?_ (mul2ok (by assumption) _)))
  k_steps
  (with_reducible rename News g1 L1 _ (_ :: _) => kN)
  (rename Obj => oX)
  have hMc := hM.add (a := L1 + 1) (o := oX) (fun p hp => hc p (.tail _ hp)) (hc _ (.head _))
  refine ⟨?_⟩
  k_dflt (refine' wpAny_call (qpush hMc [] nq _ _ (by decide) _ _ _ _ _ _ _ _ _ _ _ _ _ _ _ _ _ (by k_asm) (by k_asm) (by k_asm) (news_up [_] kN) (by k_asm) (by first | exact rfl | assumption) (by ktr_room) (by ktr_units) (by assumption) ?_))
  intro h9 tk9 F9 N9
  have kN2 := news_dn [_] N9
  clear N9
  (try simp only [List.cons_append, List.nil_append] at kN2)
  (try dsimp only)
  (try k_sweep)
  (try k_fold)
  k_steps
  (with_reducible rename Fr g1 L1 _ _ => kF)
  refine ⟨lforList (g := g1) l its n (fun i m nx => ∃ (S : Nat) (m9 : Str → Option Value) (ts : Tok) (q : List Value) (nq' : Nat), S = 2 ^ i ∧ StrsAre q ((lineL ns i).map wordOf) ∧ nx = (L1 + 1, oX) :: (pb, W.listOf q.toArray nq') :: (x, instObj 86 d) :: (d, mDict w line st pb k1 k2 k3 k4 k5 k6) :: (l, W.listOf its.toArray n) :: R ∧
    m = ov1 (Str.ofString "size") m9 (some (.int (S : Int) ts))) rfl rfl rfl ?_ ?_ ?_ ?_⟩
  · intro i m nx hJ0_3
    refine foldG9 ?_
    intro GG
    obtain ⟨S, m9, ts, q, nq', rfl, hqs, rfl, rfl⟩ := hJ0_3
    dsimp only [GG]
    clear GG
    exact .tail _ (.tail _ (.tail _ (.tail _ (.head _))))
  · k_steps
    exact ⟨⟨_, _, _, _, rfl, rfl, by k_asm, by k_asm, ⟨1, _, _, _, _, rfl, .cons _ _ .nil, rfl, ov1s _ _ rfl⟩⟩⟩
  · intro i v m₁ nx h tk I o hlt hv hJ1_10 off kF2 kN3
    refine foldG9 ?_
    intro GG
    obtain ⟨S, m9, ts, q, nq', hS, hqs, rfl, rfl⟩ := hJ1_10
    dsimp only [GG]
    clear GG
    obtain ⟨ld, tl, rfl, hld⟩ := hi.at i v hv
    have hi5 : i < 5 := by omega
    have hS32 : S ≤ 64 := by rw [hS]; exact Nat.le_trans (Nat.pow_le_pow_right (by decide) (Nat.le_of_lt hi5)) (by decide)
    have hql : q.length = S := by rw [hqs.length, List.length_map, line_len, hS]
    try dsimp only at kF2 kN3
    have hMI := hMc.addIn (o := o) off (fun p hp => by
      rcases List.mem_cons.mp hp with rfl | hp
      · exact .head _
      · exact .tail _ (.tail _ hp)) (.tail _ (.head _))
    have hsubI : ∀ (qq : List Value) (nn : Nat), ∀ p ∈ (I, o) :: ((L1 + 1, oX) :: (x, instObj 86 d) :: (d, mDict w line st pb k1 k2 k3 k4 k5 k6) :: (l, W.listOf its.toArray n) :: R), p ∈ (I, o) :: (L1 + 1, oX) :: (pb, W.listOf qq.toArray nn) :: (x, instObj 86 d) :: (d, mDict w line st pb k1 k2 k3 k4 k5 k6) :: (l, W.listOf its.toArray n) :: R := fun qq nn p hp => by
      rcases List.mem_cons.mp hp with rfl | hp
      · exact .head _
      rcases List.mem_cons.mp hp with rfl | hp
      · exact .tail _ (.head _)
      · exact .tail _ (.tail _ (.tail _ hp))
    k_steps
    refine ⟨LCg.CompSrc.range (n := S) (by rfl) (by k_asm) (by k_asm) (by assumption) (small_one (by decide) (by decide) (by omega) (by omega)) (by rw [rangeSize_nat]; omega) (by rw [sizeLine_eq]; omega) ?_⟩
    intro g'
    refine restInv (J := fun j ys nx => ∃ nq2, StrsAre ys (((lineL ns i).map wordOf).take j) ∧ nx = (I, o) :: (L1 + 1, oX) :: (pb, W.listOf (q.drop j).toArray nq2) :: (x, instObj 86 d) :: (d, mDict w line st pb k1 k2 k3 k4 k5 k6) :: (l, W.listOf its.toArray n) :: R) ⟨_, .nil, rfl⟩ ?_ ?_
    · intro j v2 ys news I' oI C oC D m₂ h' tk' E' hj hJ2_14 hJ2_15 hC hx' F' N' off' ne'
      refine foldG9 ?_
      intro GG
      obtain ⟨tv, rfl⟩ := hJ2_14
      obtain ⟨nq2, hys, rfl⟩ := hJ2_15
      dsimp only [GG]
      clear GG
      have hj' : j < q.length := by omega
      have hoff := off'.mem
      have hsub := hsubI (q.drop j) nq2
      have hM3 := ((hMI.addIn (o := LCg.lst ys) (fun p hp => (hoff p hp).2.2) hsub (.tail _ (.tail _ (.head _)))).add (a := C) (o := oC) (fun p hp => by
        rcases List.mem_cons.mp hp with rfl | hp
        · exact Ne.symm ne'.2.2
        · exact (hoff p (hsub p hp)).2.1) (hoff _ (.tail _ (.tail _ (.head _)))).2.1).add (a := I') (o := oI) (fun p hp => by
        rcases List.mem_cons.mp hp with rfl | hp
        · exact Ne.symm ne'.1
        rcases List.mem_cons.mp hp with rfl | hp
        · exact Ne.symm ne'.2.1
        · exact (hoff p (hsub p hp)).1) (hoff _ (.tail _ (.tail _ (.head _)))).1
      have hdq := List.drop_eq_getElem_cons hj'
      rw [hdq] at N'
      try dsimp only at N' off' hx'
      have off2 := off'
      simp only [LCg.Off3, and_true] at off'
      k_steps
      (with_reducible rename News g1 _ _ ((I', oI) :: _) => kN4)
      refine ⟨?_⟩
      k_dflt (refine' wpAny_call (qpop hM3 (q.drop (j + 1)) nq2 _ (by rw [List.length_drop]; omega) _ _ _ _ _ _ _ _ _ _ _ _ _ _ _ _ _ (by k_asm) (by k_asm) (by k_asm) (news_up [_, _, _, _, _] kN4) (by k_asm) (by first | exact rfl | assumption) (by ktr_room) (by ktr_units) (by assumption) ?_))
      intro h9 tk9 F9 N9
      have kN5 := news_dn [_, _, _, _, _] N9
      clear N9
      (try simp only [List.cons_append, List.nil_append] at kN5)
      (try dsimp only)
      (try k_sweep)
      (try k_fold)
      k_steps
      exact LCg.CompEnd.intro (by assumption) kN5 _ (fun p hp => hp) off2 trivial ⟨⟨_, strs_take hqs (List.getElem?_eq_getElem hj') hys, rfl⟩⟩
    · intro ys news hJ3_2
      refine foldG9 ?_
      intro GG
      obtain ⟨nq2, hys, rfl⟩ := hJ3_2
      dsimp only [GG]
      clear GG
      intro D h3 tk3 F3 N3 off3
      have hoff3 := off1_mem off3
      have hMD := hMI.addIn (a := D) (o := LCg.lst ys) hoff3 (hsubI _ _) (.tail _ (.tail _ (.head _)))
      rw [List.drop_eq_nil_of_le (by omega)] at N3
      rw [List.take_of_length_le (by rw [List.length_map, line_len]; omega)] at hys
      have hyl : ys.length = S := by rw [hys.length, List.length_map, line_len, hS]
      try dsimp only at N3
      simp only [LCg.Off1, and_true] at off3
      k_steps
      (with_reducible rename Fr g1 _ _ _ => kF5)
      (with_reducible rename News g1 _ _ ((D, LCg.lst ys) :: _) => kN5)
      refine ⟨lforList (g := g1) D ys ys.length (fun j m nx => ∃ (m8 : Str → Option Value) (q2 : List Value) (nq3 : Nat), StrsAre q2 (((lineL ns i).map wordOf).take j) ∧ nx = (D, LCg.lst ys) :: (I, o) :: (L1 + 1, oX) :: (pb, W.listOf q2.toArray nq3) :: (x, instObj 86 d) :: (d, mDict w line st pb k1 k2 k3 k4 k5 k6) :: (l, W.listOf its.toArray n) :: R ∧ m = ov1 (Str.ofString "size") (ov1 (Str.ofString "waiting") (ov1 (Str.ofString "lead") m8 (some (.int ld tl))) (some (.ref D))) (some (.int (S : Int) ts))) rfl rfl rfl ?_ ?_ ?_ ?_⟩
      · intro j m nx hJ4_3
        refine foldG9 ?_
        intro GG
        obtain ⟨m8, q2, nq3, hq2, rfl, rfl⟩ := hJ4_3
        dsimp only [GG]
        clear GG
        exact .head _
      · k_steps
        exact ⟨⟨_, _, _, _, rfl, rfl, by k_asm, by k_asm, ⟨_, [], _, .nil, rfl, ov3s _ _ _ _ rfl rfl rfl⟩⟩⟩
      · intro j v2 m₁ nx h tk I2 o2 hlt2 hv2 hJ5_10 off5 kF6 kN6
        refine foldG9 ?_
        intro GG
        obtain ⟨m8, q2, nq3, hq2, rfl, rfl⟩ := hJ5_10
        dsimp only [GG]
        clear GG
        try dsimp only at kF6 kN6
        have hM5 := hMD.addIn (a := I2) (o := o2) off5 (fun p hp => by
          rcases List.mem_cons.mp hp with rfl | hp
          · exact .head _
          · exact .tail _ (hsubI _ _ p hp)) (.tail _ (.tail _ (.tail _ (.head _))))
        have hq2l : q2.length < 1000 := by rw [hq2.length, List.length_take, List.length_map, line_len]; omega
        obtain ⟨y, ty, rfl, hy⟩ := hys.item j v2 hv2
        k_steps
        (with_reducible rename News g1 _ _ ((I2, o2) :: _) => kN7)
        refine ⟨?_⟩
        k_dflt (refine' wpAny_call (qpush hM5 q2 nq3 _ _ hq2l _ _ _ _ _ _ _ _ _ _ _ _ _ _ _ _ _ (by k_asm) (by k_asm) (by k_asm) (news_up [_, _, _, _] kN7) (by k_asm) (by first | exact rfl | assumption) (by ktr_room) (by ktr_units) (by assumption) ?_))
        intro h9 tk9 F9 N9
        have kN8 := news_dn [_, _, _, _] N9
        clear N9
        (try simp only [List.cons_append, List.nil_append] at kN8)
        (try dsimp only)
        (try k_sweep)
        (try k_fold)
        k_steps
        exact ⟨⟨_, _, _, _, rfl, Fr.cast' (by k_asm) (ov3s (Str.ofString "size") (Str.ofString "waiting") (Str.ofString "lead") _ rfl rfl rfl), kN8, off_swap [_, _, _] off5, ⟨_, _, _, strs_take hys hv2 hq2, rfl, rfl⟩⟩⟩
      · intro m₁ nx h tk hJ6_4 kF6 kN6
        refine foldG9 ?_
        intro GG
        obtain ⟨m8, q2, nq3, hq2, rfl, rfl⟩ := hJ6_4
        dsimp only [GG]
        clear GG
        try dsimp only at kF6 kN6
        rw [List.take_of_length_le (by rw [List.length_map, line_len]; omega)] at hq2
        k_steps
        (with_reducible rename Fr g1 _ _ _ => kF8)
        refine ⟨lforList (g := g1) D ys ys.length (fun j m nx => ∃ (m7 : Str → Option Value) (q3 : List Value) (nq4 : Nat), StrsAre q3 (((lineL ns i).map wordOf) ++ (((lineL ns i).map fun v => Builtin.bitXor v ld).map wordOf).take j) ∧ nx = (D, LCg.lst ys) :: (I, o) :: (L1 + 1, oX) :: (pb, W.listOf q3.toArray nq4) :: (x, instObj 86 d) :: (d, mDict w line st pb k1 k2 k3 k4 k5 k6) :: (l, W.listOf its.toArray n) :: R ∧ m = ov1 (Str.ofString "size") (ov1 (Str.ofString "lead") m7 (some (.int ld tl))) (some (.int (S : Int) ts))) rfl rfl rfl ?_ ?_ ?_ ?_⟩
        · intro j m nx hJ7_3
          refine foldG9 ?_
          intro GG
          obtain ⟨m8, q2, nq3, hq2, rfl, rfl⟩ := hJ7_3
          dsimp only [GG]
          clear GG
          exact .head _
        · k_steps
          exact ⟨⟨_, _, _, _, rfl, rfl, by k_asm, by k_asm, ⟨_, q2, _, (by rw [List.take_zero, List.append_nil]; exact hq2), rfl, ov2s _ _ _ rfl rfl⟩⟩⟩
        · intro j v2 m₁ nx h tk I2 o2 hlt2 hv2 hJ8_10 off5 kF6 kN6
          refine foldG9 ?_
          intro GG
          obtain ⟨m7, q3, nq4, hq3, rfl, rfl⟩ := hJ8_10
          dsimp only [GG]
          clear GG
          try dsimp only at kF6 kN6
          have hM5 := hMD.addIn (a := I2) (o := o2) off5 (fun p hp => by
            rcases List.mem_cons.mp hp with rfl | hp
            · exact .head _
            · exact .tail _ (hsubI _ _ p hp)) (.tail _ (.tail _ (.tail _ (.head _))))
          have hq3l : q3.length < 1000 := by rw [hq3.length, List.length_append, List.length_take, List.length_map, List.length_map, List.length_map, line_len]; omega
          obtain ⟨y, ty, rfl, hy⟩ := hys.item j v2 hv2
          rw [List.getElem?_map, Option.map_eq_some_iff] at hy
          obtain ⟨a1, ha1, rfl⟩ := hy
          have hab := hbnd i a1 (List.mem_of_getElem? ha1)
          have hxr := xor_nat hab (hb ld (List.mem_of_getElem? hld))
          dsimp only [wordOf] at hv2
          k_steps
          (with_reducible rename News g1 _ _ ((I2, o2) :: _) => kN7)
          refine ⟨?_⟩
          k_dflt (refine' wpAny_call (qpush hM5 q3 nq4 _ _ hq3l _ _ _ _ _ _ _ _ _ _ _ _ _ _ _ _ _ (by k_asm) (by k_asm) (by k_asm) (news_up [_, _, _, _] kN7) (by k_asm) (by first | exact rfl | assumption) (by ktr_room) (by ktr_units) (by assumption) ?_))
          intro h9 tk9 F9 N9
          have kN8 := news_dn [_, _, _, _] N9
          clear N9
          (try simp only [List.cons_append, List.nil_append] at kN8)
          (try dsimp only)
          (try k_sweep)
          (try k_fold)
          k_steps
          exact ⟨⟨_, _, _, _, rfl, Fr.cast' (by k_asm) (ov2s (Str.ofString "size") (Str.ofString "lead") _ rfl rfl), kN8, off_swap [_, _, _] off5, ⟨_, _, _, strs_xor ha1 hab hq3, rfl, rfl⟩⟩⟩
        · intro m₁ nx h tk hJ9_4 kF7 kN7
          refine foldG9 ?_
          intro GG
          obtain ⟨m7, q3, nq4, hq3, rfl, rfl⟩ := hJ9_4
          dsimp only [GG]
          clear GG
          try dsimp only at kF7 kN7
          k_steps
          (with_reducible rename Fr g1 _ _ (fun _ => _) => kG)
          (with_reducible rename News g1 _ _ ((D, LCg.lst ys) :: _) => kM)
          exact ⟨⟨_, _, _, (L1 + 1, oX) :: (pb, W.listOf q3.toArray nq4) :: (x, instObj 86 d) :: (d, mDict w line st pb k1 k2 k3 k4 k5 k6) :: (l, W.listOf its.toArray n) :: R, rfl, Fr.cast' kG (ov1s (Str.ofString "size") _ ((if_pos rfl).trans (congrArg some (congrArg (fun z => Value.int z _) (Int.natCast_mul 2 S).symm)))), fun p hp => kM p (.tail _ hp), off_swap [_] off,
            ⟨2 * S, _, _, _, _, by rw [hS, Nat.pow_succ, Nat.mul_comm], by rw [lineL, List.map_append, ld_get hld]; rw [List.take_of_length_le (by rw [List.length_map, List.length_map, line_len]; omega)] at hq3; exact hq3, rfl, rfl⟩⟩⟩
  · intro m₁ nx h tk hJ10_4 kF2 kN3
    refine foldG9 ?_
    intro GG
    obtain ⟨S, m9, ts, q, nq', hS, hqs, rfl, rfl⟩ := hJ10_4
    dsimp only [GG]
    clear GG
    try dsimp only at kF2 kN3
    rw [hlen] at hS hqs
    subst hS
    k_steps
    (with_reducible rename News h₀ L _ _ => kN9)
    exact hret _ _ _ q _ hqs (by k_asm) (fun p hp => kN9 p (.tail _ hp))

theorem law_line_spec (w : World) (loose : List Str) (mean : ExcName → Option Value) (mg mb : Str → Option Value) (x d st pb l : Addr) (nq : Nat) (R : List (Addr × Obj)) (line : Int) (k1 k2 k3 k4 k5 k6 : Tok) (ns : List Int) (its : List Value) (n : Nat) (hi : IntsAre its ns) (hl : ns.length ≤ 5) (hb : ∀ v ∈ ns, 0 ≤ v ∧ v < 256) (hM : QM w loose mean mg mb x pb ((x, instObj 86 d) :: (d, mDict w line st pb k1 k2 k3 k4 k5 k6) :: (l, W.listOf its.toArray n) :: R)) :
    Asks 24 w loose mean mg mb 135 ((pb, W.listOf #[] nq) :: (x, instObj 86 d) :: (d, mDict w line st pb k1 k2 k3 k4 k5 k6) :: (l, W.listOf its.toArray n) :: R) [.ref x, .ref l] (fun h₀ L m s Q => ∀ (h' : Heap) (tk' : Nat) (t : Tok) (q : List Value) (nq' : Nat), StrsAre q ((lineL ns ns.length).map wordOf) → Fr h₀ L h' m →
      News h₀ L h' ((pb, W.listOf q.toArray nq') :: (x, instObj 86 d) :: (d, mDict w line st pb k1 k2 k3 k4 k5 k6) :: (l, W.listOf its.toArray n) :: R) → Q (.int ((2 ^ ns.length : Nat) : Int) t) { s with heap := h', toks := tk' }) :=
  fun dp un gd cn cs a ccd cl outer A₀ base h₀ L m s Q E => Classical.choose_spec law_line_spec_K.ex9 law_line_spec_at ((w, loose, mean, mg, mb, dp, un, gd, cn, cs, a, ccd, cl, outer, A₀, base, h₀, L, m, s, Q, E), x, d, st, pb, l, nq, R, line, k1, k2, k3, k4, k5, k6, ns, its, n) hi hl hb hM
end

section
theorem cnt_mem : ∀ {ns : List Int} {x : Int}, ns.Pairwise (· ≤ ·) → x ∈ ns → cntLt x ns < ns.length ∧ ns.getD (cntLt x ns) 0 = x
  | a :: ns, x, hs, hx => by
    have hs1 := List.pairwise_cons.mp hs
    unfold cntLt
    by_cases h : a < x
    · rw [List.countP_cons_of_pos (by exact decide_eq_true h), List.length_cons, List.getD_cons_succ]
      have hx' : x ∈ ns := by
        rcases List.mem_cons.mp hx with h1 | h1
        · omega
        · exact h1
      have := cnt_mem hs1.2 hx'
      unfold cntLt at this
      exact ⟨by omega, this.2⟩
    · have hz : ns.countP (fun b => decide (b < x)) = 0 := by
        rw [List.countP_eq_zero]
        intro b hb
        rw [decide_eq_true_eq]
        have := hs1.1 b hb
        omega
      rw [List.countP_cons_of_neg (by rw [decide_eq_true_eq]; exact h), hz, List.getD_cons_zero]
      refine ⟨by rw [List.length_cons]; omega, ?_⟩
      rcases List.mem_cons.mp hx with h1 | h1
      · exact h1.symm
      · have := hs1.1 x h1; omega
theorem mem_cnt {ns : List Int} {x : Int} (h : cntLt x ns < ns.length) (h2 : ns.getD (cntLt x ns) 0 = x) : x ∈ ns := by
  rw [List.getD_eq_getElem?_getD, List.getElem?_eq_getElem h] at h2
  have h3 : ns[cntLt x ns] = x := h2
  exact h3 ▸ List.getElem_mem h
theorem mem_insR {x a : Int} {ns : List Int} : a ∈ insR x ns ↔ a = x ∨ a ∈ ns := by
  unfold insR
  rw [List.mem_append, List.mem_cons]
  constructor
  · rintro (h | h | h)
    · exact .inr (List.mem_of_mem_take h)
    · exact .inl h
    · exact .inr (List.mem_of_mem_drop h)
  · rintro (h | h)
    · exact .inr (.inl h)
    · rw [← List.take_append_drop (ns.countP fun a => decide (a ≤ x)) ns, List.mem_append] at h
      rcases h with h | h
      · exact .inl h
      · exact .inr (.inr h)
theorem insR_len (x : Int) (ns : List Int) : (insR x ns).length = ns.length + 1 := by
  unfold insR
  rw [List.length_append, List.length_cons, List.length_take, List.length_drop]
  omega
theorem insR_sorted {x : Int} : ∀ {ns : List Int}, ns.Pairwise (· ≤ ·) → (insR x ns).Pairwise (· ≤ ·)
  | [], _ => List.pairwise_singleton _ _
  | a :: ns, hs => by
    have hs1 := List.pairwise_cons.mp hs
    by_cases h : a ≤ x
    · have ih := insR_sorted (x := x) hs1.2
      have e : insR x (a :: ns) = a :: insR x ns := by
        unfold insR
        rw [List.countP_cons_of_pos (by exact decide_eq_true h), List.take_succ_cons, List.drop_succ_cons]; rfl
      rw [e, List.pairwise_cons]
      refine ⟨fun b hb => ?_, ih⟩
      rcases mem_insR.mp hb with h1 | h1
      · omega
      · exact hs1.1 b h1
    · have hz : ns.countP (fun b => decide (b ≤ x)) = 0 := by
        rw [List.countP_eq_zero]
        intro b hb
        rw [decide_eq_true_eq]
        have := hs1.1 b hb
        omega
      have e : insR x (a :: ns) = x :: a :: ns := by
        unfold insR
        rw [List.countP_cons_of_neg (by rw [decide_eq_true_eq]; exact h), hz, List.take_zero, List.drop_zero]; rfl
      rw [e, List.pairwise_cons]
      refine ⟨fun b hb => ?_, hs⟩
      rcases List.mem_cons.mp hb with h1 | h1
      · omega
      · have := hs1.1 b h1; omega
/-- the numbers kept after i of the line -/
noncomputable def keptL (L shut : List Int) : Nat → List Int
  | 0 => []
  | i + 1 => if ∀ b ∈ shut, Builtin.bitXor (L.getD i 0) b ∉ keptL L shut i then keptL L shut i ++ [L.getD i 0] else keptL L shut i
/-- the row after i of the line -/
noncomputable def rowL (L shut : List Int) : Nat → List Int
  | 0 => []
  | i + 1 => if ∀ b ∈ shut, Builtin.bitXor (L.getD i 0) b ∉ keptL L shut i then insR (L.getD i 0) (rowL L shut i) else rowL L shut i
theorem row_mem {L shut : List Int} {x : Int} : ∀ i, x ∈ rowL L shut i ↔ x ∈ keptL L shut i
  | 0 => Iff.rfl
  | i + 1 => by
    rw [rowL, keptL]
    split
    · rw [mem_insR, List.mem_append, List.mem_singleton, row_mem i, Or.comm]
    · exact row_mem i
theorem row_len (L shut : List Int) : ∀ i, (rowL L shut i).length = (keptL L shut i).length ∧ (keptL L shut i).length ≤ i
  | 0 => ⟨rfl, Nat.le_refl _⟩
  | i + 1 => by
    have ih := row_len L shut i
    rw [rowL, keptL]
    split
    · rw [insR_len, List.length_append, List.length_singleton]; exact ⟨by omega, by omega⟩
    · exact ⟨ih.1, by omega⟩
theorem row_sorted (L shut : List Int) : ∀ i, (rowL L shut i).Pairwise (· ≤ ·)
  | 0 => .nil
  | i + 1 => by
    have ih := row_sorted L shut i
    rw [rowL]
    split
    · exact insR_sorted ih
    · exact ih
end

section
set_option maxHeartbeats 4000000 in
set_option maxRecDepth 100000 in
theorem ov4s (a b c d : Str) (M : Str → Option Value) {v1 v2 v3 v4 : Option Value} (h1 : M a = v1) (h2 : M b = v2) (h3 : M c = v3) (h4 : M d = v4) : M = ov1 a (ov1 b (ov1 c (ov1 d M v4) v3) v2) v1 := by
  subst h1; subst h2; subst h3; subst h4
  rw [← ov1_self d M, ← ov1_self c M, ← ov1_self b M, ← ov1_self a M]
theorem ov6s (a b c d e f : Str) (M : Str → Option Value) {v1 v2 v3 v4 v5 v6 : Option Value} (h1 : M a = v1) (h2 : M b = v2) (h3 : M c = v3) (h4 : M d = v4) (h5 : M e = v5) (h6 : M f = v6) : M = ov1 a (ov1 b (ov1 c (ov1 d (ov1 e (ov1 f M v6) v5) v4) v3) v2) v1 := by
  subst h1; subst h2; subst h3; subst h4; subst h5; subst h6
  rw [← ov1_self f M, ← ov1_self e M, ← ov1_self d M, ← ov1_self c M, ← ov1_self b M, ← ov1_self a M]
theorem law_num_of (w : World) (loose : List Str) (mean : ExcName → Option Value) (mg mb : Str → Option Value) (rest : List (Addr × Obj)) (a : Int) (tv : Tok) (h : 0 ≤ a ∧ a < 256) :
    Asks 10 w loose mean mg mb 123 rest [.str (wordOf a) tv] (fun h₀ L m s Q => ∀ (h' : Heap) (tk' : Nat) (t : Tok), Fr h₀ L h' m → News h₀ L h' rest → Q (.int a t) { s with heap := h', toks := tk' }) := by
  have := law_number_spec w loose mean mg mb rest (hx a.natAbs) tv (hx_ok h).1 (hx_ok h).2
  rw [num_of h] at this
  exact this
theorem bisect_left_k {w : World} {loose : List Str} {mean : ExcName → Option Value} {mg mb : Str → Option Value} (led : List (Addr × Obj)) (l : Addr) (ns : List Int) (its : List Value) (n : Nat) (x : Int) (tx : Tok) :
    AsksH 10 w loose mean mg mb 41 led [.ref l, .int x tx] ((l, W.listOf its.toArray n) ∈ led ∧ IntsAre its ns ∧ ns.length < 64 ∧ ns.Pairwise (· ≤ ·)) (fun h₀ L m s Q => ∀ (h' : Heap) (tk' : Nat) (t : Tok), Fr h₀ L h' m → News h₀ L h' led → Q (.int (cntLt x ns : Nat) t) { s with heap := h', toks := tk' }) :=
  bisect_left_h led l ns its n x tx tx
theorem getD_at {L : List Int} {i : Nat} (h : i < L.length) : L.getD i 0 = L[i] := by rw [List.getD_eq_getElem?_getD, List.getElem?_eq_getElem h]; rfl
theorem kept_brk {L ns : List Int} {i : Nat} (h : i < L.length) {b : Int} {j : Nat} (hb : ns[j]? = some b) (h1 : ((cntLt (Builtin.bitXor L[i] b) (rowL L ns i) : Nat) : Int) < ((rowL L ns i).length : Nat))
    (h2 : (rowL L ns i).getD ((cntLt (Builtin.bitXor L[i] b) (rowL L ns i) : Nat) : Int).toNat 0 = Builtin.bitXor L[i] b) : keptL L ns (i + 1) = keptL L ns i ∧ rowL L ns (i + 1) = rowL L ns i := by
  have hm := (row_mem i).mp (mem_cnt (by omega) h2)
  have hn : ¬ ∀ b ∈ ns, Builtin.bitXor (L.getD i 0) b ∉ keptL L ns i := fun h3 => by
    have := h3 b (List.mem_of_getElem? hb)
    rw [getD_at h] at this
    exact this hm
  rw [keptL, rowL, if_neg hn, if_neg hn]; exact ⟨rfl, rfl⟩
theorem no_step {L ns : List Int} {i j : Nat} {v b : Int} (hb : ns[j]? = some b) (hno : ∀ b ∈ ns.take j, Builtin.bitXor v b ∉ keptL L ns i)
    (h : ¬ ((cntLt (Builtin.bitXor v b) (rowL L ns i) : Nat) : Int) < ((rowL L ns i).length : Nat) ∨ (rowL L ns i).getD ((cntLt (Builtin.bitXor v b) (rowL L ns i) : Nat) : Int).toNat 0 ≠ Builtin.bitXor v b) :
    ∀ b ∈ ns.take (j + 1), Builtin.bitXor v b ∉ keptL L ns i := by
  intro b' hb'
  rw [take_succ_get hb, List.mem_append, List.mem_singleton] at hb'
  rcases hb' with hb' | rfl
  · exact hno b' hb'
  · intro hm
    have := cnt_mem (row_sorted L ns i) ((row_mem i).mpr hm)
    rcases h with h | h
    · omega
    · exact h this.2
theorem kept_in {L ns : List Int} {i n : Nat} (h : i < L.length) (hn : n = ns.length) (hno : ∀ b ∈ ns.take n, Builtin.bitXor L[i] b ∉ keptL L ns i) : keptL L ns (i + 1) = keptL L ns i ++ [L[i]] ∧ rowL L ns (i + 1) = insR L[i] (rowL L ns i) := by
  subst hn
  rw [List.take_length, ← getD_at h] at hno
  rw [keptL, rowL, if_pos hno, if_pos hno, getD_at h]; exact ⟨rfl, rfl⟩
namespace law_chosen_spec_K
noncomputable def P9 (w : World) (loose : List Str) (mean : ExcName → Option Value) (mg : Str → Option Value) (mb : Str → Option Value) (dp : Nat) (un : Nat) (gd : Option (List Code)) (cn : Str) (cs : Scope) (a : Addr) (ccd : Value) (cl : List (Str × Addr)) (outer : List Env) (A₀ : Around) (base : Heap) (h₀ : Heap) (L : Addr) (m : Str → Option Value) (s : Shared) (Q : Value → Shared → Prop) (E : Value → Shared → Prop) (x : Addr) (d : Addr) (st : Addr) (pb : Addr) (l : Addr) (nq : Nat) (R : List (Addr × Obj)) (line : Int) (k1 : Tok) (k2 : Tok) (k3 : Tok) (k4 : Tok) (k5 : Tok) (k6 : Tok) (tz : Tok) (ns : List Int) (L0 : List Int) (its : List Value) (q0 : List Value) (n : Nat) : Prop :=
  (hi : IntsAre its ns) → (hl : ns.length < 64) → (hL : L0.length ≤ 32) → (hLb : ∀ v ∈ L0, 0 ≤ v ∧ v < 256) → (hq0 : StrsAre q0 (L0.map wordOf)) → (hM : QM w loose mean mg mb x pb ((x, instObj 86 d) :: (d, mDict w line st pb k1 k2 k3 k4 k5 k6) :: (l, W.listOf its.toArray n) :: R)) → AskV 24 w loose mean mg mb 142 ((pb, W.listOf q0.toArray nq) :: (x, instObj 86 d) :: (d, mDict w line st pb k1 k2 k3 k4 k5 k6) :: (l, W.listOf its.toArray n) :: R) [.ref x, .int (L0.length : Nat) tz, .ref l] (fun h₀ L m s Q => ∀ (h' : Heap) (tk' : Nat) (D : Addr) (q rits : List Value) (nq' nr : Nat), StrsAre q ((keptL L0 ns L0.length).map wordOf) → IntsAre rits (rowL L0 ns L0.length) → pb ≠ D → (∀ p ∈ (x, instObj 86 d) :: (d, mDict w line st pb k1 k2 k3 k4 k5 k6) :: (l, W.listOf its.toArray n) :: R, p.1 ≠ D) → Fr h₀ L h' m →
      News h₀ L h' ((D, W.listOf rits.toArray nr) :: (pb, W.listOf q.toArray nq') :: (x, instObj 86 d) :: (d, mDict w line st pb k1 k2 k3 k4 k5 k6) :: (l, W.listOf its.toArray n) :: R) → Q (.ref D) { s with heap := h', toks := tk' }) dp un gd cn cs a ccd cl outer A₀ base h₀ L m s Q E
noncomputable def PV9 (v : K9 × (Addr) × (Addr) × (Addr) × (Addr) × (Addr) × (Nat) × (List (Addr × Obj)) × (Int) × (Tok) × (Tok) × (Tok) × (Tok) × (Tok) × (Tok) × (Tok) × (List Int) × (List Int) × (List Value) × (List Value) × (Nat)) : Prop := P9 v.1.1 v.1.2.1 v.1.2.2.1 v.1.2.2.2.1 v.1.2.2.2.2.1 v.1.2.2.2.2.2.1 v.1.2.2.2.2.2.2.1 v.1.2.2.2.2.2.2.2.1 v.1.2.2.2.2.2.2.2.2.1 v.1.2.2.2.2.2.2.2.2.2.1 v.1.2.2.2.2.2.2.2.2.2.2.1 v.1.2.2.2.2.2.2.2.2.2.2.2.1 v.1.2.2.2.2.2.2.2.2.2.2.2.2.1 v.1.2.2.2.2.2.2.2.2.2.2.2.2.2.1 v.1.2.2.2.2.2.2.2.2.2.2.2.2.2.2.1 v.1.2.2.2.2.2.2.2.2.2.2.2.2.2.2.2.1 v.1.2.2.2.2.2.2.2.2.2.2.2.2.2.2.2.2.1 v.1.2.2.2.2.2.2.2.2.2.2.2.2.2.2.2.2.2.1 v.1.2.2.2.2.2.2.2.2.2.2.2.2.2.2.2.2.2.2.1 v.1.2.2.2.2.2.2.2.2.2.2.2.2.2.2.2.2.2.2.2.1 v.1.2.2.2.2.2.2.2.2.2.2.2.2.2.2.2.2.2.2.2.2.1 v.1.2.2.2.2.2.2.2.2.2.2.2.2.2.2.2.2.2.2.2.2.2 v.2.1 v.2.2.1 v.2.2.2.1 v.2.2.2.2.1 v.2.2.2.2.2.1 v.2.2.2.2.2.2.1 v.2.2.2.2.2.2.2.1 v.2.2.2.2.2.2.2.2.1 v.2.2.2.2.2.2.2.2.2.1 v.2.2.2.2.2.2.2.2.2.2.1 v.2.2.2.2.2.2.2.2.2.2.2.1 v.2.2.2.2.2.2.2.2.2.2.2.2.1 v.2.2.2.2.2.2.2.2.2.2.2.2.2.1 v.2.2.2.2.2.2.2.2.2.2.2.2.2.2.1 v.2.2.2.2.2.2.2.2.2.2.2.2.2.2.2.1 v.2.2.2.2.2.2.2.2.2.2.2.2.2.2.2.2.1 v.2.2.2.2.2.2.2.2.2.2.2.2.2.2.2.2.2.1 v.2.2.2.2.2.2.2.2.2.2.2.2.2.2.2.2.2.2.1 v.2.2.2.2.2.2.2.2.2.2.2.2.2.2.2.2.2.2.2.1 v.2.2.2.2.2.2.2.2.2.2.2.2.2.2.2.2.2.2.2.2
theorem ex9 : ∃ c, PV9 c → ∀ v, PV9 v := sk9 ⟨(Classical.choice ne9, default, default, default, default, default, default, default, default, default, default, default, default, default, default, default, default, default, default, default, default)⟩ PV9
noncomputable def c9 : K9 × (Addr) × (Addr) × (Addr) × (Addr) × (Addr) × (Nat) × (List (Addr × Obj)) × (Int) × (Tok) × (Tok) × (Tok) × (Tok) × (Tok) × (Tok) × (Tok) × (List Int) × (List Int) × (List Value) × (List Value) × (Nat) := Classical.choose ex9
noncomputable def w : World := c9.1.1
noncomputable def loose : List Str := c9.1.2.1
noncomputable def mean : ExcName → Option Value := c9.1.2.2.1
noncomputable def mg : Str → Option Value := c9.1.2.2.2.1
noncomputable def mb : Str → Option Value := c9.1.2.2.2.2.1
noncomputable def a : Addr := c9.1.2.2.2.2.2.2.2.2.2.2.1
noncomputable def h₀ : Heap := c9.1.2.2.2.2.2.2.2.2.2.2.2.2.2.2.2.2.1
noncomputable def L : Addr := c9.1.2.2.2.2.2.2.2.2.2.2.2.2.2.2.2.2.2.1
noncomputable def m : Str → Option Value := c9.1.2.2.2.2.2.2.2.2.2.2.2.2.2.2.2.2.2.2.1
noncomputable def s : Shared := c9.1.2.2.2.2.2.2.2.2.2.2.2.2.2.2.2.2.2.2.2.1
noncomputable def Q : Value → Shared → Prop := c9.1.2.2.2.2.2.2.2.2.2.2.2.2.2.2.2.2.2.2.2.2.1
noncomputable def E : Value → Shared → Prop := c9.1.2.2.2.2.2.2.2.2.2.2.2.2.2.2.2.2.2.2.2.2.2
noncomputable def x : Addr := c9.2.1
noncomputable def d : Addr := c9.2.2.1
noncomputable def st : Addr := c9.2.2.2.1
noncomputable def pb : Addr := c9.2.2.2.2.1
noncomputable def l : Addr := c9.2.2.2.2.2.1
noncomputable def nq : Nat := c9.2.2.2.2.2.2.1
noncomputable def R : List (Addr × Obj) := c9.2.2.2.2.2.2.2.1
noncomputable def line : Int := c9.2.2.2.2.2.2.2.2.1
noncomputable def k1 : Tok := c9.2.2.2.2.2.2.2.2.2.1
noncomputable def k2 : Tok := c9.2.2.2.2.2.2.2.2.2.2.1
noncomputable def k3 : Tok := c9.2.2.2.2.2.2.2.2.2.2.2.1
noncomputable def k4 : Tok := c9.2.2.2.2.2.2.2.2.2.2.2.2.1
noncomputable def k5 : Tok := c9.2.2.2.2.2.2.2.2.2.2.2.2.2.1
noncomputable def k6 : Tok := c9.2.2.2.2.2.2.2.2.2.2.2.2.2.2.1
noncomputable def tz : Tok := c9.2.2.2.2.2.2.2.2.2.2.2.2.2.2.2.1
noncomputable def ns : List Int := c9.2.2.2.2.2.2.2.2.2.2.2.2.2.2.2.2.1
noncomputable def L0 : List Int := c9.2.2.2.2.2.2.2.2.2.2.2.2.2.2.2.2.2.1
noncomputable def its : List Value := c9.2.2.2.2.2.2.2.2.2.2.2.2.2.2.2.2.2.2.1
noncomputable def q0 : List Value := c9.2.2.2.2.2.2.2.2.2.2.2.2.2.2.2.2.2.2.2.1
noncomputable def n : Nat := c9.2.2.2.2.2.2.2.2.2.2.2.2.2.2.2.2.2.2.2.2
end law_chosen_spec_K
open law_chosen_spec_K in
set_option maxHeartbeats 4000000 in
set_option maxRecDepth 100000 in
theorem law_chosen_spec_at : P9 w loose mean mg mb (c9.1.2.2.2.2.2.1) (c9.1.2.2.2.2.2.2.1) (c9.1.2.2.2.2.2.2.2.1) (c9.1.2.2.2.2.2.2.2.2.1) (c9.1.2.2.2.2.2.2.2.2.2.1) a (c9.1.2.2.2.2.2.2.2.2.2.2.2.1) (c9.1.2.2.2.2.2.2.2.2.2.2.2.2.1) (c9.1.2.2.2.2.2.2.2.2.2.2.2.2.2.1) (c9.1.2.2.2.2.2.2.2.2.2.2.2.2.2.2.1) (c9.1.2.2.2.2.2.2.2.2.2.2.2.2.2.2.2.1) h₀ L m s Q E x d st pb l nq R line k1 k2 k3 k4 k5 k6 tz ns L0 its q0 n := by
  k_with_none
  w_top off
  intro hi hl hL hLb hq0 hM B F X N T hk hdp hun codeHd hret
  have fill9 : Challenge.rw_sr0027_01 = Challenge.rw_sr0027_01 ∧ hd.heap_39 = hd.heap_39 := by k_fill; exact ⟨rfl, rfl⟩
  k_dflt (refine' code_def ?k1 ?k2 ?k3 ?k4 ?k5 ?kA ?kF ?kK ?k6 ?k7 ?k8 ?k9 ?kB ?_ ?c2 ?c3 ?c4 ?c5; (case kA => exact rfl); (case kF => exact rfl); (case kK => first | exact rfl | assumption); (case k1 => k_asm); (case k2 => k_asm); (case k3 => k_asm); (case k4 => k_asm); (case k5 => k_asm); (case k6 => k_is); (case k7 => k_is); (case k8 => ktr_room); (case k9 => first | exact BindsTo.of_eq rfl | exact binds_K (by k_in) rfl (by k_is) rfl rfl rfl | (refine' kp_binds ?kx ?ke; (case kx => k_in); (case ke => exact fun _ => rfl)) | fail "k9"); (case c5 => decide); (case kB => exact locs rfl); (case c2 => exact rfl); (case c3 => exact rfl); (case c4 => exact rfl))
  intro g1 L1 hh1 FG1 F1 N1 B1 X1 T1
  (try dsimp only); (try k_fold)
  have hq := hM.off
  have hlen := hi.length
  (k_with "call ref" => ((with_reducible show wpAny _ _ (call (Value.ref 123) _) _ _ _); k_dflt (refine' wpAny_call (law_num_of w loose mean mg mb _ _ _ (by assumption) _ _ _ _ _ _ _ _ _ _ _ _ _ _ _ _ _ (by k_asm) (by k_asm) (by k_asm) (by k_asm) (by k_asm) (by first | exact rfl | assumption) (by ktr_room) (by ktr_units) (by assumption) ?_)); intro h' tk' t9 F9 N9; (try dsimp only); (try k_sweep); (try k_fold)))
  (k_with "call ref" => ((with_reducible show wpAny _ _ (call (Value.ref 41) _) _ _ _); k_dflt (refine' wpAny_call (bisect_left_k _ _ _ _ _ _ _ _ _ _ _ _ _ _ _ _ _ _ _ _ _ _ _ _ (by k_asm) (by k_asm) (by k_asm) (by k_asm) ⟨by k_mem, by assumption, by omega, by assumption⟩ (by k_asm) (by first | exact rfl | assumption) (by ktr_room) (by ktr_units) (by assumption) ?_)); intro h' tk' t9 F9 N9; (try dsimp only); (try k_sweep); (try k_fold)))
  (k_with "call ref" => ((with_reducible show wpAny _ _ (call (Value.ref 76) _) _ _ _); refine Halt.h ?_))
  (k_with "call ref" => ((with_reducible show wpAny _ _ (call (Value.ref 83) _) _ _ _); refine Halt.h ?_))
  (k_with "call ref" => ((with_reducible show wpAny _ _ (call (Value.ref 23) _) _ _ _); refine Halt.h ?_))
  (k_with "exec For Name Name cons nil" => (refine Halt.h ?_))
  (k_with "exec For Name Call cons nil" => (refine Halt.h ?_))
  k_steps
  (with_reducible rename Fr g1 _ _ _ => kF)
  (with_reducible rename News g1 _ _ ((_, W.listOf #[] 0) :: _) => kN)
  obtain ⟨RA, m0, hD, kF, kN⟩ : ∃ (RA : Addr) (m0 : Str → Option Value), AllLt RA ((pb, W.listOf q0.toArray nq) :: (x, instObj 86 d) :: (d, mDict w line st pb k1 k2 k3 k4 k5 k6) :: (l, W.listOf its.toArray n) :: R) ∧ Fr g1 L1 _ (ov1 (Str.ofString "row") (ov1 (Str.ofString "shut") (ov1 (Str.ofString "machine") (ov1 (Str.ofString "size") m0 (some (.int (L0.length : Nat) tz))) (some (.ref x))) (some (.ref l))) (some (.ref RA))) ∧ News g1 L1 _ ((RA, W.listOf #[] 0) :: (pb, W.listOf q0.toArray nq) :: (x, instObj 86 d) :: (d, mDict w line st pb k1 k2 k3 k4 k5 k6) :: (l, W.listOf its.toArray n) :: R) := ⟨_, _, by assumption, Fr.cast' kF (ov4s _ _ _ _ _ rfl rfl rfl rfl), kN⟩
  refine ⟨lforRange (g := g1) 0 L0.length (fun i m nx => ∃ (m9 : Str → Option Value) (rits q : List Value) (nr nq' : Nat), IntsAre rits (rowL L0 ns i) ∧ StrsAre q ((L0.drop i).map wordOf ++ (keptL L0 ns i).map wordOf) ∧ nx = (RA, W.listOf rits.toArray nr) :: (pb, W.listOf q.toArray nq') :: (x, instObj 86 d) :: (d, mDict w line st pb k1 k2 k3 k4 k5 k6) :: (l, W.listOf its.toArray n) :: R ∧
    m = ov1 (Str.ofString "row") (ov1 (Str.ofString "shut") (ov1 (Str.ofString "machine") m9 (some (.ref x))) (some (.ref l))) (some (.ref RA))) rfl rfl rfl ?_ ?_ ?_⟩
  · k_steps
    exact ⟨⟨_, _, _, _, _, _, _, _, _, rfl, rfl, by assumption, small_one (by decide) (by decide) (by omega) (by omega), rangeSize_nat _ _, by k_asm, by k_asm, ⟨_, [], q0, _, _, .nil, by rw [List.drop_zero]; exact (by rw [keptL, List.map_nil, List.append_nil]; exact hq0), rfl, by first | exact rfl | exact ov3s _ _ _ _ rfl rfl rfl⟩⟩⟩
  · intro i t m₁ nx h tk I o hin hJ0_9 off kF2 kN2
    refine foldG9 ?_
    intro GG
    obtain ⟨m9, rits, q, nr, nq', hri, hqs, rfl, rfl⟩ := hJ0_9
    dsimp only [GG]
    clear GG
    have hrl := row_len L0 ns i
    have hrs := row_sorted L0 ns i
    try dsimp only at kF2 kN2 off
    have hDI := off _ (.head _)
    have hMI := fun (ob : Obj) => (hM.add (a := RA) (o := ob) (fun p hp => allLt_ne hD (Nat.le_refl _) p (.tail _ hp)) (allLt_ne hD (Nat.le_refl _) _ (.head _))).add (a := I) (o := o) (fun p hp => by
      rcases List.mem_cons.mp hp with rfl | hp
      · exact hDI
      · exact off p (.tail _ (.tail _ hp))) (off _ (.tail _ (.head _)))
    try dsimp only at hMI hDI
    have hvb := hLb _ (List.getElem_mem hin)
    rw [List.drop_eq_getElem_cons hin, List.map_cons, List.cons_append] at hqs
    obtain ⟨tw, q, rfl, hq2⟩ := hqs.cons_inv
    k_steps
    (with_reducible rename News g1 _ _ ((I, o) :: _) => kN3)
    have hql : q.length < 1000 := by
      rw [hq2.length, List.length_append, List.length_map, List.length_map, List.length_drop]; omega
    refine ⟨?_⟩
    k_dflt (refine' wpAny_call (qpop (hMI _) q nq' _ hql _ _ _ _ _ _ _ _ _ _ _ _ _ _ _ _ _ (by k_asm) (by k_asm) (by k_asm) (news_up [_, _] kN3) (by k_asm) (by first | exact rfl | assumption) (by ktr_room) (by ktr_units) (by assumption) ?_))
    intro h9 tk9 F9 N9
    have kN4 := news_dn [_, _] N9
    clear N9
    (try simp only [List.cons_append, List.nil_append] at kN4)
    (try dsimp only)
    (try k_sweep)
    (try k_fold)
    k_steps
    (with_reducible rename Fr g1 _ _ _ => kF5)
    refine ⟨lforList (g := g1) l its n (fun j m nx => ∃ (m8 : Str → Option Value) (tn tw' : Tok), (∀ b ∈ ns.take j, Builtin.bitXor L0[i] b ∉ keptL L0 ns i) ∧ nx = (I, o) :: (RA, W.listOf rits.toArray nr) :: (pb, W.listOf q.toArray (nq' + 1)) :: (x, instObj 86 d) :: (d, mDict w line st pb k1 k2 k3 k4 k5 k6) :: (l, W.listOf its.toArray n) :: R ∧
      m = ov1 (Str.ofString "row") (ov1 (Str.ofString "shut") (ov1 (Str.ofString "machine") (ov1 (Str.ofString "word") (ov1 (Str.ofString "number") (ov1 (Str.ofString "free") m8 (some (.bool true))) (some (.int L0[i] tn))) (some (.str (wordOf L0[i]) tw'))) (some (.ref x))) (some (.ref l))) (some (.ref RA))) rfl rfl rfl ?_ ?_ ?_ ?_⟩
    · intro j m nx hJ1_3
      refine foldG9 ?_
      intro GG
      obtain ⟨m8, tn, tw', hno, rfl, rfl⟩ := hJ1_3
      dsimp only [GG]
      clear GG
      exact .tail _ (.tail _ (.tail _ (.tail _ (.tail _ (.head _)))))
    · k_steps
      exact ⟨⟨_, _, _, _, rfl, rfl, by k_asm, by k_asm, ⟨_, _, _, (fun b hb => nomatch hb), rfl, ov6s _ _ _ _ _ _ _ rfl rfl rfl rfl rfl rfl⟩⟩⟩
    · intro j v2 m₁ nx h tk I2 o2 hj hv2 hJ2_10 off5 kF6 kN6
      refine foldG9 ?_
      intro GG
      obtain ⟨m8, tn, tw', hno, rfl, rfl⟩ := hJ2_10
      dsimp only [GG]
      clear GG
      try dsimp only at kF6 kN6
      obtain ⟨bn, tb, rfl, hbn⟩ := hi.at j v2 hv2
      k_steps
      · (with_reducible rename Fr g1 _ _ (fun _ => _) => kG)
        (with_reducible rename News g1 _ _ ((I2, o2) :: _) => kM)
        have hk := kept_brk hin hbn (by assumption) (by assumption)
        exact ⟨⟨_, _, _, (RA, W.listOf rits.toArray nr) :: (pb, W.listOf q.toArray (nq' + 1)) :: (x, instObj 86 d) :: (d, mDict w line st pb k1 k2 k3 k4 k5 k6) :: (l, W.listOf its.toArray n) :: R, rfl, Fr.cast' kG (ov3s (Str.ofString "row") (Str.ofString "shut") (Str.ofString "machine") _ rfl rfl rfl), fun p hp => kM p (.tail _ hp), off_swap [_] off,
          ⟨_, rits, q, nr, nq' + 1, by rw [hk.2]; exact hri, by rw [hk.1]; exact hq2, rfl, rfl⟩⟩⟩
      · (with_reducible rename Fr g1 _ _ (fun _ => _) => kG)
        (with_reducible rename News g1 _ _ ((I2, o2) :: _) => kM)
        exact ⟨⟨_, _, _, _, rfl, Fr.cast' kG (ov6s (Str.ofString "row") (Str.ofString "shut") (Str.ofString "machine") (Str.ofString "word") (Str.ofString "number") (Str.ofString "free") _ rfl rfl rfl rfl rfl rfl), kM, off5, ⟨_, _, _, no_step hbn hno (.inr (by assumption)), rfl, rfl⟩⟩⟩
      · (with_reducible rename Fr g1 _ _ (fun _ => _) => kG)
        (with_reducible rename News g1 _ _ ((I2, o2) :: _) => kM)
        exact ⟨⟨_, _, _, _, rfl, Fr.cast' kG (ov6s (Str.ofString "row") (Str.ofString "shut") (Str.ofString "machine") (Str.ofString "word") (Str.ofString "number") (Str.ofString "free") _ rfl rfl rfl rfl rfl rfl), kM, off5, ⟨_, _, _, no_step hbn hno (.inl (by assumption)), rfl, rfl⟩⟩⟩
    · intro m₁ nx h tk hJ3_4 kF6 kN6
      refine foldG9 ?_
      intro GG
      obtain ⟨m8, tn, tw', hno, rfl, rfl⟩ := hJ3_4
      dsimp only [GG]
      clear GG
      try dsimp only at kF6 kN6
      have hk := kept_in hin hlen hno
      k_steps
      (with_reducible rename News g1 _ _ ((I, o) :: _) => kN7)
      refine ⟨?_⟩
      k_dflt (refine' wpAny_call (insort_right_spec w loose mean mg mb ((I, o) :: (pb, W.listOf q.toArray (nq' + 1)) :: (x, instObj 86 d) :: (d, mDict w line st pb k1 k2 k3 k4 k5 k6) :: (l, W.listOf its.toArray n) :: R) _ (rowL L0 ns i) rits nr _ _ hri (by omega) hrs (fun p hp => by
        rcases List.mem_cons.mp hp with rfl | hp
        · exact Ne.symm hDI
        · exact off_swap [] (allLt_ne hD (Nat.le_refl _)) p hp) _ _ _ _ _ _ _ _ _ _ _ _ _ _ _ _ _ (by k_asm) (by k_asm) (by k_asm) (news_up [_] kN7) (by k_asm) (by first | exact rfl | assumption) (by ktr_room) (by ktr_units) (by assumption) ?_))
      intro h9 tk9 rits2 hri2 F9 N9
      have kN8 := news_dn [_] N9
      clear N9
      (try simp only [List.cons_append, List.nil_append] at kN8)
      (try dsimp only)
      (try k_sweep)
      (try k_fold)
      k_steps
      (with_reducible rename News g1 _ _ ((I, o) :: _) => kN9)
      refine ⟨?_⟩
      k_dflt (refine' wpAny_call (qpush (hMI _) q (nq' + 1) _ _ hql _ _ _ _ _ _ _ _ _ _ _ _ _ _ _ _ _ (by k_asm) (by k_asm) (by k_asm) (news_up [_, _] kN9) (by k_asm) (by first | exact rfl | assumption) (by ktr_room) (by ktr_units) (by assumption) ?_))
      intro h9 tk9 F9 N9
      have kN10 := news_dn [_, _] N9
      clear N9
      (try simp only [List.cons_append, List.nil_append] at kN10)
      (try dsimp only)
      (try k_sweep)
      (try k_fold)
      k_steps
      (with_reducible rename Fr g1 _ _ _ => kG)
      exact ⟨⟨_, _, _, (RA, W.listOf rits2.toArray (nr + 1)) :: (pb, W.listOf (q ++ [Value.str (wordOf L0[i]) _]).toArray (nq' + 1 + 1)) :: (x, instObj 86 d) :: (d, mDict w line st pb k1 k2 k3 k4 k5 k6) :: (l, W.listOf its.toArray n) :: R, rfl, Fr.cast' kG (ov3s (Str.ofString "row") (Str.ofString "shut") (Str.ofString "machine") _ rfl rfl rfl), kN10, off_swap [_] (off_swap [] off),
          ⟨_, rits2, _, nr + 1, nq' + 1 + 1, by rw [hk.2]; exact hri2, by rw [hk.1, List.map_append, ← List.append_assoc]; exact hq2.append' (.cons _ _ .nil), rfl, rfl⟩⟩⟩
  · intro m₁ nx h tk hJ4_4 kF2 kN2
    refine foldG9 ?_
    intro GG
    obtain ⟨m9, rits, q, nr, nq', hri, hqs, rfl, rfl⟩ := hJ4_4
    dsimp only [GG]
    clear GG
    try dsimp only at kF2 kN2
    rw [List.drop_eq_nil_of_le (Nat.le_refl _)] at hqs
    k_steps
    (with_reducible rename News h₀ L _ _ => kN9)
    exact hret _ _ _ q rits _ _ hqs hri (allLt_ne hD (Nat.le_refl _) _ (.head _)) (fun p hp => allLt_ne hD (Nat.le_refl _) p (.tail _ hp)) (by k_asm) kN9

theorem law_chosen_spec (w : World) (loose : List Str) (mean : ExcName → Option Value) (mg mb : Str → Option Value) (x d st pb l : Addr) (nq : Nat) (R : List (Addr × Obj)) (line : Int) (k1 k2 k3 k4 k5 k6 tz : Tok) (ns L0 : List Int) (its q0 : List Value) (n : Nat) (hi : IntsAre its ns) (hl : ns.length < 64) (hL : L0.length ≤ 32) (hLb : ∀ v ∈ L0, 0 ≤ v ∧ v < 256) (hq0 : StrsAre q0 (L0.map wordOf)) (hM : QM w loose mean mg mb x pb ((x, instObj 86 d) :: (d, mDict w line st pb k1 k2 k3 k4 k5 k6) :: (l, W.listOf its.toArray n) :: R)) :
    Asks 24 w loose mean mg mb 142 ((pb, W.listOf q0.toArray nq) :: (x, instObj 86 d) :: (d, mDict w line st pb k1 k2 k3 k4 k5 k6) :: (l, W.listOf its.toArray n) :: R) [.ref x, .int (L0.length : Nat) tz, .ref l] (fun h₀ L m s Q => ∀ (h' : Heap) (tk' : Nat) (D : Addr) (q rits : List Value) (nq' nr : Nat), StrsAre q ((keptL L0 ns L0.length).map wordOf) → IntsAre rits (rowL L0 ns L0.length) → pb ≠ D → (∀ p ∈ (x, instObj 86 d) :: (d, mDict w line st pb k1 k2 k3 k4 k5 k6) :: (l, W.listOf its.toArray n) :: R, p.1 ≠ D) → Fr h₀ L h' m →
      News h₀ L h' ((D, W.listOf rits.toArray nr) :: (pb, W.listOf q.toArray nq') :: (x, instObj 86 d) :: (d, mDict w line st pb k1 k2 k3 k4 k5 k6) :: (l, W.listOf its.toArray n) :: R) → Q (.ref D) { s with heap := h', toks := tk' }) :=
  fun dp un gd cn cs a ccd cl outer A₀ base h₀ L m s Q E => Classical.choose_spec law_chosen_spec_K.ex9 law_chosen_spec_at ((w, loose, mean, mg, mb, dp, un, gd, cn, cs, a, ccd, cl, outer, A₀, base, h₀, L, m, s, Q, E), x, d, st, pb, l, nq, R, line, k1, k2, k3, k4, k5, k6, tz, ns, L0, its, q0, n) hi hl hL hLb hq0 hM
end

section
theorem leads_len (gs : List Int) (c : Nat) : (leadsOf gs c).length = c := by rw [leads_eq, List.length_map, List.length_range]
theorem bans_len (gs : List Int) (c : Nat) : (bansOf gs c).length = 3 := by rw [bans_eq, List.length_map, List.length_range]
theorem leads_bnd (gs : List Int) (c : Nat) : ∀ v ∈ leadsOf gs c, 0 ≤ v ∧ v < 256 := by
  rw [leads_eq]
  intro v hv
  obtain ⟨k, _, rfl⟩ := List.mem_map.mp hv
  rw [Int.fmod_eq_emod_of_nonneg _ (by decide)]
  exact ⟨Int.emod_nonneg _ (by decide), Int.emod_lt_of_pos _ (by decide)⟩
theorem bans_bnd (gs : List Int) (c : Nat) (hc : c = 4 ∨ c = 5) : ∀ v ∈ bansOf gs c, 0 < v ∧ v < 2 ^ c := by
  rw [bans_eq]
  intro v hv
  obtain ⟨k, _, rfl⟩ := List.mem_map.mp hv
  rcases hc with rfl | rfl
  · rw [Int.fmod_eq_emod_of_nonneg _ (by decide)]
    have h1 := Int.emod_nonneg (gs.getD (5 + k) 0) (b := 2 ^ 4 - 1) (by decide)
    have h2 := Int.emod_lt_of_pos (gs.getD (5 + k) 0) (b := 2 ^ 4 - 1) (by decide)
    have e : ((2 : Int) ^ 4) = 16 := rfl
    omega
  · rw [Int.fmod_eq_emod_of_nonneg _ (by decide)]
    have h1 := Int.emod_nonneg (gs.getD (5 + k) 0) (b := 2 ^ 5 - 1) (by decide)
    have h2 := Int.emod_lt_of_pos (gs.getD (5 + k) 0) (b := 2 ^ 5 - 1) (by decide)
    have e : ((2 : Int) ^ 5) = 32 := rfl
    omega
theorem getD_bnd {ls : List Int} (h : ∀ v ∈ ls, 0 ≤ v ∧ v < 256) (k : Nat) : 0 ≤ ls.getD k 0 ∧ ls.getD k 0 < 256 := by
  rw [List.getD_eq_getElem?_getD]
  by_cases hk : k < ls.length
  · rw [List.getElem?_eq_getElem hk]; exact h _ (List.getElem_mem hk)
  · rw [List.getElem?_eq_none (by omega)]; decide
theorem msum_bnd {ls : List Int} (h : ∀ v ∈ ls, 0 ≤ v ∧ v < 256) (mask : Int) : ∀ k, 0 ≤ msum mask ls k ∧ msum mask ls k < 256
  | 0 => by rw [msum]; decide
  | k + 1 => by
    rw [msum]
    split
    · exact msum_bnd h mask k
    · exact xor_bnd (n := 8) (msum_bnd h mask k) (getD_bnd h k)
/-- law_drawn_spec, told by what the lists are -/
theorem law_drawn_h (w : World) (loose : List Str) (mean : ExcName → Option Value) (mg mb : Str → Option Value) (rest : List (Addr × Obj)) (l : Addr) (ns : List Int) (its : List Value) (hi : IntsAre its ns) (hl : ns.length < 64) :
    AsksB 14 w loose mean mg mb 109 rest [.ref l] l its (fun h₀ L m s Q => ∀ (c : Nat) (gs ls bs : List Int) (xs ys : List Value) (D1 D2 D : Addr) (h' : Heap) (tk' : Nat), (c = 4 ∨ c = 5) → (∀ v ∈ gs, 0 ≤ v) → ls = leadsOf gs c → bs = bansOf gs c → ls.length = c → bs.length = 3 → (∀ v ∈ ls, 0 ≤ v ∧ v < 256) → (∀ v ∈ bs, 0 < v ∧ v < 2 ^ c) → IntsAre xs ls → IntsAre ys bs →
      D1 ≠ D2 → D1 ≠ D → D2 ≠ D → LCg.Off1 D1 rest → LCg.Off1 D2 rest → AllLt D rest → Fr h₀ L h' m → News h₀ L h' ((D, { cls := Value.type "tuple", data := Data.seq #[Value.ref D1, Value.ref D2] }) :: (D2, LCg.lst ys) :: (D1, LCg.lst xs) :: rest) →
      Q (.ref D) { s with heap := h', toks := tk' }) :=
  fun dp un gd cn cs a ccd cl outer A₀ base h₀ L m s Q E B F X N T hk hdp hun codeHd hbl hret =>
    law_drawn_spec w loose mean mg mb rest l ns its hi hl dp un gd cn cs a ccd cl outer A₀ base h₀ L m s Q E B F X N T hk hdp hun codeHd hbl fun c gs xs ys D1 D2 D h' tk' hc hgl hg hxs hys =>
      hret c gs _ _ xs ys D1 D2 D h' tk' hc hg rfl rfl (leads_len gs c) (bans_len gs c) (leads_bnd gs c) (bans_bnd gs c hc) hxs hys
theorem size_le {ys : List Value} {bs : List Int} (h : IntsAre ys bs) (hl : bs.length < 64) : ys.toArray.size ≤ sizeLine := by
  rw [List.size_toArray, h.length, sizeLine_eq]; omega
theorem c_lt {c : Nat} (hc : c = 4 ∨ c = 5) {ls : List Int} (h : ls.length = c) : ls.length < 64 := by omega
theorem three_lt {ls : List Int} (h : ls.length = 3) : ls.length < 64 := by omega
theorem sum_take {bs ls : List Int} {zs : List Value} {j : Nat} {b : Int} {t : Tok} (h : bs[j]? = some b) (hz : IntsAre zs ((bs.take j).map fun b => msum b ls ls.length)) :
    IntsAre (zs ++ [Value.int (msum b ls ls.length) t]) ((bs.take (j + 1)).map fun b => msum b ls ls.length) := by
  rw [List.take_add_one, h, List.map_append]
  exact hz.append (.cons _ _ .nil)
theorem page_ok {bs ls : List Int} (hlb : ∀ v ∈ ls, 0 ≤ v ∧ v < 256) : ∀ v ∈ ls ++ bs.map (fun b => msum b ls ls.length), v.natAbs < 16 ^ 6 := by
  intro v hv
  rw [List.mem_append] at hv
  rcases hv with hv | hv
  · have := hlb v hv; omega
  · obtain ⟨b, _, rfl⟩ := List.mem_map.mp hv
    have := msum_bnd hlb b ls.length
    omega
theorem page_256 {bs ls : List Int} (hlb : ∀ v ∈ ls, 0 ≤ v ∧ v < 256) : ∀ v ∈ ls ++ bs.map (fun b => msum b ls ls.length), 0 ≤ v ∧ v < 256 := by
  intro v hv
  rw [List.mem_append] at hv
  rcases hv with hv | hv
  · exact hlb v hv
  · obtain ⟨b, _, rfl⟩ := List.mem_map.mp hv
    exact msum_bnd hlb b ls.length
end

section
/-- what stands ahead of the token j: the newline behind a quoted one -/
noncomputable def wsOf (j : Nat) : List Nat := if j % 2 = 1 then [10] else []
noncomputable def posOf (ns : List Int) (j : Nat) : Nat := (pageL ns j).length - (wsOf j).length
theorem page_ends (ns : List Int) (j : Nat) : ∃ A, pageL ns j = A ++ wsOf j := by
  unfold wsOf
  split
  · rename_i h
    obtain ⟨k, rfl⟩ : ∃ k, j = k + 1 := ⟨j - 1, by omega⟩
    refine ⟨pageL ns k ++ 34 :: (hx (ns.getD k 0).natAbs ++ [34]), ?_⟩
    rw [pageL, piece, if_pos (by omega)]
    simp
  · exact ⟨pageL ns j, by rw [List.append_nil]⟩
theorem page_tail (ns : List Int) {j N : Nat} (h : j < N) : ∃ t, pageL ns N = pageL ns j ++ (piece j (hx (ns.getD j 0).natAbs) ++ t) := by
  induction N with
  | zero => omega
  | succ N ih =>
    rcases Nat.lt_or_ge j N with h1 | h1
    · obtain ⟨t, ht⟩ := ih h1
      exact ⟨t ++ piece N (hx (ns.getD N 0).natAbs), by rw [pageL, ht]; simp only [List.append_assoc]⟩
    · obtain rfl : j = N := by omega
      exact ⟨[], by rw [pageL, List.append_nil]⟩
theorem drop_at {A ws t : List Nat} : ((A ++ ws) ++ t).drop ((A ++ ws).length - ws.length) = ws ++ t := by
  rw [List.length_append, Nat.add_sub_cancel, List.append_assoc, List.drop_left]
theorem drop_tok (ns : List Int) {j N : Nat} (h : j < N) : ∃ t, (pageL ns N).drop (posOf ns j) = wsOf j ++ (piece j (hx (ns.getD j 0).natAbs) ++ t) := by
  obtain ⟨t, ht⟩ := page_tail ns h
  obtain ⟨A, hA⟩ := page_ends ns j
  refine ⟨t, ?_⟩
  rw [ht, posOf, hA]
  exact drop_at
theorem drop_last (ns : List Int) (N : Nat) : (pageL ns N).drop (posOf ns N) = wsOf N := by
  obtain ⟨A, hA⟩ := page_ends ns N
  have h := drop_at (A := A) (ws := wsOf N) (t := [])
  rw [List.append_nil, List.append_nil] at h
  rw [posOf, hA]; exact h
theorem pos_le (ns : List Int) {j N : Nat} (h : j ≤ N) : posOf ns j ≤ (pageL ns N).length := by
  unfold posOf
  rcases Nat.lt_or_ge j N with h1 | h1
  · obtain ⟨t, ht⟩ := page_tail ns h1
    rw [ht, List.length_append]; omega
  · obtain rfl : j = N := by omega
    omega
theorem ws_len (j : Nat) : (wsOf j).length = j % 2 := by
  unfold wsOf; split
  · rename_i h; rw [h]; rfl
  · rw [List.length_nil]; omega
theorem ws_le (ns : List Int) (j : Nat) : (wsOf j).length ≤ (pageL ns j).length := by
  obtain ⟨A, hA⟩ := page_ends ns j
  rw [hA, List.length_append]; omega
theorem ws_cases (j : Nat) : wsOf j = [] ∨ wsOf j = [10] := by
  unfold wsOf; split
  · exact .inr rfl
  · exact .inl rfl
theorem nl_ws (j : Nat) : nlOf (wsOf j) = ((j % 2 : Nat) : Int) := by
  unfold wsOf
  split
  · rename_i h; rw [h]; rfl
  · rename_i h
    rw [show j % 2 = 0 by omega]; rfl
theorem page_bound {ns : List Int} (h : ∀ v ∈ ns, v.natAbs < 16 ^ 6) : ∀ k, (pageL ns k).length ≤ 14 * k
  | 0 => Nat.le_refl _
  | k + 1 => page_len (page_bound h k) (ints_lt h (by decide) k)
theorem page_lt1000 {ns : List Int} (h : ∀ v ∈ ns, v.natAbs < 16 ^ 6) {N : Nat} (hN : N ≤ 8) : (⟨(pageL ns N).toArray⟩ : Str).length < 1000 := by
  have h1 := page_bound h N
  show (pageL ns N).toArray.size < 1000
  rw [List.size_toArray]; omega
theorem cnt_hx (n : Nat) : cnt 10 (hx n) = 0 := cnt_none 10 _ fun h => by have := hx_mem n 10 h; omega
theorem cnt_esc : ∀ l : List Nat, (∀ c ∈ l, 65 ≤ c ∧ c ≤ 81) → cnt 10 (esc l) = 0
  | [], _ => rfl
  | c :: r, h => by
    have e : esc (c :: r) = 92 :: c :: esc r := rfl
    rw [e, cnt_cons, cnt_cons, cnt_esc r fun x hx => h x (.tail _ hx), if_neg (by decide), if_neg (by have := h c (.head _); omega)]; rfl
theorem jw_cons (c : Nat) (r : List Nat) : jw (c :: r) = c :: esc r := rfl
theorem hx_81 (n : Nat) : ∀ c ∈ hx n, 65 ≤ c ∧ c ≤ 81 := fun c hc => by have := hx_mem n c hc; omega
theorem cnt_page (ns : List Int) : ∀ k, cnt 10 (pageL ns k) = (((k + 1) / 2 : Nat) : Int)
  | 0 => rfl
  | k + 1 => by
    rw [pageL, cnt_append, cnt_page ns k]
    unfold piece
    split
    · rw [cnt_cons, cnt_append, cnt_hx, if_neg (by decide)]
      have : cnt 10 [34, 10] = 1 := by decide +kernel
      rw [this]; omega
    · rw [cnt_cons, cnt_append, if_neg (by decide)]
      have h9 : cnt 10 [9] = 0 := by decide +kernel
      have hj : cnt 10 (jw (hx (ns.getD k 0).natAbs)) = 0 := by
        have h81 := hx_81 (ns.getD k 0).natAbs
        cases hc : hx (ns.getD k 0).natAbs with
        | nil => rfl
        | cons c r => rw [hc] at h81; rw [jw_cons, cnt_cons, cnt_esc r fun x hx => h81 x (.tail _ hx), if_neg (by have := h81 c (.head _); omega)]; rfl
      rw [h9, hj]; omega
theorem count_page (ns : List Int) (k : Nat) : Txt.count ⟨(pageL ns k).toArray⟩ (Str.ofString "\n") = (((k + 1) / 2 : Nat) : Int) := by
  have e : Str.ofString "\n" = ⟨#[10]⟩ := by decide +kernel
  rw [e, count_cnt]
  exact cnt_page ns k
theorem ln_step (j : Nat) : (1 : Int) + ((j / 2 : Nat) : Int) + ((j % 2 : Nat) : Int) = 1 + (((j + 1) / 2 : Nat) : Int) := by omega
theorem odd_next {j : Nat} (h : j % 2 = 1) : (j + 1) % 2 = 0 := by omega
theorem even_now {j : Nat} (h : ¬ j % 2 = 1) : j % 2 = 0 := by omega
theorem even_next {j : Nat} (h : ¬ j % 2 = 1) : (j + 1) % 2 = 1 := by omega
theorem not_even {j : Nat} (h : j % 2 = 1) : ¬ j % 2 = 0 := by omega
theorem nat_b {P W X : Nat} (h : W ≤ P) : P - W + W + 2 + X + 1 = P + (X + (0 + 1) + 1 + 1) := by omega
theorem nat_q {P W X Y : Nat} (h : W ≤ P) (e : Y + 1 = P + (X + (0 + 1 + 1) + 1)) : P - W + W + 1 + X + 1 = Y := by omega
/-- the next token of the page: the number j -/
theorem tok_spec (w : World) (loose : List Str) (mean : ExcName → Option Value) (mg mb : Str → Option Value) (rest : List (Addr × Obj)) (ns : List Int) (N j : Nat) (x d pb la st : Addr) (k1 k2 k3 k4 k5 k6 ti : Tok) (nq nl : Nat) (hj : j < N) (h0 : j % 2 = 1 → ns.getD j 0 ≠ 0) (hx : (⟨(pageL ns N).toArray⟩ : Str).length < 1000) (hM : Mach w loose mean mg mb x d pb la st ⟨(pageL ns N).toArray⟩ rest) :
    Asks 16 w loose mean mg mb 76 ((pb, W.listOf #[] nq) :: (x, instObj 86 d) :: (d, mDict w (1 + ((j / 2 : Nat) : Int)) st pb k1 k2 k3 k4 k5 k6) :: (la, W.listOf #[.int (posOf ns j : Nat) ti] nl) :: rest) [.ref x] (fun h₀ L m s Q => ∀ (k2' ti' t : Tok) (h' : Heap) (tk' : Nat), Fr h₀ L h' m →
      News h₀ L h' ((pb, W.listOf #[] nq) :: (x, instObj 86 d) :: (d, mDict w (1 + (((j + 1) / 2 : Nat) : Int)) st pb k1 k2' k3 k4 k5 k6) :: (la, W.listOf #[.int (posOf ns (j + 1) : Nat) ti'] nl) :: rest) →
        Q (.str (wordOf (ns.getD j 0)) t) { s with heap := h', toks := tk' }) := by
  obtain ⟨t, ht⟩ := drop_tok ns hj
  have hp := pos_le ns (Nat.le_of_lt hj)
  have hle := ws_le ns j
  have hwl := ws_len j
  have hwl' := ws_len (j + 1)
  have h81 := hx_81 (ns.getD j 0).natAbs
  have hsg : sg ⟨(pageL ns N).toArray⟩ = pageL ns N := rfl
  have hpl : posOf ns j ≤ (⟨(pageL ns N).toArray⟩ : Str).length := by
    show _ ≤ (pageL ns N).toArray.size
    rw [List.size_toArray]; exact hp
  have hln : (1 : Int) + ((j / 2 : Nat) : Int) + nlOf (wsOf j) = 1 + (((j + 1) / 2 : Nat) : Int) := by rw [nl_ws]; exact ln_step j
  by_cases hodd : j % 2 = 1
  · have hhx := hx_ne (n := (ns.getD j 0).natAbs) (Nat.pos_of_ne_zero (Int.natAbs_ne_zero.mpr (h0 hodd)))
    have hpos : posOf ns (j + 1) = (pageL ns j).length + (piece j (Mine.hx (ns.getD j 0).natAbs)).length := by
      unfold posOf; rw [hwl', odd_next hodd, Nat.sub_zero, pageL, List.length_append]
    unfold wordOf
    unfold piece at ht hpos
    rw [if_neg (not_even hodd)] at ht hpos
    cases hc : Mine.hx (ns.getD j 0).natAbs with
    | nil => exact absurd hc hhx
    | cons c0 r =>
      rw [hc] at ht hpos h81
      rw [jw_cons] at ht hpos
      have hd : (sg ⟨(pageL ns N).toArray⟩).drop (posOf ns j) = wsOf j ++ 92 :: c0 :: (esc r ++ 9 :: t) := by rw [hsg, ht]; simp
      refine asks_sub (get_token_bare w loose mean mg mb rest ⟨(pageL ns N).toArray⟩ x d pb la st k1 k2 k3 k4 k5 k6 ti nq nl (posOf ns j) (1 + ((j / 2 : Nat) : Int)) (wsOf j) r t c0 (ws_cases j) (h81 c0 (.head _)) (fun c h => h81 c (.tail _ h)) hd hpl hx hM) (fun p hp => hp) fun _ _ _ _ _ h k2' ti' t' h' tk' F Nw => h k2' ti' t' h' tk' F ?_
      rw [hln] at Nw
      rw [show posOf ns j + (wsOf j).length + 2 + (esc r).length + 1 = posOf ns (j + 1) by
        rw [hpos]; unfold posOf; simp only [List.length_cons, List.length_append, List.length_nil]; exact nat_b hle] at Nw
      exact Nw
  · have hpos : posOf ns (j + 1) + 1 = (pageL ns j).length + (piece j (Mine.hx (ns.getD j 0).natAbs)).length := by
      have := ws_le ns (j + 1)
      rw [hwl', even_next hodd, pageL, List.length_append] at this
      unfold posOf; rw [hwl', even_next hodd, pageL, List.length_append]; exact Nat.sub_add_cancel this
    unfold piece at ht hpos
    rw [if_pos (even_now hodd)] at ht hpos
    have hd : (sg ⟨(pageL ns N).toArray⟩).drop (posOf ns j) = wsOf j ++ 34 :: (Mine.hx (ns.getD j 0).natAbs ++ 34 :: (10 :: t)) := by rw [hsg, ht]; simp
    refine asks_sub (get_token_quoted w loose mean mg mb rest ⟨(pageL ns N).toArray⟩ x d pb la st k1 k2 k3 k4 k5 k6 ti nq nl (posOf ns j) (1 + ((j / 2 : Nat) : Int)) (wsOf j) (Mine.hx (ns.getD j 0).natAbs) (10 :: t) (ws_cases j) h81 hd hpl hx hM) (fun p hp => hp) fun _ _ _ _ _ h k2' ti' t' h' tk' F Nw => h k2' ti' t' h' tk' F ?_
    rw [hln] at Nw
    rw [show posOf ns j + (wsOf j).length + 1 + (Mine.hx (ns.getD j 0).natAbs).length + 1 = posOf ns (j + 1) by
      simp only [List.length_cons, List.length_append, List.length_nil] at hpos
      exact nat_q hle hpos] at Nw
    exact Nw
/-- the token behind the last: nothing -/
theorem tok_end (w : World) (loose : List Str) (mean : ExcName → Option Value) (mg mb : Str → Option Value) (rest : List (Addr × Obj)) (ns : List Int) (N : Nat) (x d pb la st : Addr) (k1 k2 k3 k4 k5 k6 ti : Tok) (nq nl : Nat) (hx : (⟨(pageL ns N).toArray⟩ : Str).length < 1000) (hM : Mach w loose mean mg mb x d pb la st ⟨(pageL ns N).toArray⟩ rest) :
    Asks 16 w loose mean mg mb 76 ((pb, W.listOf #[] nq) :: (x, instObj 86 d) :: (d, mDict w (1 + ((N / 2 : Nat) : Int)) st pb k1 k2 k3 k4 k5 k6) :: (la, W.listOf #[.int (posOf ns N : Nat) ti] nl) :: rest) [.ref x] (fun h₀ L m s Q => ∀ (k2' ti' t : Tok) (p : Nat) (h' : Heap) (tk' : Nat), Fr h₀ L h' m →
      News h₀ L h' ((pb, W.listOf #[] nq) :: (x, instObj 86 d) :: (d, mDict w (1 + (((N + 1) / 2 : Nat) : Int)) st pb k1 k2' k3 k4 k5 k6) :: (la, W.listOf #[.int (p : Nat) ti'] nl) :: rest) →
        Q (.str ⟨([] : List Nat).toArray⟩ t) { s with heap := h', toks := tk' }) := by
  have hp := pos_le ns (Nat.le_refl N)
  have hpl : posOf ns N ≤ (⟨(pageL ns N).toArray⟩ : Str).length := by
    show _ ≤ (pageL ns N).toArray.size
    rw [List.size_toArray]; exact hp
  have hln : (1 : Int) + ((N / 2 : Nat) : Int) + nlOf (wsOf N) = 1 + (((N + 1) / 2 : Nat) : Int) := by rw [nl_ws]; exact ln_step N
  refine asks_sub (get_token_end w loose mean mg mb rest ⟨(pageL ns N).toArray⟩ x d pb la st k1 k2 k3 k4 k5 k6 ti nq nl (posOf ns N) (1 + ((N / 2 : Nat) : Int)) (wsOf N) (ws_cases N) (drop_last ns N) hpl hx hM) (fun p hp => hp) fun _ _ _ _ _ h k2' ti' t' h' tk' F Nw => h k2' ti' t' (posOf ns N + (wsOf N).length) h' tk' F ?_
  rw [hln] at Nw
  exact Nw
end

section
theorem xor_zero_eq {a b : Nat} (h : a ^^^ b = 0) : a = b := by
  have : (a ^^^ b) ^^^ b = 0 ^^^ b := by rw [h]
  rw [Nat.xor_assoc, Nat.xor_self, Nat.xor_zero, Nat.zero_xor] at this
  exact this
theorem lt_testBit : ∀ (i : Nat) {n m : Nat}, n.testBit i = false → m.testBit i = true → (∀ j, i < j → n.testBit j = m.testBit j) → n < m
  | 0, n, m, h1, h2, h => by
    rw [Nat.testBit_zero, decide_eq_false_iff_not] at h1
    rw [Nat.testBit_zero, decide_eq_true_eq] at h2
    have e : n / 2 = m / 2 := Nat.eq_of_testBit_eq fun j => by
      have := h (j + 1) (by omega)
      rwa [Nat.testBit_succ, Nat.testBit_succ] at this
    omega
  | i + 1, n, m, h1, h2, h => by
    rw [Nat.testBit_succ] at h1 h2
    have := lt_testBit i h1 h2 fun j hj => by
      have := h (j + 1) (by omega)
      rwa [Nat.testBit_succ, Nat.testBit_succ] at this
    omega
/-- the xor of f over the bits of m below k -/
noncomputable def nsum (m : Nat) (f : Nat → Nat) : Nat → Nat
  | 0 => 0
  | k + 1 => if m.testBit k then nsum m f k ^^^ f k else nsum m f k
theorem nsum_cong {m m' : Nat} {f : Nat → Nat} : ∀ {k : Nat}, (∀ i, i < k → m.testBit i = m'.testBit i) → nsum m f k = nsum m' f k
  | 0, _ => rfl
  | k + 1, h => by
    rw [nsum, nsum, h k (by omega), nsum_cong fun i hi => h i (by omega)]
theorem nsum_congf {m : Nat} {f f' : Nat → Nat} : ∀ {k : Nat}, (∀ i, i < k → f i = f' i) → nsum m f k = nsum m f' k
  | 0, _ => rfl
  | k + 1, h => by
    rw [nsum, nsum, h k (by omega), nsum_congf fun i hi => h i (by omega)]
theorem nsum_zero {f : Nat → Nat} {m : Nat} : ∀ {k : Nat}, (∀ i, i < k → m.testBit i = false) → nsum m f k = 0
  | 0, _ => rfl
  | k + 1, h => by
    rw [nsum, h k (by omega), if_neg (by decide), nsum_zero fun i hi => h i (by omega)]
theorem nsum_xor (m m' : Nat) (f : Nat → Nat) : ∀ k, nsum (m ^^^ m') f k = nsum m f k ^^^ nsum m' f k
  | 0 => by rw [nsum, nsum, nsum]; exact (Nat.xor_self 0).symm
  | k + 1 => by
    rw [nsum, nsum, nsum, nsum_xor m m' f k, Nat.testBit_xor]
    cases m.testBit k <;> cases m'.testBit k
    · simp
    · simp [Nat.xor_assoc]
    · simp only [Bool.xor_false, if_true, Bool.false_eq_true, if_false]
      rw [Nat.xor_assoc, Nat.xor_assoc, Nat.xor_comm (f k)]
    · simp only [Bool.xor_self, Bool.false_eq_true, if_false, if_true]
      rw [Nat.xor_assoc, ← Nat.xor_assoc (f k), Nat.xor_comm (f k), Nat.xor_assoc (nsum m' f k), Nat.xor_self, Nat.xor_zero]
theorem nsum_top {f : Nat → Nat} {r k : Nat} : ∀ {n : Nat}, r < 2 ^ k → k < n → nsum (2 ^ k + r) f n = nsum r f k ^^^ f k := by
  intro n hr hk
  have hbit : ∀ i, (2 ^ k + r).testBit i = (if i = k then true else r.testBit i) := by
    intro i
    split
    · rename_i h; subst h
      rw [Nat.testBit_two_pow_add_eq, Nat.testBit_lt_two_pow hr]; rfl
    · rename_i h
      rcases Nat.lt_or_ge i k with h1 | h1
      · exact Nat.testBit_two_pow_add_gt h1 r
      · have h2 : r.testBit i = false := Nat.testBit_lt_two_pow (Nat.lt_of_lt_of_le hr (Nat.pow_le_pow_right (by decide) h1))
        rw [h2]
        refine Nat.testBit_lt_two_pow ?_
        have h3 : 2 ^ (k + 1) ≤ 2 ^ i := Nat.pow_le_pow_right (by decide) (by omega)
        rw [Nat.pow_succ] at h3
        omega
  have step : ∀ j, k < k + 1 + j → nsum (2 ^ k + r) f (k + 1 + j) = nsum r f k ^^^ f k := by
    intro j _
    induction j with
    | zero =>
      rw [Nat.add_zero, nsum, hbit k, if_pos rfl, if_pos rfl, nsum_cong (m' := r) fun i hi => by rw [hbit i, if_neg (by omega)]]
    | succ j ih =>
      have hb : (2 ^ k + r).testBit (k + 1 + j) = false := by
        rw [hbit, if_neg (by omega)]
        exact Nat.testBit_lt_two_pow (Nat.lt_of_lt_of_le hr (Nat.pow_le_pow_right (by decide) (by omega)))
      rw [show k + 1 + (j + 1) = (k + 1 + j) + 1 by omega, nsum, hb, if_neg (by decide), ih (by omega)]
  have := step (n - (k + 1)) (by omega)
  rw [show k + 1 + (n - (k + 1)) = n by omega] at this
  exact this
/-- a number that is not nought has a lowest bit -/
theorem low_bit {m : Nat} (h : m ≠ 0) : ∃ j, m.testBit j = true ∧ ∀ i, i < j → m.testBit i = false := by
  obtain ⟨i, hi⟩ := Nat.exists_testBit_of_ne_zero h
  induction i using Nat.strongRecOn with
  | ind i ih =>
    by_cases hx : ∃ j, j < i ∧ m.testBit j = true
    · obtain ⟨j, hj, hj2⟩ := hx
      exact ih j hj hj2
    · refine ⟨i, hi, fun j hj => ?_⟩
      cases e : m.testBit j with
      | false => rfl
      | true => exact absurd ⟨j, hj, e⟩ hx
theorem top_bit {m : Nat} (h : m ≠ 0) : ∃ j, m.testBit j = true ∧ m < 2 ^ (j + 1) := by
  refine ⟨m.log2, ?_, Nat.lt_log2_self⟩
  have h1 := Nat.log2_self_le h
  have h2 := @Nat.lt_log2_self m
  obtain ⟨r, hr⟩ : ∃ r, m = 2 ^ m.log2 + r := ⟨m - 2 ^ m.log2, by omega⟩
  rw [Nat.pow_succ] at h2
  have h3 : r < 2 ^ m.log2 := by omega
  have : (2 ^ m.log2 + r).testBit m.log2 = true := by rw [Nat.testBit_two_pow_add_eq, Nat.testBit_lt_two_pow h3]; rfl
  rw [← hr] at this
  exact this
/-- the leads: the lowest bit of the k-th is k -/
noncomputable def Leads (f : Nat → Nat) (c : Nat) : Prop := ∀ k, k < c → (f k).testBit k = true ∧ ∀ i, i < k → (f k).testBit i = false
theorem nsum_bit {f : Nat → Nat} {m j : Nat} (h1 : m.testBit j = true) (h2 : ∀ i, i < j → m.testBit i = false) : ∀ {k : Nat}, Leads f k → j < k → (nsum m f k).testBit j = true
  | 0, _, h => by omega
  | k + 1, hf, hj => by
    rw [nsum]
    rcases Nat.lt_or_ge j k with h3 | h3
    · have ih := nsum_bit h1 h2 (k := k) (fun i hi => hf i (by omega)) h3
      split
      · rw [Nat.testBit_xor, ih, (hf k (by omega)).2 j h3]; rfl
      · exact ih
    · obtain rfl : j = k := by omega
      rw [if_pos h1, nsum_zero h2, Nat.zero_xor]
      exact (hf j (by omega)).1
theorem nsum_ne {f : Nat → Nat} {m c : Nat} (hf : Leads f c) (h : m ≠ 0) (hm : m < 2 ^ c) : nsum m f c ≠ 0 := by
  obtain ⟨j, h1, h2⟩ := low_bit h
  have hj : j < c := by
    rcases Nat.lt_or_ge j c with h3 | h3
    · exact h3
    · rw [Nat.testBit_lt_two_pow (Nat.lt_of_lt_of_le hm (Nat.pow_le_pow_right (by decide) h3))] at h1; cases h1
  intro h0
  have := nsum_bit h1 h2 hf hj
  rw [h0, Nat.zero_testBit] at this; cases this
theorem nsum_inj {f : Nat → Nat} {m m' c : Nat} (hf : Leads f c) (hm : m < 2 ^ c) (hm' : m' < 2 ^ c) (h : nsum m f c = nsum m' f c) : m = m' := by
  have h1 : nsum (m ^^^ m') f c = 0 := by rw [nsum_xor, h, Nat.xor_self]
  rcases Nat.eq_zero_or_pos (m ^^^ m') with h2 | h2
  · exact xor_zero_eq h2
  · exact absurd h1 (nsum_ne hf (by omega) (Nat.xor_lt_two_pow hm hm'))
/-- the top bit of x is taken out of w -/
theorem xor_less {w x t : Nat} (hx : x.testBit t = true) (hx2 : x < 2 ^ (t + 1)) (hw : w.testBit t = true) : w ^^^ x < w := by
  refine lt_testBit t ?_ hw ?_
  · rw [Nat.testBit_xor, hx, hw]; rfl
  · intro j hj
    rw [Nat.testBit_xor, Nat.testBit_lt_two_pow (x := x) (Nat.lt_of_lt_of_le hx2 (Nat.pow_le_pow_right (by decide) (by omega)))]
    cases w.testBit j <;> rfl
/-- if the xor has bit t then one of the parts has it -/
theorem nsum_has {f : Nat → Nat} {m t : Nat} : ∀ {k : Nat}, (nsum m f k).testBit t = true → ∃ i, i < k ∧ m.testBit i = true ∧ (f i).testBit t = true
  | 0, h => by rw [nsum, Nat.zero_testBit] at h; cases h
  | k + 1, h => by
    rw [nsum] at h
    split at h
    · rename_i hb
      rw [Nat.testBit_xor] at h
      cases e : (f k).testBit t with
      | true => exact ⟨k, by omega, hb, e⟩
      | false =>
        rw [e, Bool.xor_false] at h
        obtain ⟨i, h1, h2, h3⟩ := nsum_has h
        exact ⟨i, by omega, h2, h3⟩
    · obtain ⟨i, h1, h2, h3⟩ := nsum_has h
      exact ⟨i, by omega, h2, h3⟩
/-- the worths: each is the least number that no ban with this top bit makes -/
noncomputable def Worths (w : Nat → Nat) (bans : List Nat) (c : Nat) : Prop :=
  ∀ k, k < c → (∀ r, r < 2 ^ k → 2 ^ k + r ∈ bans → nsum r w k ≠ w k) ∧ ∀ y, y < w k → ∃ r, r < 2 ^ k ∧ 2 ^ k + r ∈ bans ∧ nsum r w k = y
theorem split_top {b c : Nat} (h0 : b ≠ 0) (hb : b < 2 ^ c) : ∃ k r, k < c ∧ r < 2 ^ k ∧ b = 2 ^ k + r := by
  have h1 := Nat.log2_self_le h0
  have h2 := @Nat.lt_log2_self b
  rw [Nat.pow_succ] at h2
  refine ⟨b.log2, b - 2 ^ b.log2, ?_, by omega, by omega⟩
  exact (Nat.pow_lt_pow_iff_right (by decide)).mp (Nat.lt_of_le_of_lt h1 hb)
theorem ban_ne {w : Nat → Nat} {bans : List Nat} {c b : Nat} (hw : Worths w bans c) (hb : b ∈ bans) (h0 : b ≠ 0) (hc : b < 2 ^ c) : nsum b w c ≠ 0 := by
  obtain ⟨k, r, hk, hr, rfl⟩ := split_top h0 hc
  rw [nsum_top hr hk]
  intro h
  exact (hw k hk).1 r hr hb (xor_zero_eq h)
theorem find_ban {w : Nat → Nat} {bans : List Nat} {c n : Nat} (hw : Worths w bans c) (hn : nsum n w c ≠ 0) : ∃ b, b ∈ bans ∧ n ^^^ b < n ∧ nsum (n ^^^ b) w c = 0 := by
  obtain ⟨t, ht, ht2⟩ := top_bit hn
  obtain ⟨k, hk, hnk, hwk⟩ := nsum_has ht
  have hy := xor_less ht ht2 hwk
  obtain ⟨r, hr, hb, hry⟩ := (hw k hk).2 _ hy
  refine ⟨2 ^ k + r, hb, ?_, ?_⟩
  · refine lt_testBit k ?_ hnk ?_
    · rw [Nat.testBit_xor, hnk, Nat.testBit_two_pow_add_eq, Nat.testBit_lt_two_pow hr]; rfl
    · intro j hj
      have h3 : 2 ^ (k + 1) ≤ 2 ^ j := Nat.pow_le_pow_right (by decide) (by omega)
      rw [Nat.pow_succ] at h3
      rw [Nat.testBit_xor, Nat.testBit_lt_two_pow (x := 2 ^ k + r) (by omega)]
      cases n.testBit j <;> rfl
  · rw [nsum_xor, nsum_top hr hk, hry, Nat.xor_comm (w k), Nat.xor_assoc, Nat.xor_self, Nat.xor_zero, Nat.xor_self]
/-- the masks kept of the first n -/
noncomputable def keptN (bans : List Nat) : Nat → List Nat
  | 0 => []
  | n + 1 => if ∀ b ∈ bans, n ^^^ b ∉ keptN bans n then keptN bans n ++ [n] else keptN bans n
theorem kept_eq {w : Nat → Nat} {bans : List Nat} {c : Nat} (hw : Worths w bans c) (hb : ∀ b ∈ bans, b ≠ 0 ∧ b < 2 ^ c) : ∀ n, keptN bans n = (List.range n).filter fun m => nsum m w c == 0
  | 0 => rfl
  | n + 1 => by
    rw [keptN, kept_eq hw hb n, List.range_succ, List.filter_append]
    by_cases h : nsum n w c = 0
    · rw [if_pos, List.filter_cons_of_pos (by simp [h])]; rfl
      intro b hbb hm
      rw [List.mem_filter, beq_iff_eq, nsum_xor, h, Nat.zero_xor] at hm
      exact ban_ne hw hbb (hb b hbb).1 (hb b hbb).2 hm.2
    · rw [if_neg, List.filter_cons_of_neg (by simp [h]), List.filter_nil, List.append_nil]
      intro hall
      obtain ⟨b, h1, h2, h3⟩ := find_ban hw h
      exact hall b h1 (List.mem_filter.mpr ⟨List.mem_range.mpr h2, by rw [h3]; rfl⟩)
end

section
theorem bit_int (m k : Nat) : (Builtin.bitAnd ((m : Int).fdiv (2 ^ k)) 1 = 0) ↔ ¬ (m.testBit k = true) := by
  have e1 : (m : Int).fdiv (2 ^ k) = ((m / 2 ^ k : Nat) : Int) := by
    rw [Int.fdiv_eq_ediv_of_nonneg _ (by exact Int.le_of_lt (Int.pow_pos (by decide)))]
    rw [Int.natCast_ediv, Int.natCast_pow]; rfl
  have e2 : Builtin.bitAnd ((m / 2 ^ k : Nat) : Int) 1 = ((m / 2 ^ k &&& 1 : Nat) : Int) := rfl
  rw [e1, e2, Nat.and_one_is_mod, Nat.testBit_eq_decide_div_mod_eq, decide_eq_true_eq]
  omega
theorem msum_nat {ls : List Int} (h : ∀ v ∈ ls, 0 ≤ v) (m : Nat) : ∀ k, msum (m : Int) ls k = ((nsum m (fun i => (ls.getD i 0).toNat) k : Nat) : Int)
  | 0 => rfl
  | k + 1 => by
    have hk : 0 ≤ ls.getD k 0 := by
      rw [List.getD_eq_getElem?_getD]
      by_cases hk : k < ls.length
      · rw [List.getElem?_eq_getElem hk]; exact h _ (List.getElem_mem hk)
      · rw [List.getElem?_eq_none (by omega)]; decide
    rw [msum, nsum, msum_nat h m k]
    by_cases hb : m.testBit k = true
    · rw [if_neg ((not_congr (bit_int m k)).mpr (not_not_intro hb)), if_pos hb]
      obtain ⟨y, hy⟩ := Int.eq_ofNat_of_zero_le hk
      rw [hy, bitXor_nat]; rfl
    · rw [if_pos ((bit_int m k).mpr hb), if_neg hb]
theorem line_eq {ls : List Int} (h : ∀ v ∈ ls, 0 ≤ v) : ∀ i, lineL ls i = (List.range (2 ^ i)).map fun (m : Nat) => msum (m : Int) ls i
  | 0 => rfl
  | i + 1 => by
    rw [lineL, line_eq h i, Nat.pow_succ, Nat.mul_two, List.range_add, List.map_append, List.map_map, List.map_map]
    congr 1
    · apply List.map_congr_left
      intro m hm
      rw [List.mem_range] at hm
      rw [msum, if_pos ((bit_int m i).mpr (by rw [Nat.testBit_lt_two_pow hm]; decide))]
    · apply List.map_congr_left
      intro m hm
      rw [List.mem_range] at hm
      simp only [Function.comp]
      have hb : (2 ^ i + m).testBit i = true := by rw [Nat.testBit_two_pow_add_eq, Nat.testBit_lt_two_pow hm]; rfl
      rw [msum, if_neg ((not_congr (bit_int (2 ^ i + m) i)).mpr (not_not_intro hb)), msum_nat h, msum_nat h]
      rw [nsum_cong (m := 2 ^ i + m) (m' := m) fun j hj => Nat.testBit_two_pow_add_gt hj m]
theorem leads_are (gs : List Int) (c : Nat) (hg : ∀ v ∈ gs, 0 ≤ v) (hc : c ≤ 8) : Leads (fun i => ((leadsOf gs c).getD i 0).toNat) c := by
  intro k hk
  have e : ((leadsOf gs c).getD k 0).toNat = ((2 * (gs.getD k 0).toNat + 1) * 2 ^ k) % 2 ^ 8 := by
    have h0 : 0 ≤ gs.getD k 0 := by
      rw [List.getD_eq_getElem?_getD]
      by_cases hk : k < gs.length
      · rw [List.getElem?_eq_getElem hk]; exact hg _ (List.getElem_mem hk)
      · rw [List.getElem?_eq_none (by omega)]; decide
    obtain ⟨g, hgk⟩ := Int.eq_ofNat_of_zero_le h0
    rw [leads_eq, List.getD_eq_getElem?_getD, List.getElem?_map, List.getElem?_range hk]
    simp only [Option.map_some, Option.getD_some]
    rw [hgk, Int.fmod_eq_emod_of_nonneg _ (by decide)]
    rw [show ((2 * (g : Int) + 1) * 2 ^ k) = (((2 * g + 1) * 2 ^ k : Nat) : Int) by rw [Int.natCast_mul, Int.natCast_pow]; rfl]
    rfl
  have hb : ∀ i, ((2 * (gs.getD k 0).toNat + 1) * 2 ^ k % 2 ^ 8).testBit i = (decide (i < 8) && (decide (k ≤ i) && (2 * (gs.getD k 0).toNat + 1).testBit (i - k))) := by
    intro i
    rw [Nat.testBit_mod_two_pow, Nat.testBit_mul_two_pow]
  constructor
  · show ((leadsOf gs c).getD k 0).toNat.testBit k = true
    rw [e, hb, Nat.sub_self, Nat.testBit_zero, decide_eq_true (show k < 8 by omega), decide_eq_true (Nat.le_refl k), decide_eq_true (by omega)]; rfl
  · intro i hi
    show ((leadsOf gs c).getD k 0).toNat.testBit i = false
    rw [e, hb, decide_eq_false (show ¬ k ≤ i by omega), Bool.false_and, Bool.and_false]
theorem keptN_lt {bans : List Nat} : ∀ {i x : Nat}, x ∈ keptN bans i → x < i
  | 0, x, h => nomatch h
  | i + 1, x, h => by
    rw [keptN] at h
    split at h
    · rw [List.mem_append, List.mem_singleton] at h
      rcases h with h | h
      · have := keptN_lt h; omega
      · omega
    · have := keptN_lt h; omega
theorem xor_v {ls : List Int} (h : ∀ v ∈ ls, 0 ≤ v) (i b c : Nat) : Builtin.bitXor (msum (i : Int) ls c) (msum (b : Int) ls c) = msum ((i ^^^ b : Nat) : Int) ls c := by
  rw [msum_nat h, msum_nat h, msum_nat h, bitXor_nat, nsum_xor]
theorem v_inj {ls : List Int} {c : Nat} (h : ∀ v ∈ ls, 0 ≤ v) (hf : Leads (fun i => (ls.getD i 0).toNat) c) {m m' : Nat} (h1 : m < 2 ^ c) (h2 : m' < 2 ^ c) (e : msum (m : Int) ls c = msum (m' : Int) ls c) : m = m' := by
  rw [msum_nat h, msum_nat h] at e
  exact nsum_inj hf h1 h2 (by omega)
theorem kept_map {ls bs : List Int} {c : Nat} (h : ∀ v ∈ ls, 0 ≤ v) (hf : Leads (fun i => (ls.getD i 0).toNat) c) (hb : ∀ v ∈ bs, 0 < v ∧ v < 2 ^ c) : ∀ i, i ≤ 2 ^ c →
    keptL (lineL ls c) (bs.map fun b => msum b ls c) i = (keptN (bs.map Int.toNat) i).map fun (m : Nat) => msum (m : Int) ls c
  | 0, _ => rfl
  | i + 1, hi => by
    have ih := kept_map h hf hb i (by omega)
    have hget : (lineL ls c).getD i 0 = msum (i : Int) ls c := by
      rw [line_eq h, List.getD_eq_getElem?_getD, List.getElem?_map, List.getElem?_range (by omega)]; rfl
    have hcond : (∀ b ∈ bs.map (fun b => msum b ls c), Builtin.bitXor ((lineL ls c).getD i 0) b ∉ keptL (lineL ls c) (bs.map fun b => msum b ls c) i) ↔ (∀ b ∈ bs.map Int.toNat, i ^^^ b ∉ keptN (bs.map Int.toNat) i) := by
      rw [hget, ih]
      have key : ∀ b ∈ bs, (Builtin.bitXor (msum (i : Int) ls c) (msum b ls c) ∈ (keptN (bs.map Int.toNat) i).map (fun (m : Nat) => msum (m : Int) ls c)) ↔ (i ^^^ b.toNat ∈ keptN (bs.map Int.toNat) i) := by
        intro b hbb
        have hb2 := hb b hbb
        have e1 : ((b.toNat : Nat) : Int) = b := Int.toNat_of_nonneg (by omega)
        have hlt : b.toNat < 2 ^ c := by
          have h9 : ((b.toNat : Nat) : Int) < ((2 ^ c : Nat) : Int) := by rw [e1, Int.natCast_pow]; exact hb2.2
          exact Int.ofNat_lt.mp h9
        rw [← e1, xor_v h, List.mem_map]
        rw [e1]
        constructor
        · rintro ⟨m, hm, e⟩
          have hm2 := keptN_lt hm
          have := v_inj h hf (by omega) (Nat.xor_lt_two_pow (by omega) hlt) e
          exact this ▸ hm
        · exact fun hm => ⟨_, hm, rfl⟩
      constructor
      · intro hall b hbb hm
        obtain ⟨b0, hb0, rfl⟩ := List.mem_map.mp hbb
        exact hall _ (List.mem_map.mpr ⟨b0, hb0, rfl⟩) ((key b0 hb0).mpr hm)
      · intro hall b hbb hm
        obtain ⟨b0, hb0, rfl⟩ := List.mem_map.mp hbb
        exact hall _ (List.mem_map.mpr ⟨b0, hb0, rfl⟩) ((key b0 hb0).mp hm)
    rw [keptL, keptN]
    by_cases hc : ∀ b ∈ bs.map Int.toNat, i ^^^ b ∉ keptN (bs.map Int.toNat) i
    · rw [if_pos (hcond.mpr hc), if_pos hc, List.map_append, ih, hget]; rfl
    · rw [if_neg (fun hx => hc (hcond.mp hx)), if_neg hc, ih]
/-- what the bans with top bit k make -/
noncomputable def madeW (bs : List Int) (k : Nat) : List Int := (bs.filter fun b => decide (2 ^ k ≤ b ∧ b < 2 ^ (k + 1))).map fun b => msum (b - 2 ^ k) (worthsL bs k) k
theorem worths_get (bs : List Int) : ∀ {c k : Nat}, k < c → (worthsL bs c).getD k 0 = (mex (madeW bs k) : Int)
  | 0, _, h => by omega
  | c + 1, k, h => by
    rw [worthsL, List.getD_eq_getElem?_getD]
    rcases Nat.lt_or_ge k c with h1 | h1
    · rw [List.getElem?_append_left (by rw [worths_len]; exact h1), ← List.getD_eq_getElem?_getD]
      exact worths_get bs h1
    · obtain rfl : k = c := by omega
      rw [List.getElem?_append_right (by rw [worths_len]; exact Nat.le_refl _), worths_len, Nat.sub_self]; rfl
theorem worths_nn (bs : List Int) (c : Nat) : ∀ v ∈ worthsL bs c, 0 ≤ v := by
  induction c with
  | zero => intro v hv; nomatch hv
  | succ c ih =>
    intro v hv
    rw [worthsL, List.mem_append, List.mem_singleton] at hv
    rcases hv with hv | hv
    · exact ih v hv
    · rw [hv]; exact Int.natCast_nonneg _
theorem worths_are {bs : List Int} {c : Nat} (hb : ∀ v ∈ bs, 0 < v) : Worths (fun i => ((worthsL bs c).getD i 0).toNat) (bs.map Int.toNat) c := by
  have hw : ∀ k, k < c → ((worthsL bs c).getD k 0).toNat = mex (madeW bs k) := fun k hk => by rw [worths_get bs hk]; rfl
  have hs : ∀ k r, k < c → msum (r : Nat) (worthsL bs k) k = ((nsum r (fun i => ((worthsL bs c).getD i 0).toNat) k : Nat) : Int) := by
    intro k r hk
    rw [msum_nat (worths_nn bs k)]
    rw [nsum_congf (f := fun i => ((worthsL bs k).getD i 0).toNat) (f' := fun i => ((worthsL bs c).getD i 0).toNat) fun i hi => by
      show ((worthsL bs k).getD i 0).toNat = ((worthsL bs c).getD i 0).toNat
      rw [worths_get bs hi, worths_get bs (c := c) (by omega)]]
  have hp : ∀ k : Nat, ((2 ^ k : Nat) : Int) = (2 : Int) ^ k := fun k => by rw [Int.natCast_pow]; rfl
  intro k hk
  refine ⟨fun r hr hbr he => ?_, fun y hy => ?_⟩
  · obtain ⟨b, hbb, hbe⟩ := List.mem_map.mp hbr
    have hb0 := hb b hbb
    have hbi : b = ((2 ^ k + r : Nat) : Int) := by rw [← hbe]; exact (Int.toNat_of_nonneg (by omega)).symm
    have hm : ((nsum r (fun i => ((worthsL bs c).getD i 0).toNat) k : Nat) : Int) ∈ madeW bs k := by
      rw [← hs k r hk]
      refine List.mem_map.mpr ⟨b, List.mem_filter.mpr ⟨hbb, decide_eq_true ?_⟩, ?_⟩
      · rw [← hp, ← hp, hbi, Nat.pow_succ]; omega
      · rw [hbi, ← hp]
        rw [show (((2 ^ k + r : Nat) : Int) - ((2 ^ k : Nat) : Int)) = (r : Nat) by omega]
    rw [he] at hm
    dsimp only at hm
    rw [hw k hk] at hm
    exact mex_not _ hm
  · have hy' : y < ((worthsL bs c).getD k 0).toNat := hy
    rw [hw k hk] at hy'
    have hm := mex_lt _ hy'
    obtain ⟨b, hbf, hbe⟩ := List.mem_map.mp hm
    rw [List.mem_filter, decide_eq_true_eq] at hbf
    obtain ⟨hbb, h1, h2⟩ := hbf
    have hb0 := hb b hbb
    obtain ⟨bn, rfl⟩ := Int.eq_ofNat_of_zero_le (show 0 ≤ b by omega)
    rw [← hp] at h1 h2 hbe
    rw [Nat.pow_succ] at h2
    refine ⟨bn - 2 ^ k, by omega, List.mem_map.mpr ⟨_, hbb, by show bn = _; omega⟩, ?_⟩
    rw [show ((bn : Int) - ((2 ^ k : Nat) : Int)) = ((bn - 2 ^ k : Nat) : Int) by omega] at hbe
    rw [hs k _ hk] at hbe
    exact Int.ofNat.inj hbe
/-- the words that are due -/
noncomputable def dueL (ls W : List Int) (n : Nat) : List Int := ((List.range n).filter fun (m : Nat) => msum (m : Int) W W.length == 0).map fun (m : Nat) => msum (m : Int) ls ls.length
theorem kept_due {gs : List Int} {c : Nat} (hg : ∀ v ∈ gs, 0 ≤ v) (hc : c = 4 ∨ c = 5) :
    keptL (lineL (leadsOf gs c) c) ((bansOf gs c).map fun b => msum b (leadsOf gs c) c) (2 ^ c) = dueL (leadsOf gs c) (worthsL (bansOf gs c) c) (2 ^ c) := by
  have hlb : ∀ v ∈ leadsOf gs c, 0 ≤ v := fun v hv => (leads_bnd gs c v hv).1
  have hbb := bans_bnd gs c hc
  have hL := leads_are gs c hg (by omega)
  have hW := worths_are (bs := bansOf gs c) (c := c) fun v hv => (hbb v hv).1
  rw [kept_map hlb hL hbb _ (Nat.le_refl _)]
  rw [kept_eq hW (fun b hb => by
    obtain ⟨b0, h0, rfl⟩ := List.mem_map.mp hb
    have := hbb b0 h0
    have e1 : ((b0.toNat : Nat) : Int) = b0 := Int.toNat_of_nonneg (by omega)
    refine ⟨by omega, ?_⟩
    have h9 : ((b0.toNat : Nat) : Int) < ((2 ^ c : Nat) : Int) := by rw [e1, Int.natCast_pow]; exact this.2
    exact Int.ofNat_lt.mp h9)]
  unfold dueL
  rw [leads_len, worths_len]
  congr 1
  apply List.filter_congr
  intro m _
  rw [msum_nat (worths_nn _ _)]
  rw [Bool.eq_iff_iff, beq_iff_eq, beq_iff_eq]
  omega
theorem ns_nz {gs : List Int} {c : Nat} (hg : ∀ v ∈ gs, 0 ≤ v) (hc : c = 4 ∨ c = 5) : ∀ j, j < (leadsOf gs c ++ (bansOf gs c).map fun b => msum b (leadsOf gs c) (leadsOf gs c).length).length → (leadsOf gs c ++ (bansOf gs c).map fun b => msum b (leadsOf gs c) (leadsOf gs c).length).getD j 0 ≠ 0 := by
  have hlb : ∀ v ∈ leadsOf gs c, 0 ≤ v := fun v hv => (leads_bnd gs c v hv).1
  have hbb := bans_bnd gs c hc
  have hL := leads_are gs c hg (by omega)
  intro j hj he
  have hm : (0 : Int) ∈ leadsOf gs c ++ (bansOf gs c).map fun b => msum b (leadsOf gs c) (leadsOf gs c).length := by
    rw [← he, List.getD_eq_getElem?_getD, List.getElem?_eq_getElem hj]
    exact List.getElem_mem hj
  rw [List.mem_append] at hm
  rcases hm with hm | hm
  · obtain ⟨k, hk, hk2⟩ := List.getElem_of_mem hm
    rw [leads_len] at hk
    have h1 := (hL k hk).1
    have h2 : (leadsOf gs c).getD k 0 = 0 := by rw [List.getD_eq_getElem?_getD, List.getElem?_eq_getElem (by rw [leads_len]; exact hk), hk2]; rfl
    rw [show ((fun i => ((leadsOf gs c).getD i 0).toNat) k) = 0 by show ((leadsOf gs c).getD k 0).toNat = 0; rw [h2]; rfl, Nat.zero_testBit] at h1
    cases h1
  · obtain ⟨b, hb, hb2⟩ := List.mem_map.mp hm
    have hb3 := hbb b hb
    rw [leads_len] at hb2
    have e1 : ((b.toNat : Nat) : Int) = b := Int.toNat_of_nonneg (by omega)
    rw [← e1, msum_nat hlb] at hb2
    have hlt : b.toNat < 2 ^ c := by
      have h9 : ((b.toNat : Nat) : Int) < ((2 ^ c : Nat) : Int) := by rw [e1, Int.natCast_pow]; exact hb3.2
      exact Int.ofNat_lt.mp h9
    exact nsum_ne hL (by omega) hlt (by omega)
end

section
theorem insR_perm (x : Int) (r : List Int) : (insR x r).Perm (r ++ [x]) := by
  unfold insR
  refine List.Perm.trans List.perm_middle ?_
  rw [List.take_append_drop]
  exact (List.perm_append_singleton x r).symm
theorem row_perm (L ms : List Int) : ∀ i, (rowL L ms i).Perm (keptL L ms i)
  | 0 => .nil
  | i + 1 => by
    rw [rowL, keptL]
    split
    · exact (insR_perm _ _).trans (List.Perm.append_right _ (row_perm L ms i))
    · exact row_perm L ms i
/-- the row is the due ones, sorted -/
theorem row_is {gs : List Int} {c : Nat} (hg : ∀ v ∈ gs, 0 ≤ v) (hc : c = 4 ∨ c = 5) {ls bs ms : List Int} (hls : ls = leadsOf gs c) (hbs : bs = bansOf gs c) (hms : ms = bs.map fun b => msum b ls ls.length) :
    keptL (lineL ls ls.length) ms (lineL ls ls.length).length = dueL ls (worthsL bs c) (2 ^ c) := by
  subst hls; subst hbs; subst hms
  rw [line_len, leads_len]
  have := kept_due hg hc
  exact this
theorem row_sort {L ms due ns' : List Int} (hk : keptL L ms L.length = due) (hp : ns'.Perm due) (ho : ns'.Pairwise (· ≤ ·)) : rowL L ms L.length = ns' :=
  ksm_same ((row_perm L ms L.length).trans (hk ▸ hp.symm)) (row_sorted L ms L.length) ho
theorem bans_32 {c : Nat} (hc : c = 4 ∨ c = 5) {bs : List Int} (h : ∀ v ∈ bs, 0 < v ∧ v < 2 ^ c) : ∀ v ∈ bs, 0 < v ∧ v < 32 := fun v hv => by
  have := h v hv
  rcases hc with rfl | rfl
  · have e : ((2 : Int) ^ 4) = 16 := rfl
    omega
  · have e : ((2 : Int) ^ 5) = 32 := rfl
    omega
theorem worths_h {w : World} {loose : List Str} {mean : ExcName → Option Value} {mg mb : Str → Option Value} (rest : List (Addr × Obj)) (c : Nat) (z : Int) (tc : Tok) (l : Addr) (bs : List Int) (its : List Value) (n : Nat) (hi : IntsAre its bs) (hl : bs.length < 64) (hc : c ≤ 5) (hb : ∀ v ∈ bs, 0 < v ∧ v < 32) :
    AsksH 16 w loose mean mg mb 147 ((l, W.listOf its.toArray n) :: rest) [.int z tc, .ref l] ((∀ p ∈ rest, p.1 ≠ l) ∧ z = (c : Int)) (fun h₀ L m s Q => ∀ (D : Addr) (h' : Heap) (tk' : Nat) (wits : List Value) (nw : Nat), IntsAre wits (worthsL bs c) → l ≠ D → (∀ p ∈ rest, p.1 ≠ D) → Fr h₀ L h' m → News h₀ L h' ((D, W.listOf wits.toArray nw) :: (l, W.listOf its.toArray n) :: rest) → Q (.ref D) { s with heap := h', toks := tk' }) :=
  asksH fun h => h.2 ▸ law_worths_spec w loose mean mg mb rest c tc l bs its n hi hl hc hb h.1
theorem c_lt64 {c : Nat} (hc : c = 4 ∨ c = 5) : c < 64 := by omega
end

section
theorem news_rot {g h : Heap} {L : Addr} (A B : List (Addr × Obj)) {C : List (Addr × Obj)} (N : News g L h (A ++ (B ++ C))) : News g L h (B ++ (A ++ C)) := fun p hp => N p (by
  rcases List.mem_append.mp hp with hp | hp
  · exact List.mem_append_right _ (List.mem_append_left _ hp)
  · rcases List.mem_append.mp hp with hp | hp
    · exact List.mem_append_left _ hp
    · exact List.mem_append_right _ (List.mem_append_right _ hp))
theorem news_nb {g h : Heap} {L : Addr} {a1 a2 a3 a4 : Addr × Obj} {nb rest : List (Addr × Obj)} (N : News g L h (a1 :: a2 :: a3 :: a4 :: (nb ++ rest))) : News g L h (a1 :: a2 :: a3 :: a4 :: (rest ++ nb)) := fun p hp => N p (by
  rcases List.mem_cons.mp hp with rfl | hp
  · exact .head _
  rcases List.mem_cons.mp hp with rfl | hp
  · exact .tail _ (.head _)
  rcases List.mem_cons.mp hp with rfl | hp
  · exact .tail _ (.tail _ (.head _))
  rcases List.mem_cons.mp hp with rfl | hp
  · exact .tail _ (.tail _ (.tail _ (.head _)))
  rcases List.mem_append.mp hp with hp | hp
  · exact .tail _ (.tail _ (.tail _ (.tail _ (List.mem_append_right _ hp))))
  · exact .tail _ (.tail _ (.tail _ (.tail _ (List.mem_append_left _ hp)))))
theorem news_sel {g h : Heap} {L : Addr} {a0 a1 a2 a3 a4 a5 a6 a7 a8 : Addr × Obj} (N : News g L h [a0, a1, a2, a3, a4, a5, a6, a7, a8]) : News g L h [a8, a3, a4, a5, a6, a7] := fun p hp => N p (by
  simp only [List.mem_cons, List.not_mem_nil, or_false] at hp ⊢
  rcases hp with h | h | h | h | h | h <;> simp [h])
section
variable {w : World} {loose : List Str} {mean : ExcName → Option Value} {mg mb : Str → Option Value} {x d pb la st : Addr} {txt : Str} {led : List (Addr × Obj)}
theorem Mach.add (M : Mach w loose mean mg mb x d pb la st txt led) {a : Addr} {o : Obj} (h1 : d ≠ a) (h2 : pb ≠ a) (h3 : la ≠ a) : Mach w loose mean mg mb x d pb la st txt ((a, o) :: led) :=
  M.more (fun _ hp => .tail _ hp) (List.forall_mem_cons.mpr ⟨Ne.symm h1, M.nd⟩) (List.forall_mem_cons.mpr ⟨Ne.symm h2, M.npb⟩) (List.forall_mem_cons.mpr ⟨Ne.symm h3, M.nla⟩)
/-- the machine with the ledger of the line's own calls -/
theorem Mach.qm {k1 k2 k3 k4 k5 k6 ti : Tok} {nl i : Nat} {line : Int} (M : Mach w loose mean mg mb x d pb la st txt led) {R : List (Addr × Obj)} (h : ∀ p, p ∈ R ↔ p ∈ (x, instObj 86 d) :: (d, mDict w line st pb k1 k2 k3 k4 k5 k6) :: (la, W.listOf #[.int (i : Int) ti] nl) :: led) :
    QM w loose mean mg mb x pb R := ⟨d, la, st, txt, k1, k2, k3, k4, k5, k6, ti, nl, i, line, led, M, h⟩
/-- all of led is added to the machine -/
theorem Mach.addAll (M : Mach w loose mean mg mb x d pb la st txt led) : ∀ {l : List (Addr × Obj)}, (∀ q ∈ l, q.1 ≠ d) → (∀ q ∈ l, q.1 ≠ pb) → (∀ q ∈ l, q.1 ≠ la) → Mach w loose mean mg mb x d pb la st txt (l ++ led)
  | [], _, _, _ => M
  | q :: l, h1, h2, h3 => (Mach.addAll M (fun p hp => h1 p (.tail _ hp)) (fun p hp => h2 p (.tail _ hp)) (fun p hp => h3 p (.tail _ hp))).add (Ne.symm (h1 q (.head _))) (Ne.symm (h2 q (.head _))) (Ne.symm (h3 q (.head _)))
end
theorem ne92 {L : Nat} (h : 92 < L) : L + 1 + 1 + 1 ≠ 92 ∧ L + 1 + 1 ≠ 92 ∧ L + 1 ≠ 92 := by omega
theorem all5 {P : Addr × Obj → Prop} {a b c d e : Addr × Obj} (h1 : P a) (h2 : P b) (h3 : P c) (h4 : P d) (h5 : P e) : ∀ p ∈ [a, b, c, d, e], P p := fun p hp => by
  simp only [List.mem_cons, List.not_mem_nil, or_false] at hp
  rcases hp with rfl | rfl | rfl | rfl | rfl <;> assumption
theorem off1_of {D : Addr} : ∀ {l : List (Addr × Obj)}, (∀ p ∈ l, p.1 ≠ D) → LCg.Off1 D l
  | [], _ => trivial
  | q :: _, h => ⟨h q (.head _), off1_of fun p hp => h p (.tail _ hp)⟩
noncomputable abbrev tl4 {g h : Heap} {L : Addr} {a b c d : Addr × Obj} {r : List (Addr × Obj)} (_ : News g L h (a :: b :: c :: d :: r)) : List (Addr × Obj) := r
theorem Mach.five {g h : Heap} {L : Addr} {w : World} {loose : List Str} {mean : ExcName → Option Value} {mg mb : Str → Option Value} {x d pb la st : Addr} {txt : Str} {nb : List (Addr × Obj)} {p1 p2 p3 p4 q1 q2 q3 q4 q5 : Addr × Obj}
    (_ : News g L h (p1 :: p2 :: p3 :: p4 :: q1 :: q2 :: q3 :: q4 :: q5 :: nb)) (M : Mach w loose mean mg mb x d pb la st txt nb)
    (d1 : q1.1 ≠ d) (d2 : q2.1 ≠ d) (d3 : q3.1 ≠ d) (d4 : q4.1 ≠ d) (d5 : q5.1 ≠ d) (b1 : q1.1 ≠ pb) (b2 : q2.1 ≠ pb) (b3 : q3.1 ≠ pb) (b4 : q4.1 ≠ pb) (b5 : q5.1 ≠ pb)
    (l1 : q1.1 ≠ la) (l2 : q2.1 ≠ la) (l3 : q3.1 ≠ la) (l4 : q4.1 ≠ la) (l5 : q5.1 ≠ la) : Mach w loose mean mg mb x d pb la st txt (q1 :: q2 :: q3 :: q4 :: q5 :: nb) :=
  M.addAll (l := [q1, q2, q3, q4, q5]) (all5 (P := fun q => q.1 ≠ d) d1 d2 d3 d4 d5) (all5 (P := fun q => q.1 ≠ pb) b1 b2 b3 b4 b5) (all5 (P := fun q => q.1 ≠ la) l1 l2 l3 l4 l5)
theorem take_ns {ls ms : List Int} {j : Nat} (h : j < ls.length) : ls.take (j + 1) = ls.take j ++ [(ls ++ ms).getD j 0] := by
  rw [List.take_add_one, List.getElem?_eq_getElem h, List.getD_eq_getElem?_getD, List.getElem?_append_left h, List.getElem?_eq_getElem h]; rfl
theorem take_ns2 {ls ms : List Int} {j c : Nat} (hc : ls.length = c) (h : j < ms.length) : ms.take (j + 1) = ms.take j ++ [(ls ++ ms).getD (c + j) 0] := by
  subst hc
  rw [List.take_add_one, List.getElem?_eq_getElem h, List.getD_eq_getElem?_getD, List.getElem?_append_right (by omega), show ls.length + j - ls.length = j by omega, List.getElem?_eq_getElem h]; rfl
theorem ints_snoc {zs : List Value} {l l' : List Int} {v : Int} {t : Tok} (h : IntsAre zs l) (e : l' = l ++ [v]) : IntsAre (zs ++ [.int v t]) l' := by
  rw [e]; exact h.append (.cons _ _ .nil)
theorem off3_mach {I C D d pb la : Addr} {l : List (Addr × Obj)} {w : World} {loose : List Str} {mean : ExcName → Option Value} {mg mb : Str → Option Value} {x st : Addr} {txt : Str} {p1 p2 p3 p4 : Obj} {R : List (Addr × Obj)} {oI oC oD : Obj}
    (h : LCg.Off3 I C D ((pb, p1) :: (x, p2) :: (d, p3) :: (la, p4) :: l)) (M : Mach w loose mean mg mb x d pb la st txt R) : Mach w loose mean mg mb x d pb la st txt ((I, oI) :: (C, oC) :: (D, oD) :: R) :=
  ((M.add h.2.2.1.2.2 h.1.2.2 h.2.2.2.1.2.2).add (o := oC) h.2.2.1.2.1 h.1.2.1 h.2.2.2.1.2.1).add (o := oI) h.2.2.1.1 h.1.1 h.2.2.2.1.1
theorem c3_lt {c : Nat} (hc : c = 4 ∨ c = 5) : c + 3 < 64 := by omega
theorem c3_le {c : Nat} (hc : c = 4 ∨ c = 5) : c + 3 ≤ 8 := by omega
theorem lt_of_size {xs : List Value} {ls : List Int} {j : Nat} (h : IntsAre xs ls) (hj : j < xs.toArray.size) : j < ls.length := by
  rw [List.size_toArray, h.length] at hj; exact hj
theorem lt_ns {ns ls : List Int} {c j : Nat} (h : ns.length = c + 3) (h2 : ls.length = c) (hj : j < ls.length) : j < ns.length := by omega
theorem line_h {w : World} {loose : List Str} {mean : ExcName → Option Value} {mg mb : Str → Option Value} (x d st pb l : Addr) (nq : Nat) (R : List (Addr × Obj)) (line : Int) (k1 k2 k3 k4 k5 k6 : Tok) (ns : List Int) (its : List Value) (n : Nat) (hi : IntsAre its ns) (hl : ns.length ≤ 5) (hb : ∀ v ∈ ns, 0 ≤ v ∧ v < 256)
    (hM : QM w loose mean mg mb x pb ((x, instObj 86 d) :: (d, mDict w line st pb k1 k2 k3 k4 k5 k6) :: (l, W.listOf its.toArray n) :: R)) :
    Asks 24 w loose mean mg mb 135 ((pb, W.listOf #[] nq) :: (x, instObj 86 d) :: (d, mDict w line st pb k1 k2 k3 k4 k5 k6) :: (l, W.listOf its.toArray n) :: R) [.ref x, .ref l] (fun h₀ L m s Q => ∀ (h' : Heap) (tk' : Nat) (t : Tok) (q : List Value) (nq' : Nat), StrsAre q ((lineL ns ns.length).map wordOf) → Fr h₀ L h' m →
      News h₀ L h' ((pb, W.listOf q.toArray nq') :: (x, instObj 86 d) :: (d, mDict w line st pb k1 k2 k3 k4 k5 k6) :: (l, W.listOf its.toArray n) :: R) → Q (.int (((lineL ns ns.length).length : Nat) : Int) t) { s with heap := h', toks := tk' }) :=
  asks_sub (law_line_spec w loose mean mg mb x d st pb l nq R line k1 k2 k3 k4 k5 k6 ns its n hi hl hb hM) (fun p hp => hp) fun _ _ _ _ _ h h' tk' t q nq' hq F N => by
    have := h h' tk' t q nq' hq F N
    rw [line_len] at this
    exact this
theorem c5 {c : Nat} (hc : c = 4 ∨ c = 5) {ls : List Int} (h : ls.length = c) : ls.length ≤ 5 := by omega
theorem line32 {c : Nat} (hc : c = 4 ∨ c = 5) {ls : List Int} (h : ls.length = c) : (lineL ls ls.length).length ≤ 32 := by
  rw [line_len, h]
  rcases hc with rfl | rfl <;> decide
section
variable {g h : Heap} {L : Addr} {pb x d la D4 D5 D6 D7 : Addr × Obj} {r : List (Addr × Obj)}
theorem news_l1 (N : News g L h (pb :: x :: d :: la :: D5 :: D4 :: r)) : News g L h (pb :: x :: d :: D4 :: la :: D5 :: r) := fun p hp => N p (by
  simp only [List.mem_cons] at hp ⊢
  rcases hp with h | h | h | h | h | h | h <;> simp [h])
theorem news_l2 (N : News g L h (pb :: x :: d :: D4 :: la :: D5 :: r)) : News g L h (pb :: x :: d :: D5 :: la :: D4 :: r) := fun p hp => N p (by
  simp only [List.mem_cons] at hp ⊢
  rcases hp with h | h | h | h | h | h | h <;> simp [h])
theorem news_l4 (N : News g L h (D7 :: D6 :: pb :: x :: d :: D5 :: la :: D4 :: r)) : News g L h (pb :: x :: d :: la :: D7 :: D6 :: D5 :: D4 :: r) := fun p hp => N p (by
  simp only [List.mem_cons] at hp ⊢
  rcases hp with h | h | h | h | h | h | h | h | h <;> simp [h])
theorem mem_l2 : ∀ p, p ∈ x :: d :: D4 :: la :: D5 :: r ↔ p ∈ x :: d :: la :: D5 :: D4 :: r := fun p => by
  simp only [List.mem_cons]
  constructor <;> (rintro (h | h | h | h | h | h) <;> simp [h])
theorem mem_l3 : ∀ p, p ∈ x :: d :: D5 :: la :: D4 :: r ↔ p ∈ x :: d :: la :: D5 :: D4 :: r := fun p => by
  simp only [List.mem_cons]
  constructor <;> (rintro (h | h | h | h | h | h) <;> simp [h])
end
theorem len_take {xs : List Value} {ls : List Int} (h : IntsAre xs ls) {n : Nat} (hl : ls.length = n) : xs.toArray.size = n := by rw [List.size_toArray, h.length, hl]
theorem c_lt_ns {ns ms : List Int} {c j : Nat} (h : ns.length = c + 3) (h2 : ms.length = 3) (hj : j < ms.length) : c + j < ns.length := by omega
/-- the machine in a comprehension's element, where its line stands second -/
theorem qm_elt {w : World} {loose : List Str} {mean : ExcName → Option Value} {mg mb : Str → Option Value} {x pb I C D e : Addr} {oI oC oD oe ob : Obj} {R : List (Addr × Obj)}
    (h : LCg.Off3 I C D ((e, oe) :: (pb, ob) :: R)) (ne : ((@Ne Nat I C) ∧ (@Ne Nat I D) ∧ (@Ne Nat C D))) (M : QM w loose mean mg mb x pb ((e, oe) :: R)) : QM w loose mean mg mb x pb ((I, oI) :: (C, oC) :: (D, oD) :: (e, oe) :: R) := by
  have hm := h.mem
  have hs : ∀ p ∈ (e, oe) :: R, p ∈ (e, oe) :: (pb, ob) :: R := fun p hp => by
    rcases List.mem_cons.mp hp with rfl | hp
    · exact .head _
    · exact .tail _ (.tail _ hp)
  have hpb := hm _ (.tail _ (.head _))
  refine ((M.add (fun p hp => (hm p (hs p hp)).2.2) hpb.2.2).add (fun p hp => ?_) hpb.2.1).add (fun p hp => ?_) hpb.1
  · rcases List.mem_cons.mp hp with rfl | hp
    · exact Ne.symm ne.2.2
    · exact (hm p (hs p hp)).2.1
  · rcases List.mem_cons.mp hp with rfl | hp
    · exact Ne.symm ne.1
    rcases List.mem_cons.mp hp with rfl | hp
    · exact Ne.symm ne.2.1
    · exact (hm p (hs p hp)).1
noncomputable abbrev tl2 {g h : Heap} {L : Addr} {a b : Addr × Obj} {r : List (Addr × Obj)} (_ : News g L h (a :: b :: r)) : List (Addr × Obj) := r
theorem c_le5 {c : Nat} (hc : c = 4 ∨ c = 5) : c ≤ 5 := by omega
end

section
theorem row64 {L ms : List Int} (h : L.length ≤ 32) : (rowL L ms L.length).length < 64 := by
  have := row_len L ms L.length
  omega
theorem lt_q {L ms : List Int} {rits q : List Value} {j : Nat} (hr : IntsAre rits (rowL L ms L.length)) (hq : StrsAre q ((keptL L ms L.length).map wordOf)) (hj : j < rits.toArray.size) : j < q.length := by
  have := row_len L ms L.length
  rw [List.size_toArray, hr.length] at hj
  rw [hq.length, List.length_map]
  omega
theorem q_size {L ms : List Int} {rits q : List Value} (hr : IntsAre rits (rowL L ms L.length)) (hq : StrsAre q ((keptL L ms L.length).map wordOf)) : q.length ≤ rits.toArray.size ∧ ((keptL L ms L.length).map wordOf).length ≤ rits.toArray.size := by
  have := row_len L ms L.length
  rw [List.size_toArray, hr.length, hq.length, List.length_map]
  omega
theorem q_lt {L ms : List Int} {q : List Value} (hL : L.length ≤ 32) (hq : StrsAre q ((keptL L ms L.length).map wordOf)) (j : Nat) : (q.drop j).length < 1000 := by
  have := row_len L ms L.length
  rw [List.length_drop, hq.length, List.length_map]
  omega
end

section
theorem sh_le {c : Nat} (hc : c = 4 ∨ c = 5) : (2 : Nat) ^ c ≤ 32 := by rcases hc with rfl | rfl <;> decide
theorem rng_small {c : Nat} (hc : c = 4 ∨ c = 5) : Builtin.Range.small 0 (2 ^ (c : Int).toNat) 1 = true := by rcases hc with rfl | rfl <;> decide
theorem rng_size {c : Nat} (hc : c = 4 ∨ c = 5) : Builtin.Range.rangeSize 0 (2 ^ (c : Int).toNat) 1 = ((2 ^ c : Nat) : Int) := by rcases hc with rfl | rfl <;> decide
theorem rng_line {c : Nat} (hc : c = 4 ∨ c = 5) : 2 ^ c ≤ sizeLine := by
  have := sh_le hc
  rw [sizeLine_eq]
  omega
theorem due_len (ls W : List Int) (n : Nat) : (dueL ls W n).length ≤ n := by
  unfold dueL
  rw [List.length_map]
  exact Nat.le_trans (List.length_filter_le _ _) (Nat.le_of_eq List.length_range)
theorem due64 {c : Nat} (hc : c = 4 ∨ c = 5) (ls W : List Int) : (dueL ls W (2 ^ c)).length < 64 := by
  have h1 := sh_le hc
  have h2 := due_len ls W (2 ^ c)
  omega
theorem due_succ (ls W : List Int) (n : Nat) : dueL ls W (n + 1) = dueL ls W n ++ if msum (n : Int) W W.length == 0 then [msum (n : Int) ls ls.length] else [] := by
  unfold dueL
  rw [List.range_succ, List.filter_append, List.map_append]
  congr 1
  by_cases h : (msum (n : Int) W W.length == 0) = true
  · rw [if_pos h, List.filter_cons_of_pos (p := fun m : Nat => msum (m : Int) W W.length == 0) h, List.filter_nil]; rfl
  · rw [if_neg h, List.filter_cons_of_neg (p := fun m : Nat => msum (m : Int) W W.length == 0) h, List.filter_nil]; rfl
theorem due_yes {ls W : List Int} {zs : List Value} {j : Nat} {t : Tok} (e : msum (j : Int) W W.length = 0) (h : IntsAre zs (dueL ls W j)) : IntsAre (zs ++ [.int (msum (j : Int) ls ls.length) t]) (dueL ls W (j + 1)) := by
  rw [due_succ, if_pos (by rw [e]; rfl)]
  exact h.append (.cons _ _ .nil)
theorem due_no {ls W : List Int} {zs : List Value} {j : Nat} (e : ¬ msum (j : Int) W W.length = 0) (h : IntsAre zs (dueL ls W j)) : IntsAre zs (dueL ls W (j + 1)) := by
  rw [due_succ, if_neg (by intro k; exact e (by simpa using k)), List.append_nil]
  exact h
theorem due_bnd {ls : List Int} (hb : ∀ v ∈ ls, 0 ≤ v ∧ v < 256) (W : List Int) (n : Nat) : ∀ v ∈ dueL ls W n, 0 ≤ v ∧ v.natAbs < 16 ^ 6 := by
  intro v hv
  unfold dueL at hv
  obtain ⟨k, -, rfl⟩ := List.mem_map.mp hv
  have := msum_bnd hb (k : Int) ls.length
  have e : (16 : Nat) ^ 6 = 16777216 := rfl
  omega
theorem law_word_h {w : World} {loose : List Str} {mean : ExcName → Option Value} {mg mb : Str → Option Value} (rest : List (Addr × Obj)) (v : Int) (tv : Tok) :
    AsksH 10 w loose mean mg mb 130 rest [.int v tv] (0 ≤ v ∧ v.natAbs < 16 ^ 6) (fun h₀ L m s Q => ∀ (h' : Heap) (tk' : Nat) (t : Tok), Fr h₀ L h' m → News h₀ L h' rest → Q (.str ⟨(hx v.natAbs).toArray⟩ t) { s with heap := h', toks := tk' }) :=
  asksH fun h => law_word_spec w loose mean mg mb rest v tv h.1 h.2
theorem law_sum_v {w : World} {loose : List Str} {mean : ExcName → Option Value} {mg mb : Str → Option Value} (led : List (Addr × Obj)) (mask : Int) (tm : Tok) (l : Addr) (ns : List Int) (its : List Value) (n : Nat) :
    AsksH 10 w loose mean mg mb 104 led [.int mask tm, .ref l] ((l, W.listOf its.toArray n) ∈ led ∧ IntsAre its ns ∧ ns.length < 64) (fun h₀ L m s Q => ∀ (v : Int) (h' : Heap) (tk' : Nat) (t : Tok), v = msum mask ns ns.length → Fr h₀ L h' m → News h₀ L h' led → Q (.int v t) { s with heap := h', toks := tk' }) :=
  fun dp un gd cn cs a ccd cl outer A₀ base h₀ L m s Q E B F X N h T hk hdp hun cd hq => law_sum_in led mask tm l ns its n h.2.1 h.2.2 h.1 dp un gd cn cs a ccd cl outer A₀ base h₀ L m s Q E B F X N T hk hdp hun cd (fun h' tk' t F N => hq _ h' tk' t rfl F N)
theorem news_sel4 {g h : Heap} {L : Addr} {pb x d la D7 D6 D5 D4 D2 D1 L3 L2 L1 q : Addr × Obj} {nb : List (Addr × Obj)} (N : News g L h (pb :: x :: d :: la :: D7 :: D6 :: D5 :: D4 :: D2 :: D1 :: L3 :: L2 :: L1 :: nb)) (hq : q ∈ nb) : News g L h [D2, D7, D6, D1, L3, L2, L1, q] := fun p hp => N p (by
  simp only [List.mem_cons, List.not_mem_nil, or_false] at hp ⊢
  rcases hp with h | h | h | h | h | h | h | h
  · simp [h]
  · simp [h]
  · simp [h]
  · simp [h]
  · simp [h]
  · simp [h]
  · simp [h]
  · subst h; simp [hq])
theorem all7 {P : Addr × Obj → Prop} {a b c d e f g : Addr × Obj} (h1 : P a) (h2 : P b) (h3 : P c) (h4 : P d) (h5 : P e) (h6 : P f) (h7 : P g) : ∀ p ∈ [a, b, c, d, e, f, g], P p := fun p hp => by
  simp only [List.mem_cons, List.not_mem_nil, or_false] at hp
  rcases hp with rfl | rfl | rfl | rfl | rfl | rfl | rfl <;> assumption
theorem grown92 {g h : Heap} {L : Addr} {l : List (Addr × Obj)} {ps : Array Value} (N : News g L h l) (hm : (92, tabObj ps) ∈ l) : GrownAll [(96, 92)] h := ⟨⟨ps, (N _ hm).1⟩, trivial⟩
theorem ints_at {vs : List Value} {ns : List Int} {j : Nat} {v : Value} (h : IntsAre vs ns) (hv : vs.toArray[j]? = some v) : ∃ n t, v = .int n t ∧ ns[j]? = some n ∧ n ∈ ns := by
  obtain ⟨n, t, e, hn⟩ := h.at j v (by simpa using hv)
  exact ⟨n, t, e, hn, List.mem_of_getElem? hn⟩
theorem words_snoc {zs : List Value} {l : List Int} {j : Nat} {n : Int} {t : Tok} (h : l[j]? = some n) (hz : StrsAre zs ((l.take j).map wordOf)) : StrsAre (zs ++ [.str ⟨(hx n.natAbs).toArray⟩ t]) ((l.take (j + 1)).map wordOf) := by
  rw [List.take_add_one, h, List.map_append]
  exact hz.append' (.cons _ _ .nil)
end

section
theorem carried_strs : ∀ {vs : List Value} {ss : List Str}, StrsAre vs ss → CarriedAll vs (ss.map PyData.str)
  | _, _, .nil => .nil
  | _, _, .cons _ t r => .cons (.str _ t) (carried_strs r)
theorem lay_strs : ∀ {ss : List Str}, (∀ x ∈ ss, PyData.strOk x = true) → PyData.canLayAll0 (ss.map PyData.str) = true
  | [], _ => rfl
  | x :: r, h => by
    rw [List.map_cons, PyData.canLayAll0, PyData.canLay0, h x (.head _), lay_strs fun y hy => h y (.tail _ hy)]
    rfl
theorem depth_strs : ∀ ss : List Str, PyData.depthAll (ss.map PyData.str) = 0
  | [] => rfl
  | _ :: r => by simp [PyData.depthAll, PyData.depth, depth_strs r]
theorem shaped_strs {ss : List Str} (h : ∀ x ∈ ss, PyData.strOk x = true) : SeqAt.shaped (.list (ss.map PyData.str)) = true := by
  simp [SeqAt.shaped, PyData.canLay0, PyData.depth, lay_strs h, depth_strs]
theorem same_strs (ss : List Str) : PySem.Spec.same (.list (ss.map PyData.str)) (.list (ss.map PyData.str)) = true := by
  simp only [PySem.Spec.same]
  induction ss with
  | nil => rfl
  | cons x r ih => simp [PySem.Spec.sameAll, PySem.Spec.same, ih]
theorem words_ok {l : List Int} (h : ∀ v ∈ l, 0 ≤ v ∧ v.natAbs < 16 ^ 6) : ∀ x ∈ l.map wordOf, PyData.strOk x = true := by
  intro x hx9
  obtain ⟨v, -, rfl⟩ := List.mem_map.mp hx9
  unfold PyData.strOk
  rw [Array.all_eq_true]
  intro i hi
  have := hx_mem v.natAbs _ (List.getElem_mem (l := hx v.natAbs) (n := i) (by simpa using hi))
  simp only [List.getElem_toArray, decide_eq_true_eq]
  omega
section
variable {prog : Program} {w : World} {A : Around} {E : Value → Shared → Prop} {s : Shared} {a b : Addr} {xs ys : List Value} {ss : List Str} {ns ms : List Int} {Q : Value → Shared → Prop}
theorem eq_strs_same (ha : s.heap.IsList a xs.toArray) (hb : s.heap.IsList b ys.toArray) (hi : StrsAre xs ss) (hj : StrsAre ys ss) (ok : ∀ x ∈ ss, PyData.strOk x = true) (hu : A.units + 64 < cLine) (h : Q (.bool true) s) :
    wpAny (model prog w) A (compareOp .Eq (.ref a) (.ref b)) Q E s :=
  eq_dataH_same (reads_newData ha (carried_strs hi)) (reads_newData hb (carried_strs hj)) (shaped_strs ok) (shaped_strs ok) hu (SeqAt.noMix_of_shape (.list .str) rfl _ _ (list_map_has fun _ => rfl) (list_map_has fun _ => rfl)) (by rw [same_strs]; exact h)
theorem eq_ints_same (ha : s.heap.IsList a xs.toArray) (hb : s.heap.IsList b ys.toArray) (hi : IntsAre xs ns) (hj : IntsAre ys ms) (e : ns = ms) (hu : A.units + 64 < cLine) (h : Q (.bool true) s) :
    wpAny (model prog w) A (compareOp .Eq (.ref a) (.ref b)) Q E s :=
  ke_eq_ints ha hb hi hj hu (by rw [decide_eq_true e]; exact h)
end
end

section
local macro_rules | `(tactic| walk_at "compareOp Eq ref ref") => `(tactic| k_extra "compareOp Eq ref ref")
local macro_rules | `(tactic| walk_at "call builtin:sorted") => `(tactic| k_extra "call builtin:sorted")
local macro_rules | `(tactic| walk_at "CompEnd") => `(tactic| k_extra "CompEnd")
local macro_rules | `(tactic| k_in) => `(tactic| first | k_in_fast | (with_reducible assumption) | exact Frag.In.keeps (by k_asm) (Fr.keep (by k_asm)))
local macro_rules | `(tactic| walk_at "callWith ref") => `(tactic| (k_here; k_dflt (first | (refine' callWith_K ?k1 ?k2 ?_; (case k1 => k_asm); (case k2 => k_is); k_whole) | (refine' callWith_K0 ?k1 ?k2 ?_; (case k1 => k_in); (case k2 => k_is); k_whole))))
local macro_rules | `(tactic| walk_at "exec Return some") => `(tactic| k_extra "exec Return some")
set_option maxHeartbeats 40000000 in
set_option maxRecDepth 100000 in
theorem genQ {α : Type} {M : Model} {A : Around} {t : Sem α} {Q : α → Shared → Prop} {E : Value → Shared → Prop} {s : Shared} (P : (α → Shared → Prop) → Prop) (h2 : P Q) (h1 : ∀ Q' E', P Q' → wpAny M A t Q' E' s) : wpAny M A t Q E s := h1 Q E h2
noncomputable abbrev gOf {g h : Heap} {L : Addr} {m : Str → Option Value} (_ : Fr g L h m) : Heap := g
noncomputable abbrev lOf {g h : Heap} {L : Addr} {m : Str → Option Value} (_ : Fr g L h m) : Addr := L
set_option maxHeartbeats 40000000 in
set_option maxRecDepth 100000 in
theorem dev : Challenge.rw_sr0027_01.Holds := hd (by
  k_with_none
  w_top off
  k_go0
  (all_goals try k_fold)
  (rename @LT.lt Nat _ 92 _ => l0)
  (with_reducible rename Fr _ _ _ _ => kF00)
  (rename Shared => sX)
  refine genQ (fun Q' => ∀ (h' : Heap) (tk' : Nat) (m : Str → Option Value) (ps : Array Value) (nx : List (Addr × Obj)), Fr (gOf kF00) (lOf kF00) h' m → News (gOf kF00) (lOf kF00) h' nx → (92, tabObj ps) ∈ nx → Q' (.ret (.bool true)) { sX with heap := h', toks := tk' }) ?_ ?_
  · intro h' tk' m ps nx F N hm
    dsimp only [gOf, lOf] at F N
    refine ⟨goodW_bool (by with_reducible assumption) (by with_reducible assumption) (raisesW_false ?_) ?_, grown92 N hm⟩
    · wrow_none_raised
    · kc_post
  intro QQ EE hPQ
  dsimp only [gOf, lOf] at hPQ
  (k_with "call ref" => ((with_reducible show wpAny _ _ (call (Value.ref 109) _) _ _ _); refine Halt.h ?_))
  (k_with "call ref" => ((with_reducible show wpAny _ _ (call (Value.ref 116) _) _ _ _); refine Halt.h ?_))
  (k_with "call ref" => ((with_reducible show wpAny _ _ (call (Value.ref 97) _) _ _ _); refine Halt.h ?_))
  (k_with "call ref" => ((with_reducible show wpAny _ _ (call (Value.ref 76) _) _ _ _); refine Halt.h ?_))
  (k_with "call ref" => ((with_reducible show wpAny _ _ (call (Value.ref 135) _) _ _ _); refine Halt.h ?_))
  (k_with "call ref" => ((with_reducible show wpAny _ _ (call (Value.ref 142) _) _ _ _); refine Halt.h ?_))
  (k_with "call ref" => ((with_reducible show wpAny _ _ (call (Value.ref 147) _) _ _ _); refine Halt.h ?_))
  (k_with "call ref" => ((with_reducible show wpAny _ _ (call (Value.ref 123) _) _ _ _); k_dflt (refine' wpAny_call (law_num_of _ _ _ _ _ _ _ _ (by assumption) _ _ _ _ _ _ _ _ _ _ _ _ _ _ _ _ _ (by k_asm) (by k_asm) (by k_asm) (by k_asm) (by k_asm) (by first | exact rfl | assumption) (by ktr_room) (by ktr_units) (by assumption) ?_)); intro h' tk' t9 F9 N9; (try dsimp only); (try k_sweep); (try k_fold)))
  (k_with "call ref" => ((with_reducible show wpAny _ _ (call (Value.ref 104) _) _ _ _); k_dflt (refine' wpAny_call (law_sum_h _ _ _ _ _ _ _ _ _ _ _ _ _ _ _ _ _ _ _ _ _ _ _ _ (by k_asm) (by k_asm) (by k_asm) (by k_asm) ⟨by k_mem, by assumption, by first | assumption | omega⟩ (by k_asm) (by first | exact rfl | assumption) (by ktr_room) (by ktr_units) (by assumption) ?_)); intro h' tk' t9 F9 N9; (try dsimp only); (try k_sweep); (try k_fold)))
  (k_with "eval ListComp" => (k_dflt (refine LCg.ListComp_U (F₀ := by k_asm) (by with_unfolding_all rfl) (by decide) (by rfl) (by decide) (by rfl) ?_); k_dflt lcg_toSrc))
  (k_with "exec Assign cons ListComp" => first | (lct_look; k_dflt (refine LCt.Assign_ListComp_T (F₀ := by k_asm) (by rfl) (by with_unfolding_all rfl) (by with_unfolding_all rfl) (by decide) (by rfl) (by decide) (by rfl) (by rfl) (by rfl) ?_); k_dflt lct_toSrc) | (k_dflt (refine LCg.Assign_ListComp_U (F₀ := by k_asm) (by rfl) (by with_unfolding_all rfl) (by with_unfolding_all rfl) (by decide) (by rfl) (by decide) (by rfl) (by rfl) (by rfl) ?_); k_dflt lcg_toSrc))
  (k_with "CompSrc" => (refine Halt.h ?_))
  (k_with "CompSrcT" => (refine Halt.h ?_))
  (k_with "CompEnd" => (refine Halt.h ?_))
  (k_with "exec Return some" => (refine Halt.h ?_))
  k_steps
  refine ⟨?_⟩
  k_dflt (refine' wpAny_call (law_drawn_h _ _ _ _ _ _ _ _ _ (by assumption) (by omega) _ _ _ _ _ _ _ _ _ _ _ _ _ _ _ _ _ (by k_asm) (by k_asm) (by k_asm) (by k_asm) (by k_asm) (by first | exact rfl | assumption) (by ktr_room) (by ktr_units) (by assumption) (by assumption) ?_))
  intro c gs ls bs xs ys D1 D2 D3 h1 tk1 hc hg0 hls hbs hll hbl hlb hbb hxs hys hne1 hne2 hne3 oD1 oD2 oD3 F9 N9
  (try dsimp only)
  (try k_sweep)
  (try k_fold)
  obtain ⟨m0, kF0⟩ : ∃ m0, Fr _ _ _ m0 := ⟨_, F9⟩
  clear F9
  (rename CellsAre .. => hX0)
  clear hX0
  (rename Dflts .. => hX0)
  clear hX0
  (rename Obj.data _ = Data.cell _ => hX1)
  revert hX1
  (rename Obj.data _ = Data.cell _ => hX1)
  revert hX1
  (rename Obj.data _ = Data.cell _ => hX1)
  revert hX1
  intro hX1 hX2 hX3
  obtain ⟨vX1, hX1⟩ : ∃ v, Obj.data _ = Data.cell v := ⟨_, hX1⟩
  obtain ⟨vX2, hX2⟩ : ∃ v, Obj.data _ = Data.cell v := ⟨_, hX2⟩
  obtain ⟨vX3, hX3⟩ : ∃ v, Obj.data _ = Data.cell v := ⟨_, hX3⟩
  simp only [LCg.Off1, and_true] at oD1 oD2
  simp only [AllLt, and_true] at oD3
  have oD11 := oD1.1
  have oD12 := oD1.2.1
  have oD13 := oD1.2.2.1
  have oD14 := oD1.2.2.2
  have oD21 := oD2.1
  have oD22 := oD2.2.1
  have oD23 := oD2.2.2.1
  have oD24 := oD2.2.2.2
  k_steps
  have hl64 := c_lt hc hll
  have hb64 := three_lt hbl
  refine ⟨LCg.CompSrc.ledger (by rfl) (by k_asm) (by k_asm) (by k_mem) (size_le hys hb64) ?_⟩
  intro g'
  refine restInv (J := fun j zs nx => IntsAre zs ((bs.take j).map fun b => msum b ls ls.length) ∧ nx = _) ⟨.nil, rfl⟩ ?_ ?_
  · intro j v zs news I' oI C oC D m₂ h' tk' E' hj hP hJ0_15 hC hx F' N' off' ne'
    refine foldG9 ?_
    intro GG
    obtain ⟨hzs, rfl⟩ := hJ0_15
    dsimp only [GG]
    clear GG
    obtain ⟨bn, tb, rfl, hbn⟩ := hys.at j v (by simpa using hP)
    have off2 := off'
    simp only [LCg.Off3, and_true] at off'
    k_steps
    exact ⟨LCg.CompEnd.intro (by assumption) (by assumption) _ (fun p hp => hp) off2 (.inr ⟨_, by k_mem, rfl, _, rfl⟩) ⟨⟨sum_take hbn hzs, rfl⟩⟩⟩
  · intro zs news hJ1_2
    refine foldG9 ?_
    intro GG
    obtain ⟨hzs, rfl⟩ := hJ1_2
    dsimp only [GG]
    clear GG
    intro D h3 tk3 F3 N3 off3
    simp only [LCg.Off1, and_true] at off3
    have off31 := off3.1
    have off32 := off3.2.1
    have off33 := off3.2.2.1
    have off34 := off3.2.2.2.1
    have off35 := off3.2.2.2.2.1
    have off36 := off3.2.2.2.2.2.1
    have off37 := off3.2.2.2.2.2.2
    rw [List.take_of_length_le (by rw [List.size_toArray, hys.length]; exact Nat.le_refl _)] at hzs
    obtain ⟨ms, hms⟩ : ∃ ms, ms = bs.map fun b => msum b ls ls.length := ⟨_, rfl⟩
    rw [← hms] at hzs
    obtain ⟨ns, hns⟩ : ∃ ns, ns = ls ++ ms := ⟨_, rfl⟩
    have hmsl : ms.length = 3 := by rw [hms, List.length_map, hbl]
    have hnl : ns.length = c + 3 := by rw [hns, List.length_append, hll, hmsl]
    have hns64 : ns.length < 64 := hnl ▸ c3_lt hc
    have hnsb : ∀ v ∈ ns, v.natAbs < 16 ^ 6 := by rw [hns, hms]; exact page_ok hlb
    have hnv : ∀ j, 0 ≤ ns.getD j 0 ∧ ns.getD j 0 < 256 := by rw [hns, hms]; exact getD_bnd (page_256 hlb)
    have hnz : ∀ j, j < ns.length → ns.getD j 0 ≠ 0 := by rw [hns, hms, hls, hbs]; exact ns_nz hg0 hc
    have htl : (⟨(pageL ns ns.length).toArray⟩ : Str).length < 1000 := page_lt1000 hnsb (hnl ▸ c3_le hc)
    k_steps
    refine ⟨?_⟩
    k_dflt (refine' wpAny_call (law_page_h _ _ ns _ _ _ _ _ _ _ _ _ _ _ _ _ _ _ _ _ _ _ (by k_asm) (by k_asm) (by k_asm) (by k_asm) ⟨by k_mem, by rw [hns]; assumption, hns64, hnsb⟩ (by k_asm) (by first | exact rfl | assumption) (by ktr_room) (by ktr_units) (by assumption) ?_))
    intro h4 tk4 t4 F9 N9
    (try dsimp only)
    (try k_sweep)
    (try k_fold)
    k_steps
    (with_reducible rename News _ _ _ [_, _, _, _, _, _, _, _, _] => kN1)
    have h92 := ne92 l0
    refine ⟨?_⟩
    k_dflt (refine' wpAny_call (reader_new _ _ _ _ _ _ _ _ htl (all5 (Ne.symm oD24) (Ne.symm oD14) h92.1 h92.2.1 h92.2.2) _ _ _ _ _ _ _ _ _ _ _ _ _ _ _ _ _ (by k_asm) (by k_asm) (by k_asm) (news_sel kN1) (by k_asm) (by first | exact rfl | assumption) (by ktr_room) (by ktr_units) (by assumption) ?_))
    intro x d pb la st k1 k2 k3 k4 k5 k6 ti nb h5 tk5 F9 N9 npb nx nd nla nnb hps92 hM
    obtain ⟨ps92, hps92⟩ := hps92
    have kN2 := news_nb N9
    clear N9
    simp only [List.cons_append, List.nil_append] at kN2
    have npb1 := off1_of npb
    have nx1 := off1_of nx
    have nd1 := off1_of nd
    have nla1 := off1_of nla
    simp only [LCg.Off1, and_true] at npb1 nx1 nd1 nla1
    have npb2 := npb1.1
    have npb3 := npb1.2.1
    have npb4 := npb1.2.2.1
    have npb5 := npb1.2.2.2.1
    have npb6 := npb1.2.2.2.2
    have nx2 := nx1.1
    have nx3 := nx1.2.1
    have nx4 := nx1.2.2.1
    have nx5 := nx1.2.2.2.1
    have nx6 := nx1.2.2.2.2
    have nd2 := nd1.1
    have nd3 := nd1.2.1
    have nd4 := nd1.2.2.1
    have nd5 := nd1.2.2.2.1
    have nd6 := nd1.2.2.2.2
    have nla2 := nla1.1
    have nla3 := nla1.2.1
    have nla4 := nla1.2.2.1
    have nla5 := nla1.2.2.2.1
    have nla6 := nla1.2.2.2.2
    have hxd := neN hM.xd
    have hxpb := neN hM.xpb
    have hxla := neN hM.xla
    have hdpb := neN hM.dpb
    have hdla := neN hM.dla
    have hpbla := neN hM.pbla
    have hnb1 : ∀ p ∈ nb, p.1 ≠ D2 := fun p hp => Ne.symm (nnb p hp _ (.head _))
    have hnb2 : ∀ p ∈ nb, p.1 ≠ D1 := fun p hp => Ne.symm (nnb p hp _ (.tail _ (.head _)))
    have hnb3 := fun p hp => Ne.symm (nnb p hp _ (.tail _ (.tail _ (.head _))))
    have hnb4 := fun p hp => Ne.symm (nnb p hp _ (.tail _ (.tail _ (.tail _ (.head _)))))
    have hnb5 := fun p hp => Ne.symm (nnb p hp _ (.tail _ (.tail _ (.tail _ (.tail _ (.head _))))))
    dsimp only at hnb3 hnb4 hnb5
    (try dsimp only)
    (try k_sweep)
    (try k_fold)
    k_steps
    (with_reducible rename News _ _ _ ((pb, _) :: _) => kN3)
    have hMR := Mach.five kN3 hM nd2 nd3 nd4 nd5 nd6 npb2 npb3 npb4 npb5 npb6 nla2 nla3 nla4 nla5 nla6
    refine ⟨LCg.CompSrc.ledger (by rfl) (by k_asm) (by k_asm) (by k_mem) (size_le hxs hl64) ?_⟩
    intro g'
    refine restInv (J := fun j zs nx => ∃ (k2' ti' : Tok), IntsAre zs (ls.take j) ∧ nx = (pb, W.listOf #[] 0) :: (x, instObj 86 d) :: (d, mDict _ (1 + ((j / 2 : Nat) : Int)) st pb k1 k2' k3 k4 k5 k6) :: (la, W.listOf #[.int (posOf ns j : Nat) ti'] 0) :: tl4 kN3) ⟨_, _, .nil, rfl⟩ ?_ ?_
    · intro j v2 zs2 news I' oI C oC D4 m₂ h' tk' E' hj hP hJ2_15 hC hx' F' N' off' ne'
      refine foldG9 ?_
      intro GG
      obtain ⟨k2', ti', hz2, rfl⟩ := hJ2_15
      dsimp only [GG]
      clear GG
      have hj2 : j < ls.length := lt_of_size hxs hj
      have hM' := off3_mach (oI := oI) (oC := oC) (oD := LCg.lst zs2) off' hMR
      have hv9 := hnv j
      have off2 := off'
      dsimp only [tl4] at N' off'
      simp only [LCg.Off3, and_true] at off'
      k_steps
      (with_reducible rename News _ _ _ ((I', _) :: _) => kN4)
      refine ⟨?_⟩
      k_dflt (refine' wpAny_call (tok_spec _ _ _ _ _ _ ns ns.length j x d pb la st k1 k2' k3 k4 k5 k6 ti' 0 0 (lt_ns hnl hll hj2) (fun _ => hnz j (lt_ns hnl hll hj2)) htl hM' _ _ _ _ _ _ _ _ _ _ _ _ _ _ _ _ _ (by k_asm) (by k_asm) (by k_asm) (news_rot [_, _, _] [_, _, _, _] kN4) (by k_asm) (by first | exact rfl | assumption) (by ktr_room) (by ktr_units) (by assumption) ?_))
      intro k2'' ti'' t9 h9 tk9 F9 N9
      have kN5 := news_rot [_, _, _, _] [_, _, _] N9
      clear N9
      (try simp only [List.cons_append, List.nil_append] at kN5)
      (try dsimp only)
      (try k_sweep)
      (try k_fold)
      k_steps
      (with_reducible rename News _ _ _ ((I', _) :: _) => kN6)
      exact ⟨LCg.CompEnd.intro (by assumption) kN6 _ (fun p hp => hp) off2 (.inr ⟨_, .tail _ (.tail _ (.tail _ (.tail _ (.tail _ (.head _))))), rfl, _, rfl⟩) ⟨⟨_, _, ints_snoc hz2 (by rw [hns]; exact take_ns hj2), rfl⟩⟩⟩
    · intro zs2 news hJ3_2
      refine foldG9 ?_
      intro GG
      obtain ⟨k2', ti', hz2, rfl⟩ := hJ3_2
      dsimp only [GG]
      clear GG
      intro D4 h6 tk6 F6 N6 off6
      have hxc : xs.toArray.size = c := by rw [List.size_toArray, hxs.length, hll]
      rw [hxc] at hz2 N6
      rw [List.take_of_length_le (Nat.le_of_eq hll)] at hz2
      have hoff6 := off1_mem off6
      have hMR2 := hMR.add (a := D4) (o := LCg.lst zs2) (hoff6 _ (.tail _ (.tail _ (.head _)))) (hoff6 _ (.head _)) (hoff6 _ (.tail _ (.tail _ (.tail _ (.head _)))))
      have kN7 := news_rot [_] [_, _, _, _] N6
      clear N6
      dsimp only [tl4] at kN7 off6 hMR2 hoff6
      (try simp only [List.cons_append, List.nil_append] at kN7)
      simp only [LCg.Off1, and_true] at off6
      have o6a := off6.1
      have o6b := off6.2.1
      have o6c := off6.2.2.1
      have o6d := off6.2.2.2.1
      have o6e := off6.2.2.2.2.1
      have o6f := off6.2.2.2.2.2.1
      have o6g := off6.2.2.2.2.2.2.1
      have o6h := off6.2.2.2.2.2.2.2.1
      have o6i := off6.2.2.2.2.2.2.2.2.1
      have o6j := off6.2.2.2.2.2.2.2.2.2
      have hnb6 := off1_mem o6j
      dsimp only
      (try k_sweep)
      (try k_fold)
      k_steps
      (with_reducible rename News _ _ _ ((pb, _) :: _) => kN3b)
      refine ⟨LCg.CompSrc.ledger (by rfl) (by k_asm) (by k_asm) (by k_mem) (size_le hys hb64) ?_⟩
      intro g'
      refine restInv (J := fun j zs nx => ∃ (k2'' ti'' : Tok), IntsAre zs (ms.take j) ∧ nx = (pb, W.listOf #[] 0) :: (x, instObj 86 d) :: (d, mDict _ (1 + (((c + j) / 2 : Nat) : Int)) st pb k1 k2'' k3 k4 k5 k6) :: (la, W.listOf #[.int (posOf ns (c + j) : Nat) ti''] 0) :: tl4 kN3b) ⟨_, _, .nil, rfl⟩ ?_ ?_
      · intro j v2 zs3 news I' oI C oC D5 m₂ h' tk' E' hj hP hJ4_15 hC hx' F' N' off' ne'
        refine foldG9 ?_
        intro GG
        obtain ⟨k2'', ti'', hz3, rfl⟩ := hJ4_15
        dsimp only [GG]
        clear GG
        have hj2 : j < ms.length := by rw [hmsl, ← hbl]; exact lt_of_size hys hj
        have hM' := off3_mach (oI := oI) (oC := oC) (oD := LCg.lst zs3) off' hMR2
        have hv9 := hnv (c + j)
        have off2 := off'
        dsimp only [tl4] at N' off'
        simp only [LCg.Off3, and_true] at off'
        k_steps
        (with_reducible rename News _ _ _ ((I', _) :: _) => kN4)
        refine ⟨?_⟩
        k_dflt (refine' wpAny_call (tok_spec _ _ _ _ _ _ ns ns.length (c + j) x d pb la st k1 k2'' k3 k4 k5 k6 ti'' 0 0 (c_lt_ns hnl hmsl hj2) (fun _ => hnz (c + j) (c_lt_ns hnl hmsl hj2)) htl hM' _ _ _ _ _ _ _ _ _ _ _ _ _ _ _ _ _ (by k_asm) (by k_asm) (by k_asm) (news_rot [_, _, _] [_, _, _, _] kN4) (by k_asm) (by first | exact rfl | assumption) (by ktr_room) (by ktr_units) (by assumption) ?_))
        intro k2'' ti'' t9 h9 tk9 F9 N9
        have kN5 := news_rot [_, _, _, _] [_, _, _] N9
        clear N9
        (try simp only [List.cons_append, List.nil_append] at kN5)
        (try dsimp only)
        (try k_sweep)
        (try k_fold)
        k_steps
        (with_reducible rename News _ _ _ ((I', _) :: _) => kN6)
        exact ⟨LCg.CompEnd.intro (by assumption) kN6 _ (fun p hp => hp) off2 (.inr ⟨_, .tail _ (.tail _ (.tail _ (.tail _ (.tail _ (.head _))))), rfl, _, rfl⟩) ⟨⟨_, _, ints_snoc hz3 (by rw [hns]; exact take_ns2 hll hj2), rfl⟩⟩⟩
      · intro zs3 news hJ5_2
        refine foldG9 ?_
        intro GG
        obtain ⟨k2'', ti'', hz3, rfl⟩ := hJ5_2
        dsimp only [GG]
        clear GG
        intro D5 h6 tk6 F6 N6 off6
        have hyc := len_take hys hbl
        rw [hyc] at hz3 N6
        rw [← hnl] at N6
        rw [List.take_of_length_le (Nat.le_of_eq hmsl)] at hz3
        have hoff6 := off1_mem off6
        have hMR3 := hMR2.add (a := D5) (o := LCg.lst zs3) (hoff6 _ (.tail _ (.tail _ (.head _)))) (hoff6 _ (.head _)) (hoff6 _ (.tail _ (.tail _ (.tail _ (.head _)))))
        have kN8 := news_rot [_] [_, _, _, _] N6
        clear N6
        dsimp only [tl4] at kN8 off6 hMR3 hoff6
        (try simp only [List.cons_append, List.nil_append] at kN8)
        simp only [LCg.Off1, and_true] at off6
        have o7a := off6.1
        have o7b := off6.2.1
        have o7c := off6.2.2.1
        have o7d := off6.2.2.2.1
        have o7e := off6.2.2.2.2.1
        have o7f := off6.2.2.2.2.2.1
        have o7g := off6.2.2.2.2.2.2.1
        have o7h := off6.2.2.2.2.2.2.2.1
        have o7i := off6.2.2.2.2.2.2.2.2.1
        have o7j := off6.2.2.2.2.2.2.2.2.2.1
        have o7k := off6.2.2.2.2.2.2.2.2.2.2
        have hnb7 := off1_mem o7k
        dsimp only
        (try k_sweep)
        (try k_fold)
        k_steps
        (with_reducible rename News _ _ _ ((pb, _) :: _) => kN9)
        refine ⟨?_⟩
        k_dflt (refine' wpAny_call (line_h x d st pb D4 0 _ _ k1 _ k3 k4 k5 k6 ls zs2 zs2.length hz2 (c5 hc hll) hlb (hMR3.qm mem_l2) _ _ _ _ _ _ _ _ _ _ _ _ _ _ _ _ _ (by k_asm) (by k_asm) (by k_asm) (news_l1 kN9) (by k_asm) (by first | exact rfl | assumption) (by ktr_room) (by ktr_units) (by assumption) ?_))
        intro h10 tk10 t10 q1 nq1 hq1 F10 N10
        have kN10 := news_l2 N10
        clear N10
        (try dsimp only)
        (try k_sweep)
        (try k_fold)
        k_steps
        (with_reducible rename News _ _ _ ((pb, _) :: _) => kN11)
        refine ⟨?_⟩
        k_dflt (refine' wpAny_call (law_chosen_spec _ _ _ _ _ x d st pb D5 _ _ _ k1 _ k3 k4 k5 k6 _ ms (lineL ls ls.length) zs3 q1 zs3.length hz3 (three_lt hmsl) (line32 hc hll) (line_bnd hlb _) hq1 (hMR3.qm mem_l3) _ _ _ _ _ _ _ _ _ _ _ _ _ _ _ _ _ (by k_asm) (by k_asm) (by k_asm) kN11 (by k_asm) (by first | exact rfl | assumption) (by ktr_room) (by ktr_units) (by assumption) ?_))
        intro h11 tk11 D6 q2 rits nq2 nr hq2 hri hp6 hof6 F11 N11
        (try dsimp only)
        (try k_sweep)
        (try k_fold)
        k_steps
        (with_reducible rename News _ _ _ ((D6, _) :: _) => kN12)
        have hL32 := line32 hc hll
        have hQ6 := (hMR3.qm (R := tl2 kN12) mem_l3).add (a := D6) (o := W.listOf rits.toArray nr) hof6 hp6
        refine ⟨LCg.CompSrc.ledger (by rfl) (by k_asm) (by k_asm) (by k_mem) (size_le hri (row64 hL32)) ?_⟩
        intro g'
        refine restInv (J := fun j zs nx => ∃ nq3, StrsAre zs (((keptL (lineL ls ls.length) ms (lineL ls ls.length).length).map wordOf).take j) ∧ nx = (D6, W.listOf rits.toArray nr) :: (pb, W.listOf (q2.drop j).toArray nq3) :: tl2 kN12) ⟨nq2, .nil, rfl⟩ ?_ ?_
        · intro j v2 zs4 news I' oI C oC D7 m₂ h' tk' E' hj hP hJ6_15 hC hx' F' N' off' ne'
          refine foldG9 ?_
          intro GG
          obtain ⟨nq3, hz4, rfl⟩ := hJ6_15
          dsimp only [GG]
          clear GG
          have hj3 := lt_q hri hq2 hj
          have hQ7 := qm_elt (oI := oI) (oC := oC) (oD := LCg.lst zs4) off' ne' hQ6
          have off2 := off'
          rw [List.drop_eq_getElem_cons hj3] at N'
          dsimp only [tl2] at N' off' hQ7
          simp only [LCg.Off3, and_true] at off'
          k_steps
          (with_reducible rename News _ _ _ ((I', _) :: _) => kN4)
          refine ⟨?_⟩
          k_dflt (refine' wpAny_call (qpop hQ7 (q2.drop (j + 1)) nq3 _ (q_lt hL32 hq2 _) _ _ _ _ _ _ _ _ _ _ _ _ _ _ _ _ _ (by k_asm) (by k_asm) (by k_asm) (news_up [_, _, _, _] kN4) (by k_asm) (by first | exact rfl | assumption) (by ktr_room) (by ktr_units) (by assumption) ?_))
          intro h9 tk9 F9 N9
          have kN5 := news_dn [_, _, _, _] N9
          clear N9
          (try simp only [List.cons_append, List.nil_append] at kN5)
          (try dsimp only)
          (try k_sweep)
          (try k_fold)
          k_steps
          exact ⟨LCg.CompEnd.intro (by assumption) kN5 _ (fun p hp => hp) off2 (.inr ⟨_, .head _, rfl, _, rfl⟩) ⟨⟨_, strs_take hq2 (List.getElem?_eq_getElem hj3) hz4, rfl⟩⟩⟩
        · intro zs4 news hJ7_2
          refine foldG9 ?_
          intro GG
          obtain ⟨nq3, hz4, rfl⟩ := hJ7_2
          dsimp only [GG]
          clear GG
          intro D7 h6 tk6 F6 N6 off6
          have hqs := q_size hri hq2
          rw [List.drop_eq_nil_of_le hqs.1] at N6
          rw [List.take_of_length_le hqs.2] at hz4
          have hoff6 := off1_mem off6
          have hMR4 := (hMR3.add (a := D6) (o := W.listOf rits.toArray nr) (hof6 _ (.tail _ (.head _))) hp6 (hof6 _ (.tail _ (.tail _ (.tail _ (.head _)))))).add (a := D7) (o := LCg.lst zs4) (hoff6 _ (.tail _ (.tail _ (.tail _ (.head _))))) (hoff6 _ (.tail _ (.head _))) (hoff6 _ (.tail _ (.tail _ (.tail _ (.tail _ (.tail _ (.head _)))))))
          have kN13 := news_l4 N6
          clear N6
          dsimp only [tl2] at kN13 off6
          have hof6' := off1_of hof6
          simp only [LCg.Off1, and_true] at off6 hof6'
          have o8a := off6.1
          have o8b := off6.2.1
          have o8c := off6.2.2.1
          have o8d := off6.2.2.2.1
          have o8e := off6.2.2.2.2.1
          have o8f := off6.2.2.2.2.2.1
          have o8g := off6.2.2.2.2.2.2.1
          have o8h := off6.2.2.2.2.2.2.2.1
          have o8i := off6.2.2.2.2.2.2.2.2.1
          have o8j := off6.2.2.2.2.2.2.2.2.2.1
          have o8k := off6.2.2.2.2.2.2.2.2.2.2.1
          have o8l := off6.2.2.2.2.2.2.2.2.2.2.2.1
          have o8m := off6.2.2.2.2.2.2.2.2.2.2.2.2
          have o9c := hof6'.1
          have o9d := hof6'.2.1
          have o9e := hof6'.2.2.1
          have o9f := hof6'.2.2.2.1
          have o9g := hof6'.2.2.2.2.1
          have o9h := hof6'.2.2.2.2.2.1
          have o9i := hof6'.2.2.2.2.2.2.1
          have o9j := hof6'.2.2.2.2.2.2.2.1
          have o9k := hof6'.2.2.2.2.2.2.2.2.1
          have o9l := hof6'.2.2.2.2.2.2.2.2.2.1
          have o9m := hof6'.2.2.2.2.2.2.2.2.2.2
          have hnb8 := off1_mem o8m
          have hnb9 := off1_mem o9m
          dsimp only
          (try k_sweep)
          (try k_fold)
          k_steps
          (with_reducible rename News _ _ _ ((pb, _) :: _) => kN14)
          refine ⟨?_⟩
          k_dflt (refine' wpAny_call (tok_end _ _ _ _ _ _ ns ns.length x d pb la st k1 _ k3 k4 k5 k6 _ _ 0 htl hMR4 _ _ _ _ _ _ _ _ _ _ _ _ _ _ _ _ _ (by k_asm) (by k_asm) (by k_asm) kN14 (by k_asm) (by first | exact rfl | assumption) (by ktr_room) (by ktr_units) (by assumption) ?_))
          intro k2e tie te pe h12 tk12 F12 N12
          (try dsimp only)
          (try k_sweep)
          (try k_fold)
          have hcnt := count_page ns ns.length
          k_steps
          · exact absurd (congrArg (fun z => 1 + z) hcnt.symm) (by assumption)
          (with_reducible rename News _ _ _ ((pb, _) :: _) => kN15)
          refine ⟨?_⟩
          k_dflt (refine' wpAny_call (worths_h _ c _ _ D2 bs ys ys.length hys hb64 (c_le5 hc) (bans_32 hc hbb) _ _ _ _ _ _ _ _ _ _ _ _ _ _ _ _ _ (by k_asm) (by k_asm) (by k_asm) (news_sel4 kN15 hps92) ⟨all7 (Ne.symm o8h) (Ne.symm o9h) hne1 oD21 oD22 oD23 oD24, by first | exact congrArg Int.ofNat hll | (simp only [List.size_toArray]; first | done | rw [hxs.length, hll])⟩ (by k_asm) (by first | exact rfl | assumption) (by ktr_room) (by ktr_units) (by assumption) ?_))
          intro D8 h13 tk13 wits nw hwits hne8 hof8 F13 N13
          have hof8' := off1_of hof8
          have hne8' := neN hne8
          simp only [LCg.Off1, and_true] at hof8'
          have oAa := hof8'.1
          have oAb := hof8'.2.1
          have oAc := hof8'.2.2.1
          have oAd := hof8'.2.2.2.1
          have oAe := hof8'.2.2.2.2.1
          have oAf := hof8'.2.2.2.2.2.1
          have oAg := hof8'.2.2.2.2.2.2
          have hwl : (worthsL bs c).length < 64 := by rw [worths_len]; exact c_lt64 hc
          (try dsimp only)
          (try k_sweep)
          (try k_fold)
          k_steps
          (with_reducible rename IsRange .. => kR1)
          (with_reducible rename News _ _ _ ((D8, _) :: _) => kN16)
          (try clear hMR); (try clear hMR2); (try clear hMR3); (try clear hMR4); (try clear hQ6); (try clear hM); (try clear hoff6); (try clear hof6); (try clear hof8); (try clear npb); (try clear nx); (try clear nd); (try clear nla); (try clear nnb); (try clear hne1); (try clear hne2); (try clear hne3); (try clear oD3); (try clear oD11); (try clear oD12); (try clear oD13); (try clear oD14); (try clear oD21); (try clear oD22); (try clear oD23); (try clear oD24); (try clear off31); (try clear off32); (try clear off33); (try clear off34); (try clear off35); (try clear off36); (try clear off37); (try clear h92); (try clear npb2); (try clear npb3); (try clear npb4); (try clear npb5); (try clear npb6); (try clear nx2); (try clear nx3); (try clear nx4); (try clear nx5); (try clear nx6); (try clear nd2); (try clear nd3); (try clear nd4); (try clear nd5); (try clear nd6); (try clear nla2); (try clear nla3); (try clear nla4); (try clear nla5); (try clear nla6); (try clear hxd); (try clear hxpb); (try clear hxla); (try clear hdpb); (try clear hdla); (try clear hpbla); (try clear hnb1); (try clear hnb2); (try clear hnb3); (try clear hnb4); (try clear hnb5); (try clear hnb6); (try clear hnb7); (try clear hnb8); (try clear hnb9); (try clear o6a); (try clear o6b); (try clear o6c); (try clear o6d); (try clear o6e); (try clear o6f); (try clear o6g); (try clear o6h); (try clear o6i); (try clear o6j); (try clear o7a); (try clear o7b); (try clear o7c); (try clear o7d); (try clear o7e); (try clear o7f); (try clear o7g); (try clear o7h); (try clear o7i); (try clear o7j); (try clear o7k); (try clear o8a); (try clear o8b); (try clear o8c); (try clear o8d); (try clear o8e); (try clear o8f); (try clear o8g); (try clear o8h); (try clear o8i); (try clear o8j); (try clear o8k); (try clear o8l); (try clear o8m); (try clear o9c); (try clear o9d); (try clear o9e); (try clear o9f); (try clear o9g); (try clear o9h); (try clear o9i); (try clear o9j); (try clear o9k); (try clear o9l); (try clear o9m); (try clear hne8); (try clear hne8'); (try clear oAa); (try clear oAb); (try clear oAc); (try clear oAd); (try clear oAe); (try clear oAf); (try clear oAg); (try clear hp6); (try clear hq1); (try clear hq2); (try clear hL32); (try clear hqs); (try clear hcnt); (try clear hyc); (try clear hxc); (try clear hQ6); (try clear kN12); (try clear hzs); (try clear hz2); (try clear hz3); (try clear hnl); (try clear hmsl); (try clear hns64); (try clear hnsb); (try clear hnv); (try clear hnz); (try clear htl)
          refine ⟨LCt.CompSrcT.range (n := 2 ^ c) (by rfl) (by k_asm) (by k_asm) (by assumption) (rng_small hc) (rng_size hc) (rng_line hc) ?_⟩
          intro g'
          refine restInvT (J := fun j zs nx => IntsAre zs (dueL ls (worthsL bs c) j) ∧ nx = _) ⟨.nil, rfl⟩ ?_ ?_
          · intro j v2 zs5 news I' oI C oC D9 m₂ h' tk' E' hj hJ8_14 hJ8_15 hC hx' F' N' off' ne'
            refine foldG9 ?_
            intro GG
            obtain ⟨tv, hP⟩ := hJ8_14
            obtain ⟨hz5, rfl⟩ := hJ8_15
            dsimp only [GG]
            clear GG
            rw [Int.zero_add] at hP
            subst hP
            have off2 := off'
            simp only [LCg.Off3, and_true] at off'
            k_with_none
            (k_with "call ref" => (refine Halt.h ?_))
            (k_with "ite" => (refine Halt.h ?_))
            k_steps
            refine ⟨?_⟩
            k_dflt (refine' wpAny_call (law_sum_v _ _ _ _ _ _ _ _ _ _ _ _ _ _ _ _ _ _ _ _ _ _ _ _ (by k_asm) (by k_asm) (by k_asm) (by k_asm) ⟨by k_mem, by assumption, by assumption⟩ (by k_asm) (by first | exact rfl | assumption) (by ktr_room) (by ktr_units) (by assumption) ?_))
            intro u9 h' tk' t9 hu9 F9 N9
            (try dsimp only)
            (try k_sweep)
            (try k_fold)
            k_steps
            refine ⟨?_⟩
            k_with_none
            (k_with "call ref" => (refine Halt.h ?_))
            by_cases hz : u9 = 0
            · refine PySem.W.ite_pos (by rw [hz]; rfl) ?_
              k_steps
              refine ⟨?_⟩
              k_dflt (refine' wpAny_call (law_sum_v _ _ _ _ _ _ _ _ _ _ _ _ _ _ _ _ _ _ _ _ _ _ _ _ (by k_asm) (by k_asm) (by k_asm) (by k_asm) ⟨by k_mem, by assumption, by assumption⟩ (by k_asm) (by first | exact rfl | assumption) (by ktr_room) (by ktr_units) (by assumption) ?_))
              intro u8 h'' tk'' t8 hu8 F8 N8
              (try dsimp only)
              (try k_sweep)
              (try k_fold)
              subst hu8
              exact LCg.CompEnd.intro (by assumption) (by assumption) _ (fun p hp => hp) off2 trivial ⟨⟨due_yes (hu9.symm.trans hz) hz5, rfl⟩⟩
            · refine PySem.W.ite_neg (by simpa using hz) ?_
              exact LCg.CompEnd.intro (by assumption) (by assumption) _ (fun p hp => hp) off2 trivial ⟨⟨due_no (fun e => hz (hu9.trans e)) hz5, rfl⟩⟩
          · intro zs5 news hJ9_2
            refine foldG9 ?_
            intro GG
            obtain ⟨hz5, rfl⟩ := hJ9_2
            dsimp only [GG]
            clear GG
            intro D9 h14 tk14 F14 N14 off14
            simp only [LCg.Off1, and_true] at off14
            obtain ⟨due, hdue⟩ : ∃ due, due = dueL ls (worthsL bs c) (2 ^ c) := ⟨_, rfl⟩
            have hk := (row_is hg0 hc hls hbs hms).trans hdue.symm
            have hd64 : due.length < 64 := by rw [hdue]; exact due64 hc _ _
            have hdb : ∀ v ∈ due, 0 ≤ v ∧ v.natAbs < 16 ^ 6 := by rw [hdue]; exact due_bnd hlb _ _
            rw [← hdue] at hz5
            rw [hk] at hz4
            (k_with "exec Return some" => (refine Halt.h ?_))
            k_steps
            k_with_none
            (k_with "call ref" => ((with_reducible show wpAny _ _ (call (Value.ref 130) _) _ _ _); k_dflt (refine' wpAny_call (law_word_h _ _ _ _ _ _ _ _ _ _ _ _ _ _ _ _ _ _ _ _ (by k_asm) (by k_asm) (by k_asm) (by k_asm) (by assumption) (by k_asm) (by first | exact rfl | assumption) (by ktr_room) (by ktr_units) (by assumption) ?_)); intro h' tk' t9 F9 N9; (try dsimp only); (try k_sweep); (try k_fold)))
            (k_with "eval ListComp" => (k_dflt (refine LCg.ListComp_U (F₀ := by k_asm) (by with_unfolding_all rfl) (by decide) (by rfl) (by decide) (by rfl) ?_); k_dflt lcg_toSrc))
            (k_with "CompSrc" => (refine Halt.h ?_))
            (k_with "CompEnd" => (refine Halt.h ?_))
            refine ⟨?_⟩
            k_steps
            (with_reducible rename News _ _ _ ((D9, _) :: _) => kN17)
            refine ⟨LCg.CompSrc.ledger (by rfl) (by k_asm) (by k_asm) (by k_mem) (size_le hz5 hd64) ?_⟩
            intro g'
            refine restInv (J := fun j zs nx => StrsAre zs ((due.take j).map wordOf) ∧ nx = _) ⟨.nil, rfl⟩ ?_ ?_
            · intro j v2 zs6 news I' oI C oC DA m₂ h' tk' E' hj hP hJ10_15 hC hx' F' N' off' ne'
              refine foldG9 ?_
              intro GG
              obtain ⟨hz6, rfl⟩ := hJ10_15
              dsimp only [GG]
              clear GG
              obtain ⟨bn, tb, rfl, hbn, hmem⟩ := ints_at hz5 hP
              have hbb9 := hdb bn hmem
              have off2 := off'
              simp only [LCg.Off3, and_true] at off'
              k_steps
              exact ⟨LCg.CompEnd.intro (by assumption) (by assumption) _ (fun p hp => hp) off2 (.inr ⟨_, by k_mem, rfl, _, rfl⟩) ⟨⟨words_snoc hbn hz6, rfl⟩⟩⟩
            · intro zs6 news hJ11_2
              refine foldG9 ?_
              intro GG
              obtain ⟨hz6, rfl⟩ := hJ11_2
              dsimp only [GG]
              clear GG
              intro DA h15 tk15 F15 N15 off15
              simp only [LCg.Off1, and_true] at off15
              rw [List.take_of_length_le (by rw [List.size_toArray, hz5.length]; exact Nat.le_refl _)] at hz6
              (try dsimp only)
              (try k_sweep)
              (try k_fold)
              have hwok := words_ok hdb
              have hrs : ∀ ns', ns'.Perm due → ns'.Pairwise (· ≤ ·) → rowL (lineL ls ls.length) ms (lineL ls ls.length).length = ns' := fun _ h1 h2 => row_sort hk h1 h2
              k_dflt (refine' eq_strs_same (kso_isList (by k_asm) (by k_mem) rfl) (kso_isList (by k_asm) (by k_mem) rfl) hz4 hz6 hwok (by units_room) ?_)
              k_with_none
              (k_with "call builtin:sorted" => (refine Halt.h ?_))
              k_steps
              refine ⟨?_⟩
              k_dflt (refine' kso_sorted (by k_asm) (by k_asm) (kso_isList (by k_asm) (by k_mem) rfl) hz5 hd64 ?_)
              intro DB vs' ns' n' h16 F16 F16n l16 hi' he' hp' ho' hb'
              clear hb' he' l16
              have hrs' := hrs _ hp' ho'
              k_with_none
              (k_with "compareOp Eq ref ref" => (refine Halt.h ?_))
              k_steps
              refine ⟨?_⟩
              k_dflt (refine' eq_ints_same (kso_isList (by k_asm) (by k_mem) rfl) (kso_isList (by k_asm) (by k_mem) rfl) hri hi' hrs' (by units_room) ?_)
              exact hPQ _ _ _ _ _ F16 F16n (by k_mem))
end
end Mine
theorem PySem.Challenge.cw_sr0027_01_holds : PySem.Challenge.rw_sr0027_01.Holds :=
  Mine.dev
