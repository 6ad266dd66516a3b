import PyProof.Rows.All
import Wide.All
import OpenK.AllK
import Wide.FinOn
import PySem.Challenge.RW_oy0415_01
set_option maxRecDepth 100000
set_option maxHeartbeats 0
set_option Elab.async false
set_option linter.all false
set_option compiler.extract_closed false
namespace Mine
section
noncomputable def safeC (c : Nat) : Bool := (97 ≤ c && c ≤ 122) || (65 ≤ c && c ≤ 90) || (48 ≤ c && c ≤ 57) || [95, 64, 37, 43, 61, 58, 44, 46, 47, 45].contains c
noncomputable def plainC (c : Nat) : Bool := c == 9 || (32 ≤ c && c ≤ 126 && c != 61)
noncomputable def hexC (d : Nat) : Nat := if d < 10 then 48 + d else 55 + d
noncomputable def shownC (c : Nat) : List Nat := if plainC c then [c] else [61, hexC (c / 16), hexC (c % 16)]
structure Piece where
  shown : List Nat
  said : Option (List Nat)
  after : Bool
noncomputable def bareW (w : List Nat) : Bool := !w.isEmpty && w.all safeC
noncomputable def signPieces (bare : Bool) (c : Nat) : List Piece :=
  if c = 39 then [⟨[39], some [], false⟩, ⟨[34], some [], true⟩, ⟨[39], some [39], true⟩, ⟨[34], some [], false⟩, ⟨[39], some [], true⟩]
  else [⟨shownC c, some (shownC c), !bare⟩]
noncomputable def wordPieces (w : List Nat) : List Piece :=
  (if bareW w then [] else [⟨[39], some [], true⟩]) ++ w.flatMap (signPieces (bareW w)) ++ (if bareW w then [] else [⟨[39], some [], false⟩])
noncomputable def piecesM : List (List Nat) → List Piece
  | [] => []
  | [w] => wordPieces w
  | w :: ws => wordPieces w ++ ⟨[32], none, false⟩ :: piecesM ws
structure TSt where
  rest : Nat
  row : Nat
  words : List (List Nat)
  word : Option (List Nat)
  within : Bool
noncomputable def toldBreak (eol : List Nat) (s : TSt) : TSt :=
  if s.within then { s with rest := s.rest - s.row, row := 0, word := some (s.word.getD [] ++ 61 :: eol) }
  else { s with rest := s.rest - s.row, row := 0, words := s.words ++ [s.word.getD [] ++ [61]], word := none }
noncomputable def toldPut (p : Piece) (s : TSt) : TSt :=
  let s := { s with row := s.row + p.shown.length, within := p.after }
  match p.said with
  | some t => { s with word := some (s.word.getD [] ++ t) }
  | none => match s.word with
    | some w => { s with words := s.words ++ [w], word := none }
    | none => s
noncomputable def toldStep (size : Nat) (eol : List Nat) (s : TSt) (p : Piece) : TSt :=
  toldPut p (if s.rest > size ∧ s.row + p.shown.length ≥ size then toldBreak eol s else s)
noncomputable def toldEnd (s : TSt) : List (List Nat) := match s.word with
  | some w => s.words ++ [w]
  | none => s.words
noncomputable def lineOf (ps : List Piece) : List Nat := ps.flatMap (·.shown)
noncomputable def toldM (ps : List Piece) (size : Nat) (eol : List Nat) : List (List Nat) :=
  toldEnd (ps.foldl (toldStep size eol) ⟨(lineOf ps).length, 0, [], none, false⟩)
noncomputable def quoteM (w : List Nat) : List Nat :=
  if w.isEmpty then [39, 39] else if w.all safeC then w
  else 39 :: w.flatMap (fun c => if c = 39 then [39, 34, 39, 34, 39] else [c]) ++ [39]
noncomputable def joinM : List (List Nat) → List Nat
  | [] => []
  | [w] => quoteM w
  | w :: ws => quoteM w ++ 32 :: joinM ws
noncomputable def transM (s : List Nat) : List Nat := s.flatMap shownC
noncomputable def rowsM (size : Nat) : Nat → List Nat → List (List Nat)
  | 0, l => [l]
  | f + 1, l => if l.length ≤ size then [l]
    else if l.getD (size - 3) 0 = 61 then l.take (size - 2) :: rowsM size f (l.drop (size - 3))
    else if l.getD (size - 2) 0 = 61 then l.take (size - 1) :: rowsM size f (l.drop (size - 2))
    else (l.take (size - 1) ++ [61]) :: rowsM size f (l.drop (size - 1))
noncomputable def unite (eol : List Nat) : List (List Nat) → List Nat
  | [] => []
  | [r] => r
  | r :: rs => r ++ eol ++ unite eol rs
noncomputable def encodeM (body : List Nat) (size : Nat) (eol : List Nat) : List Nat :=
  unite eol (rowsM size (transM body).length (transM body))
inductive LS where
  | gap
  | word (t : List Nat)
  | quote (q : Nat) (t : List Nat)
noncomputable def wsC (c : Nat) : Bool := c == 32 || c == 9 || c == 13 || c == 10
noncomputable def stepL (cm : Bool) (c : Nat) : LS → Option (LS × Option (List Nat))
  | .gap => if wsC c then some (.gap, none) else if c = 92 ∨ (cm = true ∧ c = 35) then none else if c = 39 ∨ c = 34 then some (.quote c [], none) else some (.word [c], none)
  | .word t => if wsC c then some (.gap, some t) else if c = 92 ∨ (cm = true ∧ c = 35) then none else if c = 39 ∨ c = 34 then some (.quote c t, none) else some (.word (t ++ [c]), none)
  | .quote q t => if c = q then some (.word t, none) else if c = 92 ∧ q = 34 then none else some (.quote q (t ++ [c]), none)
noncomputable def runL (cm : Bool) : LS → List Nat → Option (List (List Nat) × LS)
  | s, [] => some ([], s)
  | s, c :: r => match stepL cm c s with
    | none => none
    | some (s', none) => runL cm s' r
    | some (s', some t) => (runL cm s' r).map fun x => (t :: x.1, x.2)
noncomputable def endL : LS → Option (List (List Nat))
  | .gap => some []
  | .word t => some [t]
  | .quote _ _ => none
noncomputable def splitM (cm : Bool) (s : List Nat) : Option (List (List Nat)) := (runL cm .gap s).bind fun x => (endL x.2).map (x.1 ++ ·)
end
section
theorem getD_app_l {a b : List Nat} {i d : Nat} (h : i < a.length) : (a ++ b).getD i d = a.getD i d := by simp [List.getD, List.getElem?_append_left h]
theorem getD_app_r {a b : List Nat} {i d : Nat} (h : a.length ≤ i) : (a ++ b).getD i d = b.getD (i - a.length) d := by simp [List.getD, List.getElem?_append_right h]
noncomputable def emit (size : Nat) (eol : List Nat) : Nat → Nat → List Piece → List Nat
  | _, _, [] => []
  | rest, row, p :: ps =>
    if rest > size ∧ row + p.shown.length ≥ size then 61 :: (eol ++ (p.shown ++ emit size eol (rest - row) p.shown.length ps))
    else p.shown ++ emit size eol rest (row + p.shown.length) ps
noncomputable def GoodShown (l : List Nat) : Prop := (∃ c, l = [c] ∧ c ≠ 61) ∨ (∃ a b, l = [61, a, b] ∧ a ≠ 61 ∧ b ≠ 61)
theorem GoodShown.len {l : List Nat} (h : GoodShown l) : l.length = 1 ∨ l.length = 3 := by
  rcases h with ⟨c, rfl, _⟩ | ⟨a, b, rfl, _⟩
  · exact .inl rfl
  · exact .inr rfl
theorem emit_small (size : Nat) (eol : List Nat) : ∀ (ps : List Piece) (rest row : Nat), rest ≤ size → emit size eol rest row ps = lineOf ps
  | [], _, _, _ => rfl
  | p :: ps, rest, row, h => by
    unfold emit
    rw [if_neg (by omega), emit_small size eol ps _ _ h]
    simp [lineOf]
theorem emit_fresh {size : Nat} (eol : List Nat) (hs : 4 ≤ size) {p : Piece} (hp : GoodShown p.shown) (ps : List Piece) (rest : Nat) :
    emit size eol rest 0 (p :: ps) = p.shown ++ emit size eol rest p.shown.length ps := by
  have := hp.len
  rw [emit, if_neg (by omega), Nat.zero_add]
theorem emit_cut {size : Nat} (eol : List Nat) (hs : 4 ≤ size) : ∀ (ps : List Piece) (rest row : Nat), (∀ p ∈ ps, GoodShown p.shown) → size < rest → row + (lineOf ps).length = rest → row ≤ size - 1 →
    ∃ pre p post, ps = pre ++ p :: post ∧ row + (lineOf pre).length ≤ size - 1 ∧ size ≤ row + (lineOf pre).length + p.shown.length ∧
      emit size eol rest row ps = lineOf pre ++ 61 :: (eol ++ emit size eol (rest - (row + (lineOf pre).length)) 0 (p :: post))
  | [], rest, row, _, h, e, hr => by simp [lineOf] at e; omega
  | p :: ps, rest, row, hg, h, e, hr => by
    have hp := hg p List.mem_cons_self
    by_cases hc : row + p.shown.length ≥ size
    · refine ⟨[], p, ps, rfl, by simpa [lineOf] using hr, by simpa [lineOf] using hc, ?_⟩
      rw [emit_fresh eol hs hp, emit, if_pos ⟨h, hc⟩]
      simp [lineOf]
    · have e' : row + p.shown.length + (lineOf ps).length = rest := by
        simp only [lineOf, List.flatMap_cons, List.length_append] at e ⊢
        omega
      obtain ⟨pre, q, post, rfl, h1, h2, h3⟩ := emit_cut eol hs ps rest (row + p.shown.length) (fun q hq => hg q (List.mem_cons_of_mem _ hq)) h e' (by omega)
      have el : (lineOf (p :: pre)).length = p.shown.length + (lineOf pre).length := by simp [lineOf]
      refine ⟨p :: pre, q, post, rfl, by omega, by omega, ?_⟩
      rw [emit, if_neg (by omega), h3, el, Nat.add_assoc]
      simp [lineOf]
noncomputable def TailOk (l : List Nat) : Prop := (1 ≤ l.length → l.getD (l.length - 1) 0 ≠ 61) ∧ (2 ≤ l.length → l.getD (l.length - 2) 0 ≠ 61)
theorem TailOk.app {l : List Nat} {s : List Nat} (h : TailOk l) (hg : GoodShown s) : TailOk (l ++ s) := by
  rcases hg with ⟨c, rfl, hc⟩ | ⟨a, b, rfl, ha, hb⟩
  · refine ⟨fun _ => ?_, fun h2 => ?_⟩
    · simp [List.getD, hc]
    · simp only [List.length_append, List.length_cons, List.length_nil] at h2 ⊢
      have e : l.length + (0 + 1) - 2 = l.length - 1 := by omega
      rw [e, getD_app_l (h := by omega)]
      exact h.1 (by omega)
  · refine ⟨fun _ => ?_, fun _ => ?_⟩
    · simp only [List.length_append, List.length_cons, List.length_nil]
      rw [getD_app_r (h := by omega)]
      have e : l.length + (0 + 1 + 1 + 1) - 1 - l.length = 2 := by omega
      rw [e]; exact hb
    · simp only [List.length_append, List.length_cons, List.length_nil]
      rw [getD_app_r (h := by omega)]
      have e : l.length + (0 + 1 + 1 + 1) - 2 - l.length = 1 := by omega
      rw [e]; exact ha
theorem tailOk_pieces : ∀ (ps : List Piece) (l : List Nat), TailOk l → (∀ p ∈ ps, GoodShown p.shown) → TailOk (l ++ lineOf ps)
  | [], l, h, _ => by simpa [lineOf] using h
  | p :: ps, l, h, hg => by
    have := tailOk_pieces ps (l ++ p.shown) (h.app (hg p List.mem_cons_self)) fun q hq => hg q (List.mem_cons_of_mem _ hq)
    simpa [lineOf, List.append_assoc] using this
theorem tailOk_line (ps : List Piece) (hg : ∀ p ∈ ps, GoodShown p.shown) : TailOk (lineOf ps) := by
  have := tailOk_pieces ps [] ⟨fun h => by simp at h, fun h => by simp at h⟩ hg
  simpa using this
theorem lineOf_app (a b : List Piece) : lineOf (a ++ b) = lineOf a ++ lineOf b := by simp [lineOf]
theorem unite_cons (eol r : List Nat) {rs : List (List Nat)} (h : rs ≠ []) : unite eol (r :: rs) = r ++ (eol ++ unite eol rs) := by
  cases rs with
  | nil => exact absurd rfl h
  | cons a b => simp [unite, List.append_assoc]
theorem rowsM_ne (size f : Nat) (l : List Nat) : rowsM size f l ≠ [] := by
  cases f with
  | zero => simp [rowsM]
  | succ f => unfold rowsM; split <;> (try split) <;> (try split) <;> simp
theorem take1 (x : Nat) (B : List Nat) : ∀ A : List Nat, (A ++ x :: B).take (A.length + 1) = A ++ [x]
  | [] => rfl
  | a :: A => congrArg (a :: ·) (take1 x B A)
theorem get1 (x : Nat) (B : List Nat) : ∀ A : List Nat, (A ++ x :: B).getD A.length 0 = x
  | [] => rfl
  | _ :: A => get1 x B A
theorem row1 (eol : List Nat) (f : Nat) {A B : List Nat} (h : 3 ≤ A.length) (ht : TailOk A) (hl : ¬ (A ++ B).length ≤ A.length + 1) :
    unite eol (rowsM (A.length + 1) (f + 1) (A ++ B)) = A ++ 61 :: (eol ++ unite eol (rowsM (A.length + 1) f B)) := by
  have h0 : 0 < A.length := Nat.lt_of_lt_of_le (by decide) h
  rw [rowsM, if_neg hl, if_neg, if_neg, unite_cons _ _ (rowsM_ne _ _ _)]
  · show (A ++ B).take A.length ++ [61] ++ (eol ++ unite eol (rowsM _ f ((A ++ B).drop A.length))) = _
    rw [List.take_left, List.drop_left, List.append_assoc]
    rfl
  · show ¬ (A ++ B).getD (A.length - 1) 0 = 61
    rw [getD_app_l (h := Nat.sub_lt h0 (by decide : 0 < 1))]
    exact ht.1 h0
  · show ¬ (A ++ B).getD (A.length - 2) 0 = 61
    rw [getD_app_l (h := Nat.sub_lt h0 (by decide : 0 < 2))]
    exact ht.2 (Nat.le_of_succ_le h)
theorem row2 (eol : List Nat) (f : Nat) {A B : List Nat} (h : 2 ≤ A.length) (ht : TailOk A) (hl : ¬ (A ++ 61 :: B).length ≤ A.length + 2) :
    unite eol (rowsM (A.length + 2) (f + 1) (A ++ 61 :: B)) = A ++ 61 :: (eol ++ unite eol (rowsM (A.length + 2) f (61 :: B))) := by
  have h0 : 0 < A.length := Nat.lt_of_lt_of_le (by decide) h
  rw [rowsM, if_neg hl, if_neg, if_pos (show (A ++ 61 :: B).getD (A.length + 2 - 2) 0 = 61 from get1 61 B A), unite_cons _ _ (rowsM_ne _ _ _)]
  · show (A ++ 61 :: B).take (A.length + 1) ++ (eol ++ unite eol (rowsM _ f ((A ++ 61 :: B).drop A.length))) = _
    rw [take1, List.drop_left, List.append_assoc]
    rfl
  · show ¬ (A ++ 61 :: B).getD (A.length - 1) 0 = 61
    rw [getD_app_l (h := Nat.sub_lt h0 (by decide : 0 < 1))]
    exact ht.1 h0
theorem row3 (eol : List Nat) (f : Nat) {A B : List Nat} (hl : ¬ (A ++ 61 :: B).length ≤ A.length + 3) :
    unite eol (rowsM (A.length + 3) (f + 1) (A ++ 61 :: B)) = A ++ 61 :: (eol ++ unite eol (rowsM (A.length + 3) f (61 :: B))) := by
  rw [rowsM, if_neg hl, if_pos (show (A ++ 61 :: B).getD (A.length + 3 - 3) 0 = 61 from get1 61 B A), unite_cons _ _ (rowsM_ne _ _ _)]
  show (A ++ 61 :: B).take (A.length + 1) ++ (eol ++ unite eol (rowsM _ f ((A ++ 61 :: B).drop A.length))) = _
  rw [take1, List.drop_left, List.append_assoc]
  rfl
theorem rows_emit {size : Nat} (eol : List Nat) (hs : 4 ≤ size) : ∀ (f : Nat) (ps : List Piece), (∀ p ∈ ps, GoodShown p.shown) → (lineOf ps).length ≤ f →
    unite eol (rowsM size f (lineOf ps)) = emit size eol (lineOf ps).length 0 ps
  | 0, ps, hg, hf => by
    rw [emit_small _ _ _ _ _ (Nat.le_trans hf (Nat.zero_le _))]; rfl
  | f + 1, ps, hg, hf => by
    by_cases hle : (lineOf ps).length ≤ size
    · rw [emit_small _ _ _ _ _ hle, rowsM, if_pos hle]; rfl
    · obtain ⟨pre, p, post, rfl, h1, h2, h3⟩ := emit_cut eol hs ps _ 0 hg (Nat.lt_of_not_le hle) (Nat.zero_add _) (Nat.zero_le _)
      rw [Nat.zero_add] at h1 h2 h3
      have hgp := hg p (List.mem_append_right _ List.mem_cons_self)
      have ht := tailOk_line pre fun q hq => hg q (List.mem_append_left _ hq)
      rw [lineOf_app] at hle hf ⊢
      have eL : (lineOf pre ++ lineOf (p :: post)).length - (lineOf pre).length = (lineOf (p :: post)).length := by rw [List.length_append, Nat.add_sub_cancel_left]
      have h0 : 1 ≤ (lineOf pre).length := by
        have := hgp.len
        rcases this with e | e <;> rw [e] at h2
        · exact Nat.le_trans (by decide) (Nat.le_of_add_le_add_right (Nat.le_trans hs h2) : 3 ≤ _)
        · exact Nat.le_of_add_le_add_right (Nat.le_trans hs h2)
      have key : unite eol (rowsM size f (lineOf (p :: post))) = emit size eol (lineOf (p :: post)).length 0 (p :: post) :=
        rows_emit eol hs f (p :: post) (fun q hq => hg q (List.mem_append_right _ hq)) (by
          rw [List.length_append] at hf
          exact Nat.le_of_succ_le_succ (Nat.le_trans (by rw [Nat.add_comm]; exact Nat.add_le_add_left h0 _) hf))
      rw [lineOf_app, eL] at h3
      rw [h3, ← key]
      clear h3 key eL hf hg
      generalize lineOf pre = A at *
      have hB : lineOf (p :: post) = p.shown ++ lineOf post := rfl
      rw [hB] at hle ⊢
      clear hB
      generalize lineOf post = t at *
      obtain ⟨d, rfl⟩ := Nat.exists_eq_add_of_le (Nat.add_le_of_le_sub (Nat.le_trans (by decide) hs) h1 : A.length + 1 ≤ size)
      rcases hgp with ⟨c, e, _⟩ | ⟨a, b, e, _, _⟩
      · rw [e] at h2 hle ⊢
        have : d = 0 := Nat.le_zero.mp (Nat.le_of_add_le_add_left (h2 : A.length + 1 + d ≤ A.length + 1 + 0))
        subst this
        exact row1 eol f (Nat.le_of_succ_le_succ hs) ht hle
      · rw [e] at h2 hle ⊢
        have : d ≤ 2 := Nat.le_of_add_le_add_left (h2 : A.length + 1 + d ≤ A.length + 1 + 2)
        match d, this with
        | 0, _ => exact row1 eol f (Nat.le_of_succ_le_succ hs) ht hle
        | 1, _ => exact row2 eol f (Nat.le_of_succ_le_succ (Nat.le_of_succ_le_succ hs)) ht hle
        | 2, _ => exact row3 eol f hle
end
section
inductive Md where | out | q1 | q2
noncomputable def bareSign (c : Nat) : Bool := !(wsC c) && c != 92 && c != 35 && c != 39 && c != 34
inductive OkP : Md → Piece → Md → Prop
  | bare {sh : List Nat} (hn : sh ≠ []) (h : sh.all bareSign = true) : OkP .out ⟨sh, some sh, false⟩ .out
  | open1 : OkP .out ⟨[39], some [], true⟩ .q1
  | open2 : OkP .out ⟨[34], some [], true⟩ .q2
  | gap : OkP .out ⟨[32], none, false⟩ .out
  | sign {sh : List Nat} (h : 39 ∉ sh) : OkP .q1 ⟨sh, some sh, true⟩ .q1
  | shut1 : OkP .q1 ⟨[39], some [], false⟩ .out
  | quote : OkP .q2 ⟨[39], some [39], true⟩ .q2
  | shut2 : OkP .q2 ⟨[34], some [], false⟩ .out
inductive Chain : Md → List Piece → Md → Prop
  | nil {m : Md} : Chain m [] m
  | cons {a b c : Md} {p : Piece} {ps : List Piece} : OkP a p b → Chain b ps c → Chain a (p :: ps) c
theorem Chain.app {a b c : Md} {ps qs : List Piece} (h : Chain a ps b) (k : Chain b qs c) : Chain a (ps ++ qs) c := by
  induction h with
  | nil => exact k
  | cons h _ ih => exact .cons h (ih k)
inductive Rel : Option (List Nat) → Bool → LS → Md → Prop
  | gap : Rel none false .gap .out
  | word {t : List Nat} : Rel (some t) false (.word t) .out
  | q1 {t : List Nat} : Rel (some t) true (.quote 39 t) .q1
  | q2 {t : List Nat} : Rel (some t) true (.quote 34 t) .q2
theorem runL_app (cm : Bool) : ∀ (a b : List Nat) (s : LS), runL cm s (a ++ b) = (runL cm s a).bind fun x => (runL cm x.2 b).map fun y => (x.1 ++ y.1, y.2)
  | [], b, s => by
    simp only [List.nil_append, runL, Option.bind_some]
    cases runL cm s b <;> simp
  | c :: a, b, s => by
    simp only [List.cons_append, runL]
    cases stepL cm c s with
    | none => rfl
    | some x =>
      obtain ⟨s', t⟩ := x
      cases t with
      | none => exact runL_app cm a b s'
      | some t =>
        dsimp only
        rw [runL_app cm a b s']
        cases runL cm s' a with
        | none => rfl
        | some y => simp only [Option.bind_some, Option.map_some, Option.map_map]; rfl
theorem run_bare (cm : Bool) : ∀ (sh t : List Nat), sh.all bareSign = true → runL cm (.word t) sh = some ([], .word (t ++ sh))
  | [], t, _ => by simp [runL]
  | c :: r, t, h => by
    simp only [List.all_cons, Bool.and_eq_true] at h
    obtain ⟨hc, hr⟩ := h
    simp only [bareSign, Bool.and_eq_true, Bool.not_eq_true', bne_iff_ne, ne_eq] at hc
    obtain ⟨⟨⟨⟨h1, h2⟩, h3⟩, h4⟩, h5⟩ := hc
    have e : stepL cm c (.word t) = some (.word (t ++ [c]), none) := by simp [stepL, h1, h2, h3, h4, h5]
    rw [runL, e]
    have := run_bare cm r (t ++ [c]) hr
    simpa using this
theorem run_bare_gap (cm : Bool) {sh : List Nat} (hn : sh ≠ []) (h : sh.all bareSign = true) : runL cm .gap sh = some ([], .word sh) := by
  cases sh with
  | nil => exact absurd rfl hn
  | cons c r =>
    simp only [List.all_cons, Bool.and_eq_true] at h
    obtain ⟨hc, hr⟩ := h
    simp only [bareSign, Bool.and_eq_true, Bool.not_eq_true', bne_iff_ne, ne_eq] at hc
    obtain ⟨⟨⟨⟨h1, h2⟩, h3⟩, h4⟩, h5⟩ := hc
    have e : stepL cm c .gap = some (.word [c], none) := by simp [stepL, h1, h2, h3, h4, h5]
    rw [runL, e]
    exact run_bare cm r [c] hr
theorem run_q1 (cm : Bool) : ∀ (sh t : List Nat), 39 ∉ sh → runL cm (.quote 39 t) sh = some ([], .quote 39 (t ++ sh))
  | [], t, _ => by simp [runL]
  | c :: r, t, h => by
    have hc : c ≠ 39 := fun e => h (by simp [e])
    have e : stepL cm c (.quote 39 t) = some (.quote 39 (t ++ [c]), none) := by simp [stepL, hc]
    rw [runL, e]
    have := run_q1 cm r (t ++ [c]) fun q => h (List.mem_cons_of_mem _ q)
    simpa using this
noncomputable def IsEol (eol : List Nat) : Prop := eol = [10] ∨ eol = [13, 10] ∨ eol = [13]
theorem rel_nil {t : List Nat} {w : Bool} {l : LS} {m : Md} (r : Rel (some t) w l m) : Rel (some (t ++ [])) w l m := by rw [List.append_nil]; exact r
noncomputable def PutOk (cm : Bool) (p : Piece) (s : TSt) (ls : LS) (b : Md) : Prop := ∃ o ls', runL cm ls p.shown = some (o, ls') ∧ Rel (toldPut p s).word (toldPut p s).within ls' b ∧ (toldPut p s).words = s.words ++ o ∧ (toldPut p s).rest = s.rest ∧ (toldPut p s).row = s.row + p.shown.length
noncomputable def BrkOk (cm : Bool) (eol : List Nat) (s : TSt) (ls : LS) (b : Md) : Prop := ∃ o ls', runL cm ls (61 :: eol) = some (o, ls') ∧ Rel (toldBreak eol s).word (toldBreak eol s).within ls' b ∧ (toldBreak eol s).words = s.words ++ o ∧ (toldBreak eol s).rest = s.rest - s.row ∧ (toldBreak eol s).row = 0
theorem put_mk {cm : Bool} {p : Piece} {b : Md} {s : TSt} {ls : LS} (o : List (List Nat)) (ls' : LS) (h1 : runL cm ls p.shown = some (o, ls')) (h2 : Rel (toldPut p s).word (toldPut p s).within ls' b) (h3 : (toldPut p s).words = s.words ++ o) (h4 : (toldPut p s).rest = s.rest)
    (h5 : (toldPut p s).row = s.row + p.shown.length) :
    PutOk cm p s ls b := ⟨o, ls', h1, h2, h3, h4, h5⟩
theorem brk_mk {cm : Bool} {eol : List Nat} {b : Md} {s : TSt} {ls : LS} (o : List (List Nat)) (ls' : LS) (h1 : runL cm ls (61 :: eol) = some (o, ls')) (h2 : Rel (toldBreak eol s).word (toldBreak eol s).within ls' b) (h3 : (toldBreak eol s).words = s.words ++ o)
    (h4 : (toldBreak eol s).rest = s.rest - s.row) (h5 : (toldBreak eol s).row = 0) :
    BrkOk cm eol s ls b := ⟨o, ls', h1, h2, h3, h4, h5⟩
theorem put_ok (cm : Bool) {a b : Md} {p : Piece} (h : OkP a p b) {s : TSt} {ls : LS} (r : Rel s.word s.within ls a) :
    PutOk cm p s ls b := by
  obtain ⟨rest, row, words, word, within⟩ := s
  dsimp only at r
  cases h with
  | bare hn hb =>
    cases r with
    | gap => exact put_mk [] _ (run_bare_gap cm hn hb) Rel.word ((List.append_nil _).symm) rfl rfl
    | word => exact put_mk [] _ (run_bare cm _ _ hb) Rel.word ((List.append_nil _).symm) rfl rfl
  | open1 =>
    cases r with
    | gap => exact put_mk [] (.quote 39 []) (by cases cm <;> rfl) Rel.q1 ((List.append_nil _).symm) rfl rfl
    | @word t => exact put_mk [] (.quote 39 t) (by cases cm <;> rfl) (rel_nil Rel.q1) ((List.append_nil _).symm) rfl rfl
  | open2 =>
    cases r with
    | gap => exact put_mk [] (.quote 34 []) (by cases cm <;> rfl) Rel.q2 ((List.append_nil _).symm) rfl rfl
    | @word t => exact put_mk [] (.quote 34 t) (by cases cm <;> rfl) (rel_nil Rel.q2) ((List.append_nil _).symm) rfl rfl
  | gap =>
    cases r with
    | gap => exact put_mk [] .gap (by cases cm <;> rfl) Rel.gap ((List.append_nil _).symm) rfl rfl
    | @word t => exact put_mk [t] .gap (by cases cm <;> rfl) Rel.gap rfl rfl rfl
  | sign hq =>
    cases r with
    | q1 => exact put_mk [] _ (run_q1 cm _ _ hq) Rel.q1 ((List.append_nil _).symm) rfl rfl
  | shut1 =>
    cases r with
    | @q1 t => exact put_mk [] (.word t) rfl (rel_nil Rel.word) ((List.append_nil _).symm) rfl rfl
  | quote =>
    cases r with
    | @q2 t => exact put_mk [] (.quote 34 (t ++ [39])) rfl Rel.q2 ((List.append_nil _).symm) rfl rfl
  | shut2 =>
    cases r with
    | @q2 t => exact put_mk [] (.word t) rfl (rel_nil Rel.word) ((List.append_nil _).symm) rfl rfl
theorem break_ok (cm : Bool) {eol : List Nat} (he : IsEol eol) {a : Md} {s : TSt} {ls : LS} (r : Rel s.word s.within ls a) :
    BrkOk cm eol s ls a := by
  obtain ⟨rest, row, words, word, within⟩ := s
  dsimp only at r
  cases r with
  | gap => exact brk_mk [[61]] .gap (by rcases he with rfl | rfl | rfl <;> cases cm <;> rfl) Rel.gap rfl rfl rfl
  | @word t => exact brk_mk ([t ++ [61]]) .gap (by rcases he with rfl | rfl | rfl <;> cases cm <;> rfl) Rel.gap rfl rfl rfl
  | @q1 t => exact brk_mk [] (.quote 39 (t ++ 61 :: eol)) (run_q1 cm _ _ (by rcases he with rfl | rfl | rfl <;> decide)) Rel.q1 ((List.append_nil _).symm) rfl rfl
  | @q2 t => exact brk_mk [] (.quote 34 (t ++ 61 :: eol)) (by rcases he with rfl | rfl | rfl <;> simp [runL, stepL]) Rel.q2 ((List.append_nil _).symm) rfl rfl
theorem run_emit (cm : Bool) (size : Nat) {eol : List Nat} (he : IsEol eol) {b : Md} : ∀ (ps : List Piece) (a : Md) (s : TSt) (ls : LS), Chain a ps b → Rel s.word s.within ls a →
    ∃ o ls', runL cm ls (emit size eol s.rest s.row ps) = some (o, ls') ∧ Rel (ps.foldl (toldStep size eol) s).word (ps.foldl (toldStep size eol) s).within ls' b ∧ (ps.foldl (toldStep size eol) s).words = s.words ++ o
  | [], a, s, ls, h, r => by
    cases h
    exact ⟨[], ls, rfl, r, by simp⟩
  | p :: ps, a, s, ls, h, r => by
    cases h with
    | @cons _ c _ _ _ h1 h2 =>
    rw [emit, List.foldl_cons]
    by_cases hc : s.rest > size ∧ s.row + p.shown.length ≥ size
    · obtain ⟨o1, l1, e1, r1, w1, t1, y1⟩ := break_ok cm he r
      obtain ⟨o2, l2, e2, r2, w2, t2, y2⟩ := put_ok cm h1 r1
      obtain ⟨o3, l3, e3, r3, w3⟩ := run_emit cm size he ps c _ l2 h2 r2
      have es : toldStep size eol s p = toldPut p (toldBreak eol s) := by rw [toldStep, if_pos hc]
      rw [if_pos hc, es]
      rw [t2, y2, t1, y1, Nat.zero_add] at e3
      refine ⟨o1 ++ (o2 ++ o3), l3, ?_, r3, by rw [w3, w2, w1]; simp⟩
      have : (61 :: (eol ++ (p.shown ++ emit size eol (s.rest - s.row) p.shown.length ps))) = (61 :: eol) ++ (p.shown ++ emit size eol (s.rest - s.row) p.shown.length ps) := rfl
      rw [this, runL_app, e1]
      simp only [Option.bind_some]
      rw [runL_app, e2]
      simp only [Option.bind_some]
      rw [e3]
      rfl
    · obtain ⟨o2, l2, e2, r2, w2, t2, y2⟩ := put_ok cm h1 r
      obtain ⟨o3, l3, e3, r3, w3⟩ := run_emit cm size he ps c _ l2 h2 r2
      have es : toldStep size eol s p = toldPut p s := by rw [toldStep, if_neg hc]
      rw [if_neg hc, es]
      rw [t2, y2] at e3
      refine ⟨o2 ++ o3, l3, ?_, r3, by rw [w3, w2]; simp⟩
      rw [runL_app, e2]
      simp only [Option.bind_some]
      rw [e3]
      rfl
theorem hexC_ne (d k : Nat) (h : k < 48 ∨ (57 < k ∧ k < 65)) : hexC d ≠ k := by unfold hexC; split <;> omega
theorem hexC_bare (d : Nat) (h : d < 16) : bareSign (hexC d) = true := by
  have : ∀ d : Fin 16, bareSign (hexC d.1) = true := by decide
  exact this ⟨d, h⟩
theorem shownC_good (c : Nat) : GoodShown (shownC c) := by
  unfold shownC
  split
  · rename_i h
    refine .inl ⟨c, rfl, ?_⟩
    rintro rfl
    simp [plainC] at h
  · exact .inr ⟨_, _, rfl, hexC_ne _ _ (by omega), hexC_ne _ _ (by omega)⟩
theorem shownC_39 {c : Nat} (h : c ≠ 39) : 39 ∉ shownC c := by
  unfold shownC
  split
  · simp [Ne.symm h]
  · simp only [List.mem_cons, List.not_mem_nil, or_false]
    rintro (q | q | q)
    · cases q
    · exact hexC_ne _ _ (by omega) q.symm
    · exact hexC_ne _ _ (by omega) q.symm
theorem safe_small {c : Nat} (h : safeC c = true) : c < 123 := by
  rcases Bool.or_eq_true _ _ ▸ h with h | h
  · rcases Bool.or_eq_true _ _ ▸ h with h | h
    · rcases Bool.or_eq_true _ _ ▸ h with h | h
      · exact Nat.lt_succ_of_le (of_decide_eq_true (Bool.and_eq_true _ _ ▸ h).2)
      · exact Nat.lt_of_le_of_lt (of_decide_eq_true (Bool.and_eq_true _ _ ▸ h).2) (by decide)
    · exact Nat.lt_of_le_of_lt (of_decide_eq_true (Bool.and_eq_true _ _ ▸ h).2) (by decide)
  · exact (by decide : ∀ x ∈ [95, 64, 37, 43, 61, 58, 44, 46, 47, 45], x < 123) c (List.contains_iff_mem.mp h)
theorem safe_shown {c : Nat} (h : safeC c = true) : (shownC c).all bareSign = true ∧ shownC c ≠ [] ∧ c ≠ 39 := by
  have : ∀ c : Fin 123, safeC c.1 = true → (shownC c.1).all bareSign = true ∧ shownC c.1 ≠ [] ∧ c.1 ≠ 39 := by decide
  exact this ⟨c, safe_small h⟩ h
theorem chain_bare : ∀ w : List Nat, w.all safeC = true → Chain .out (w.flatMap (signPieces true)) .out
  | [], _ => .nil
  | c :: w, h => by
    simp only [List.all_cons, Bool.and_eq_true] at h
    obtain ⟨h1, h2, h3⟩ := safe_shown h.1
    rw [List.flatMap_cons, signPieces, if_neg h3]
    exact .cons (.bare h2 h1) (chain_bare w h.2)
theorem chain_q : ∀ w : List Nat, Chain .q1 (w.flatMap (signPieces false)) .q1
  | [] => .nil
  | c :: w => by
    rw [List.flatMap_cons]
    refine Chain.app ?_ (chain_q w)
    unfold signPieces
    split
    · exact .cons .shut1 (.cons .open2 (.cons .quote (.cons .shut2 (.cons .open1 .nil))))
    · rename_i h
      exact .cons (.sign (shownC_39 h)) .nil
theorem chain_word (w : List Nat) : Chain .out (wordPieces w) .out := by
  unfold wordPieces
  cases hb : bareW w with
  | true =>
    simp only [bareW, Bool.and_eq_true] at hb
    simpa using chain_bare w hb.2
  | false =>
    simp only [Bool.false_eq_true, if_false]
    exact .app (.app (.cons .open1 .nil) (chain_q w)) (.cons .shut1 .nil)
theorem chain_pieces : ∀ ws : List (List Nat), Chain .out (piecesM ws) .out
  | [] => .nil
  | [w] => chain_word w
  | w :: v :: ws => .app (chain_word w) (.cons .gap (chain_pieces (v :: ws)))
theorem good_sign (b : Bool) (c : Nat) : ∀ p ∈ signPieces b c, GoodShown p.shown := by
  intro p hp
  unfold signPieces at hp
  split at hp
  · simp only [List.mem_cons, List.not_mem_nil, or_false] at hp
    rcases hp with rfl | rfl | rfl | rfl | rfl <;> exact .inl ⟨_, rfl, by omega⟩
  · simp only [List.mem_cons, List.not_mem_nil, or_false] at hp
    subst hp
    exact shownC_good c
theorem good_word (w : List Nat) : ∀ p ∈ wordPieces w, GoodShown p.shown := by
  intro p hp
  unfold wordPieces at hp
  rcases List.mem_append.mp hp with hp | hp
  · rcases List.mem_append.mp hp with hp | hp
    · split at hp
      · cases hp
      · simp only [List.mem_cons, List.not_mem_nil, or_false] at hp; subst hp; exact .inl ⟨_, rfl, by omega⟩
    · obtain ⟨c, _, hc⟩ := List.mem_flatMap.mp hp
      exact good_sign _ c p hc
  · split at hp
    · cases hp
    · simp only [List.mem_cons, List.not_mem_nil, or_false] at hp; subst hp; exact .inl ⟨_, rfl, by omega⟩
theorem good_pieces : ∀ ws : List (List Nat), ∀ p ∈ piecesM ws, GoodShown p.shown
  | [], _, hp => nomatch hp
  | [w], p, hp => good_word w p hp
  | w :: v :: ws, p, hp => by
    rw [piecesM] at hp
    rcases List.mem_append.mp hp with hp | hp
    · exact good_word w p hp
    · rcases List.mem_cons.mp hp with rfl | hp
      · exact .inl ⟨_, rfl, by omega⟩
      · exact good_pieces (v :: ws) p hp
    · simp
theorem line_sign (b : Bool) (c : Nat) : lineOf (signPieces b c) = (if c = 39 then [39, 34, 39, 34, 39] else shownC c) := by
  unfold signPieces
  split <;> simp [lineOf]
theorem line_signs (b : Bool) : ∀ w : List Nat, lineOf (w.flatMap (signPieces b)) = w.flatMap fun c => if c = 39 then [39, 34, 39, 34, 39] else shownC c
  | [] => rfl
  | c :: w => by rw [List.flatMap_cons, lineOf_app, line_sign, line_signs b w, List.flatMap_cons]
theorem transM_app (a b : List Nat) : transM (a ++ b) = transM a ++ transM b := by simp [transM]
theorem trans_q : ∀ w : List Nat, transM (w.flatMap fun c => if c = 39 then [39, 34, 39, 34, 39] else [c]) = w.flatMap fun c => if c = 39 then [39, 34, 39, 34, 39] else shownC c
  | [] => rfl
  | c :: w => by
    rw [List.flatMap_cons, transM_app, trans_q w, List.flatMap_cons]
    congr 1
    split
    · decide
    · simp [transM]
theorem line_word (w : List Nat) : lineOf (wordPieces w) = transM (quoteM w) := by
  unfold wordPieces quoteM bareW
  cases w with
  | nil => decide
  | cons c w =>
    simp only [List.isEmpty_cons, Bool.not_false, Bool.true_and, Bool.false_eq_true, if_false]
    cases hs : (c :: w).all safeC with
    | true =>
      simp only [if_true, List.nil_append, List.append_nil]
      rw [line_signs]
      have : ∀ l : List Nat, l.all safeC = true → (l.flatMap fun c => if c = 39 then [39, 34, 39, 34, 39] else shownC c) = transM l := by
        intro l
        induction l with
        | nil => intro _; rfl
        | cons d l ih =>
          intro h
          simp only [List.all_cons, Bool.and_eq_true] at h
          rw [List.flatMap_cons, ih h.2, if_neg (safe_shown h.1).2.2]
          simp [transM]
      exact this _ hs
    | false =>
      simp only [Bool.false_eq_true, if_false]
      rw [lineOf_app, lineOf_app, line_signs]
      have e : (39 :: List.flatMap (fun c => if c = 39 then [39, 34, 39, 34, 39] else [c]) (c :: w) ++ [39]) = [39] ++ List.flatMap (fun c => if c = 39 then [39, 34, 39, 34, 39] else [c]) (c :: w) ++ [39] := rfl
      rw [e, transM_app, transM_app, trans_q]
      rfl
theorem line_pieces : ∀ ws : List (List Nat), lineOf (piecesM ws) = transM (joinM ws)
  | [] => rfl
  | [w] => line_word w
  | w :: v :: ws => by
    have h1 : piecesM (w :: v :: ws) = wordPieces w ++ ([⟨[32], none, false⟩] ++ piecesM (v :: ws)) := by simp [piecesM]
    have h2 : joinM (w :: v :: ws) = quoteM w ++ ([32] ++ joinM (v :: ws)) := by simp [joinM]
    rw [h1, h2, lineOf_app, lineOf_app, transM_app, transM_app, line_word, line_pieces (v :: ws)]
    rfl
theorem pure_law (cm : Bool) (ws : List (List Nat)) {size : Nat} (hs : 4 ≤ size) {eol : List Nat} (he : IsEol eol) :
    splitM cm (encodeM (joinM ws) size eol) = some (toldM (piecesM ws) size eol) := by
  have e1 : encodeM (joinM ws) size eol = emit size eol (lineOf (piecesM ws)).length 0 (piecesM ws) := by
    unfold encodeM
    rw [← line_pieces, rows_emit eol hs _ _ (good_pieces ws) (Nat.le_refl _)]
  obtain ⟨o, ls', h1, h2, h3⟩ := run_emit cm size he (piecesM ws) .out ⟨(lineOf (piecesM ws)).length, 0, [], none, false⟩ .gap (chain_pieces ws) .gap
  dsimp only at h1 h3
  unfold splitM toldM
  rw [e1, h1]
  simp only [Option.bind_some]
  generalize hF : List.foldl (toldStep size eol) ⟨(lineOf (piecesM ws)).length, 0, [], none, false⟩ (piecesM ws) = F at *
  obtain ⟨rest, row, words, word, within⟩ := F
  dsimp only at h2 h3
  cases h2 with
  | gap => simp [endL, toldEnd, h3]
  | word => simp [endL, toldEnd, h3]
end
section
open PySem PySem.W PyProof.Rows
def dqObj : Obj := { cls := .type "collections.deque", dict := none, data := .fields #[.none, .int 0 0] }
theorem dq_mro : mroOf (.type "collections.deque") = pure [.type "collections.deque", .type "object"] := by rw [mroOf_type]; kernel_rfl
theorem dq_lnew : typeLookup (.type "collections.deque") "__new__" = pure (some (.builtin "collections.deque.__new__")) := by rw [typeLookup_type, builtinLookup_eq_fast]; kernel_rfl
theorem dq_linit : typeLookup (.type "collections.deque") "__init__" = pure (some (.builtin "collections.deque.__init__")) := by rw [typeLookup_type, builtinLookup_eq_fast]; kernel_rfl
theorem dq_sub : isSubtype (.type "collections.deque") (.type "collections.deque") = pure true := by rw [isSubtype_type]; kernel_rfl
theorem dq_slot_init : Slot "collections.deque" "__init__" "collections.deque.__init__" :=
  .of (owner := "collections.deque") (n := "__init__") dq_linit (by decide +kernel) (by decide +kernel) (by decide +kernel)
    (by first | exact .inl (by decide +kernel) | exact .inr (by decide +kernel)) dq_sub
theorem dq_called : TypeCalled "collections.deque" "collections.deque.__new__" "collections.deque.__init__" :=
  ⟨by decide +kernel, by decide +kernel, ⟨_, _, dq_mro⟩, madeBy_type dq_mro dq_lnew (by decide +kernel), by decide +kernel, dq_sub, dq_slot_init⟩
theorem dq_typeCall : checkTypeCall "collections.deque" ⟨[], []⟩ = pure () := by kernel_rfl
theorem dq_newCall : checkBuiltinCall "collections.deque.__new__" ⟨[.type "collections.deque"], []⟩ = pure () := by kernel_rfl
theorem dq_enew : entryFor table "collections.deque.__new__" = some Builtin.«collections.deque.__new__» := entryFor_of_tree (by kernel_rfl)
theorem dq_einit : entryFor table "collections.deque.__init__" = some Builtin.«collections.deque.__init__» := entryFor_of_tree (by kernel_rfl)
theorem dq_pnew : plainId "collections.deque.__new__" = true := by decide +kernel
theorem dq_newRun : Builtin.«collections.deque.__new__» ⟨[.type "collections.deque"], []⟩ = (alloc dqObj >>= fun x => ret (.ref x)) := by kernel_rfl
theorem dq_argsOk (x : Addr) : argsOk "collections.deque.__init__" ⟨[.ref x], []⟩ := by
  kernel_rfl
theorem dq_initRun (x : Addr) : Builtin.«collections.deque.__init__» ⟨[.ref x], []⟩ = (setField (.ref x) 0 .none >>= fun _ => Builtin.Deque.clear (.ref x) >>= fun _ => ret .none) := by
  kernel_rfl
section
variable {prog : Program} {w : World} {A : Around} {E : Value → Shared → Prop} {s : Shared}
theorem dq_code_new {Q₁ : Value → Shared → Prop}
    (h : Q₁ (.ref s.heap.objs.size) { s with heap := s.heap.push dqObj }) :
    codeAny (model prog w) A (.call (.builtin "collections.deque.__new__") ⟨[.type "collections.deque"], []⟩) (wants Q₁ E) s := by
  refine codeAny_of_tree ?_
  show wpAny _ A.in1 (do checkBuiltinCall "collections.deque.__new__" ⟨[.type "collections.deque"], []⟩; again (.builtin "collections.deque.__new__" ⟨[.type "collections.deque"], []⟩)) _ _ s
  refine wpAny_bind (wpAny_of_eq dq_newCall (wpAny_pure ⟨plainId_quiet dq_pnew _, codeAny_builtin dq_enew ?_⟩))
  rw [Around.under_plainId dq_pnew _, dq_newRun]
  refine wpAny_bind (wpAny_alloc ?_)
  exact wpAny_pure h
theorem dq_init {x : Addr} {Q : Fin → Shared → Prop} {E' : Value → Shared → Prop} (hx : s.heap.get? x = some dqObj)
    (h : ∀ h', h'.get? x = some dqObj → h' = s.heap.update x (Obj.mapFields (·.setIfInBounds 0 .none)) → Q (.done (.ret .none)) { s with heap := h' }) :
    wpAny (model prog w) A (Builtin.«collections.deque.__init__» ⟨[.ref x], []⟩) Q E' s := by
  rw [dq_initRun]
  refine wpAny_bind (wpAny_setField hx rfl (by decide) ?_)
  have h2 := Heap.get?_update_self (Obj.mapFields (·.setIfInBounds 0 Value.none)) hx rfl
  unfold Builtin.Deque.clear Builtin.Deque.items
  refine wpAny_bind (wpAny_bind (wpAny_bind (wpAny_fieldsOf h2 rfl (wpAny_pure ?_))))
  exact wpAny_pure (wpAny_pure (h _ h2 rfl))
theorem dq_call {Q : Value → Shared → Prop} {h₀ : Heap} {L : Addr} {m : Str → Option Value} {news : List (Addr × Obj)} (F : Fr h₀ L s.heap m) (N : News h₀ L s.heap news)
    (h : ∀ x h', Fr h₀ L h' m → News h₀ L h' ((x, dqObj) :: news) → (∀ p ∈ news, p.1 < x) → Q (.ref x) { s with heap := h' }) :
    wpAny (model prog w) A (call (.type "collections.deque") []) Q E s := by
  obtain ⟨hp, g, d, tk, os⟩ := s
  refine callType_codes (Q₁ := fun obj s₁ => obj = .ref hp.objs.size ∧ s₁ = { heap := hp.push dqObj, gens := g, drawn := d, toks := tk, os := os }) dq_called dq_typeCall dq_einit
    (dq_code_new ⟨rfl, rfl⟩) fun obj s₁ h₁ => ?_
  obtain ⟨rfl, rfl⟩ := h₁
  have hS : (hp.push dqObj).get? hp.objs.size = some dqObj := Heap.get?_push_size _ rfl
  refine ⟨⟨_, hS, rfl⟩, dq_argsOk _, dq_init hS fun h' e1 e2 => ⟨rfl, ?_⟩⟩
  have lt : ∀ p ∈ news, p.1 < hp.objs.size := fun p hp => Heap.lt_size (N p hp).1
  have N1 := N.push F dqObj
  have F1 := F.push dqObj
  subst e2
  obtain ⟨F2, N2⟩ := news_upd (pre := []) (f := Obj.mapFields (·.setIfInBounds 0 Value.none)) (o' := dqObj) F1 N1 (by simp) (fun p hp => Nat.ne_of_lt (lt p hp)) rfl rfl
  exact h _ _ F2 N2 lt
theorem dq_lbool : typeLookup (.type "collections.deque") "__bool__" = pure none := by rw [typeLookup_type, builtinLookup_eq_fast]; kernel_rfl
theorem dq_llen : typeLookup (.type "collections.deque") "__len__" = pure (some (.builtin "collections.deque.__len__")) := by rw [typeLookup_type, builtinLookup_eq_fast]; kernel_rfl
theorem dq_slot_len : Slot "collections.deque" "__len__" "collections.deque.__len__" :=
  .of (owner := "collections.deque") (n := "__len__") dq_llen (by decide +kernel) (by decide +kernel) (by decide +kernel)
    (by first | exact .inl (by decide +kernel) | exact .inr (by decide +kernel)) dq_sub
theorem dq_elen : entryFor table "collections.deque.__len__" = some Builtin.«collections.deque.__len__» := entryFor_of_tree (by kernel_rfl)
theorem dq_args_len (x : Addr) : argsOk "collections.deque.__len__" ⟨[.ref x], []⟩ := by
  kernel_rfl
theorem dq_len_body {x : Addr} {Q : Value → Shared → Prop} (hx : s.heap.get? x = some dqObj)
    (h : ∀ t, Q (.int 0 t) { s with toks := s.toks + 1 + 1 }) : wpAny (model prog w) A (Builtin.«len» ⟨[.ref x], []⟩) (fun fin s' => ∃ r, fin = .done (.ret r) ∧ Q r s') E s := by
  have hT : s.TypeIs (.ref x) "collections.deque" := ⟨_, hx, rfl⟩
  unfold Builtin.«len»
  refine wpAny_bind (m := oneArg "len" _) (wpAny_pure ?_)
  refine wpAny_bind (m := callSpecial? (.ref x) (Str.ofString "__len__")) (wpAny_callSpecial?_slot (name := Str.ofString "__len__") hT dq_slot_len
    (wpAny_call_entry dq_slot_len hT dq_elen ?_ (dq_args_len _)))
  · show wpAny _ _ (Builtin.Deque.size (.ref x) >>= fun n => retInt n) _ _ s
    unfold Builtin.Deque.size
    refine wpAny_bind (wpAny_bind (wpAny_fieldsOf hx rfl ?_))
    refine wpAny_pure (wpAny_bind (wpAny_mkInt (wpAny_pure ⟨_, rfl, ?_⟩)))
    refine wpAny_bind (wpAny_holding (wpAny_pure ?_))
    refine wpAny_bind (wpAny_letGo ?_)
    show wpAny _ _ (if (0 : Int) < 0 then _ else _) _ _ _
    rw [if_neg (by omega)]
    show wpAny _ _ (if (0 : Int) ≥ 2 ^ 63 then _ else _) _ _ _
    rw [if_neg (by omega)]
    exact wpAny_bind (wpAny_mkInt (wpAny_pure ⟨_, rfl, h _⟩))
theorem dq_truthy {x : Addr} {Q : Bool → Shared → Prop} (hx : s.heap.get? x = some dqObj)
    (h : Q false { s with toks := s.toks + 1 + 1 }) : wpAny (model prog w) A (truthy (.ref x)) Q E s := by
  have hT : s.TypeIs (.ref x) "collections.deque" := ⟨_, hx, rfl⟩
  have key : wpAny (model prog w) A (runValue (.builtin "len" ⟨[.ref x], []⟩)) (fun r s' => ∃ t, r = .int 0 t ∧ Q false s') E s := by
    refine wpAny_runValue (codeAny_builtin entry_len ?_)
    rw [Around.under_plainId plain_len _]
    exact wpAny_mono (dq_len_body (Q := fun r s' => ∃ t, r = .int 0 t ∧ Q false s') hx fun t => ⟨t, rfl, h⟩)
      (fun fin s' h' => by obtain ⟨r, rfl, hq⟩ := h'; exact hq) fun _ _ e => e
  unfold truthy
  first
    | refine wpAny_bind (wpAny_callSpecial?_none (name := Str.ofString "__bool__") hT dq_lbool ?_)
    | refine wpAny_bind (wpAny_pure (wpAny_bind (wpAny_callSpecial?_none (name := Str.ofString "__bool__") hT dq_lbool ?_)))
  first
    | refine wpAny_bind (wpAny_specialOf (name := Str.ofString "__len__") hT dq_llen ?_)
    | refine wpAny_bind (wpAny_pure (wpAny_bind (wpAny_specialOf (name := Str.ofString "__len__") hT dq_llen ?_)))
  first
    | exact wpAny_bind (wpAny_mono key (fun r s' h' => by obtain ⟨t, rfl, hq⟩ := h'; exact wpAny_pure hq) fun _ _ e => e)
    | exact wpAny_bind (wpAny_pure (wpAny_bind (wpAny_mono key (fun r s' h' => by obtain ⟨t, rfl, hq⟩ := h'; exact wpAny_pure hq) fun _ _ e => e)))
theorem dq_truthyN {x : Addr} {Q : Bool → Shared → Prop} {h₀ : Heap} {L : Addr} {news : List (Addr × Obj)} (N : News h₀ L s.heap news) (hm : (x, dqObj) ∈ news)
    (h : Q false { s with toks := s.toks + 1 + 1 }) : wpAny (model prog w) A (truthy (.ref x)) Q E s := dq_truthy (N _ hm).1 h
end
end
section
open PySem PySem.W
noncomputable abbrev pw : Program := PySem.Challenge.pw_oy0415_01
noncomputable def st (i : Nat) : Stmt := pw.main.body.getD i (.Pass ⟨0, 0, 0, 0⟩)
noncomputable def sub (s : Stmt) (j : Nat) : Stmt := match s with
  | .FunctionDef _ _ b _ _ _ _ _ _ _ => b.getD j (.Pass ⟨0, 0, 0, 0⟩)
  | .ClassDef _ _ _ b _ _ _ _ _ _ _ => b.getD j (.Pass ⟨0, 0, 0, 0⟩)
  | s => s
noncomputable def pA (s : Stmt) : Arguments := match s with | .FunctionDef _ a _ _ _ _ _ _ _ _ => a | _ => ⟨[], [], none, [], [], none, []⟩
noncomputable def pB (s : Stmt) : List Stmt := match s with | .FunctionDef _ _ b _ _ _ _ _ _ _ => b | _ => []
noncomputable def pS (s : Stmt) : Scope := match s with | .FunctionDef _ _ _ _ _ _ sc _ _ _ => sc | _ => pw.main.scope
noncomputable def fd (s : Stmt) (name qual : Str) (g : Addr) (cl : List (Str × Addr)) (dv kv doc pm : Value) (ann : Option Addr) (code ct : Value) (bt : Addr) : FuncData :=
  { name := name, qualname := qual, params := pA s, body := .stmts (pB s), scope := pS s, globals := g, closure := cl, defaults := dv, kwdefaults := kv, doc := doc, pyModule := pm, annotations := ann, code := code, closureTuple := ct, builtins := bt }
noncomputable abbrev kh : Params → Str → Int := PyData.keyHash
noncomputable abbrev n : Obj → BT → BT → BT := BT.node
noncomputable abbrev e : BT := BT.nil
noncomputable def s0 : Str := ⟨⟨[95,95,110,97,109,101,95,95]⟩⟩
noncomputable def s1 : Str := ⟨⟨[98,117,105,108,116,105,110,115]⟩⟩
noncomputable def s2 : Str := ⟨⟨[95,95,100,111,99,95,95]⟩⟩
noncomputable def s3 : Str := ⟨⟨[95,95,112,97,99,107,97,103,101,95,95]⟩⟩
noncomputable def s4 : Str := ⟨⟨[95,95,108,111,97,100,101,114,95,95]⟩⟩
noncomputable def s5 : Str := ⟨⟨[95,95,115,112,101,99,95,95]⟩⟩
noncomputable def s6 : Str := ⟨⟨[95,95,98,117,105,108,100,95,99,108,97,115,115,95,95]⟩⟩
noncomputable def s7 : Str := ⟨⟨[95,95,105,109,112,111,114,116,95,95]⟩⟩
noncomputable def s8 : Str := ⟨⟨[97,98,115]⟩⟩
noncomputable def s9 : Str := ⟨⟨[97,108,108]⟩⟩
noncomputable def s10 : Str := ⟨⟨[97,110,121]⟩⟩
noncomputable def s11 : Str := ⟨⟨[97,115,99,105,105]⟩⟩
noncomputable def s12 : Str := ⟨⟨[98,105,110]⟩⟩
noncomputable def s13 : Str := ⟨⟨[98,114,101,97,107,112,111,105,110,116]⟩⟩
noncomputable def s14 : Str := ⟨⟨[99,97,108,108,97,98,108,101]⟩⟩
noncomputable def s15 : Str := ⟨⟨[99,104,114]⟩⟩
noncomputable def s16 : Str := ⟨⟨[99,111,109,112,105,108,101]⟩⟩
noncomputable def s17 : Str := ⟨⟨[100,101,108,97,116,116,114]⟩⟩
noncomputable def s18 : Str := ⟨⟨[100,105,114]⟩⟩
noncomputable def s19 : Str := ⟨⟨[100,105,118,109,111,100]⟩⟩
noncomputable def s20 : Str := ⟨⟨[101,118,97,108]⟩⟩
noncomputable def s21 : Str := ⟨⟨[101,120,101,99]⟩⟩
noncomputable def s22 : Str := ⟨⟨[102,111,114,109,97,116]⟩⟩
noncomputable def s23 : Str := ⟨⟨[103,101,116,97,116,116,114]⟩⟩
noncomputable def s24 : Str := ⟨⟨[103,108,111,98,97,108,115]⟩⟩
noncomputable def s25 : Str := ⟨⟨[104,97,115,97,116,116,114]⟩⟩
noncomputable def s26 : Str := ⟨⟨[104,97,115,104]⟩⟩
noncomputable def s27 : Str := ⟨⟨[104,101,120]⟩⟩
noncomputable def s28 : Str := ⟨⟨[105,100]⟩⟩
noncomputable def s29 : Str := ⟨⟨[105,110,112,117,116]⟩⟩
noncomputable def s30 : Str := ⟨⟨[105,115,105,110,115,116,97,110,99,101]⟩⟩
noncomputable def s31 : Str := ⟨⟨[105,115,115,117,98,99,108,97,115,115]⟩⟩
noncomputable def s32 : Str := ⟨⟨[105,116,101,114]⟩⟩
noncomputable def s33 : Str := ⟨⟨[97,105,116,101,114]⟩⟩
noncomputable def s34 : Str := ⟨⟨[108,101,110]⟩⟩
noncomputable def s35 : Str := ⟨⟨[108,111,99,97,108,115]⟩⟩
noncomputable def s36 : Str := ⟨⟨[109,97,120]⟩⟩
noncomputable def s37 : Str := ⟨⟨[109,105,110]⟩⟩
noncomputable def s38 : Str := ⟨⟨[110,101,120,116]⟩⟩
noncomputable def s39 : Str := ⟨⟨[97,110,101,120,116]⟩⟩
noncomputable def s40 : Str := ⟨⟨[111,99,116]⟩⟩
noncomputable def s41 : Str := ⟨⟨[111,114,100]⟩⟩
noncomputable def s42 : Str := ⟨⟨[112,111,119]⟩⟩
noncomputable def s43 : Str := ⟨⟨[112,114,105,110,116]⟩⟩
noncomputable def s44 : Str := ⟨⟨[114,101,112,114]⟩⟩
noncomputable def s45 : Str := ⟨⟨[114,111,117,110,100]⟩⟩
noncomputable def s46 : Str := ⟨⟨[115,101,116,97,116,116,114]⟩⟩
noncomputable def s47 : Str := ⟨⟨[115,111,114,116,101,100]⟩⟩
noncomputable def s48 : Str := ⟨⟨[115,117,109]⟩⟩
noncomputable def s49 : Str := ⟨⟨[118,97,114,115]⟩⟩
noncomputable def s50 : Str := ⟨⟨[78,111,110,101]⟩⟩
noncomputable def s51 : Str := ⟨⟨[69,108,108,105,112,115,105,115]⟩⟩
noncomputable def s52 : Str := ⟨⟨[78,111,116,73,109,112,108,101,109,101,110,116,101,100]⟩⟩
noncomputable def s53 : Str := ⟨⟨[70,97,108,115,101]⟩⟩
noncomputable def s54 : Str := ⟨⟨[84,114,117,101]⟩⟩
noncomputable def s55 : Str := ⟨⟨[98,111,111,108]⟩⟩
noncomputable def s56 : Str := ⟨⟨[109,101,109,111,114,121,118,105,101,119]⟩⟩
noncomputable def s57 : Str := ⟨⟨[98,121,116,101,97,114,114,97,121]⟩⟩
noncomputable def s58 : Str := ⟨⟨[98,121,116,101,115]⟩⟩
noncomputable def s59 : Str := ⟨⟨[99,108,97,115,115,109,101,116,104,111,100]⟩⟩
noncomputable def s60 : Str := ⟨⟨[99,111,109,112,108,101,120]⟩⟩
noncomputable def s61 : Str := ⟨⟨[100,105,99,116]⟩⟩
noncomputable def s62 : Str := ⟨⟨[101,110,117,109,101,114,97,116,101]⟩⟩
noncomputable def s63 : Str := ⟨⟨[102,105,108,116,101,114]⟩⟩
noncomputable def s64 : Str := ⟨⟨[102,108,111,97,116]⟩⟩
noncomputable def s65 : Str := ⟨⟨[102,114,111,122,101,110,115,101,116]⟩⟩
noncomputable def s66 : Str := ⟨⟨[112,114,111,112,101,114,116,121]⟩⟩
noncomputable def s67 : Str := ⟨⟨[105,110,116]⟩⟩
noncomputable def s68 : Str := ⟨⟨[108,105,115,116]⟩⟩
noncomputable def s69 : Str := ⟨⟨[109,97,112]⟩⟩
noncomputable def s70 : Str := ⟨⟨[111,98,106,101,99,116]⟩⟩
noncomputable def s71 : Str := ⟨⟨[114,97,110,103,101]⟩⟩
noncomputable def s72 : Str := ⟨⟨[114,101,118,101,114,115,101,100]⟩⟩
noncomputable def s73 : Str := ⟨⟨[115,101,116]⟩⟩
noncomputable def s74 : Str := ⟨⟨[115,108,105,99,101]⟩⟩
noncomputable def s75 : Str := ⟨⟨[115,116,97,116,105,99,109,101,116,104,111,100]⟩⟩
noncomputable def s76 : Str := ⟨⟨[115,116,114]⟩⟩
noncomputable def s77 : Str := ⟨⟨[115,117,112,101,114]⟩⟩
noncomputable def s78 : Str := ⟨⟨[116,117,112,108,101]⟩⟩
noncomputable def s79 : Str := ⟨⟨[116,121,112,101]⟩⟩
noncomputable def s80 : Str := ⟨⟨[122,105,112]⟩⟩
noncomputable def s81 : Str := ⟨⟨[95,95,100,101,98,117,103,95,95]⟩⟩
noncomputable def s82 : Str := ⟨⟨[66,97,115,101,69,120,99,101,112,116,105,111,110]⟩⟩
noncomputable def s83 : Str := ⟨⟨[66,97,115,101,69,120,99,101,112,116,105,111,110,71,114,111,117,112]⟩⟩
noncomputable def s84 : Str := ⟨⟨[69,120,99,101,112,116,105,111,110]⟩⟩
noncomputable def s85 : Str := ⟨⟨[71,101,110,101,114,97,116,111,114,69,120,105,116]⟩⟩
noncomputable def s86 : Str := ⟨⟨[75,101,121,98,111,97,114,100,73,110,116,101,114,114,117,112,116]⟩⟩
noncomputable def s87 : Str := ⟨⟨[83,121,115,116,101,109,69,120,105,116]⟩⟩
noncomputable def s88 : Str := ⟨⟨[65,114,105,116,104,109,101,116,105,99,69,114,114,111,114]⟩⟩
noncomputable def s89 : Str := ⟨⟨[65,115,115,101,114,116,105,111,110,69,114,114,111,114]⟩⟩
noncomputable def s90 : Str := ⟨⟨[65,116,116,114,105,98,117,116,101,69,114,114,111,114]⟩⟩
noncomputable def s91 : Str := ⟨⟨[66,117,102,102,101,114,69,114,114,111,114]⟩⟩
noncomputable def s92 : Str := ⟨⟨[69,79,70,69,114,114,111,114]⟩⟩
noncomputable def s93 : Str := ⟨⟨[73,109,112,111,114,116,69,114,114,111,114]⟩⟩
noncomputable def s94 : Str := ⟨⟨[76,111,111,107,117,112,69,114,114,111,114]⟩⟩
noncomputable def s95 : Str := ⟨⟨[77,101,109,111,114,121,69,114,114,111,114]⟩⟩
noncomputable def s96 : Str := ⟨⟨[78,97,109,101,69,114,114,111,114]⟩⟩
noncomputable def s97 : Str := ⟨⟨[79,83,69,114,114,111,114]⟩⟩
noncomputable def s98 : Str := ⟨⟨[82,101,102,101,114,101,110,99,101,69,114,114,111,114]⟩⟩
noncomputable def s99 : Str := ⟨⟨[82,117,110,116,105,109,101,69,114,114,111,114]⟩⟩
noncomputable def s100 : Str := ⟨⟨[83,116,111,112,65,115,121,110,99,73,116,101,114,97,116,105,111,110]⟩⟩
noncomputable def s101 : Str := ⟨⟨[83,116,111,112,73,116,101,114,97,116,105,111,110]⟩⟩
noncomputable def s102 : Str := ⟨⟨[83,121,110,116,97,120,69,114,114,111,114]⟩⟩
noncomputable def s103 : Str := ⟨⟨[83,121,115,116,101,109,69,114,114,111,114]⟩⟩
noncomputable def s104 : Str := ⟨⟨[84,121,112,101,69,114,114,111,114]⟩⟩
noncomputable def s105 : Str := ⟨⟨[86,97,108,117,101,69,114,114,111,114]⟩⟩
noncomputable def s106 : Str := ⟨⟨[87,97,114,110,105,110,103]⟩⟩
noncomputable def s107 : Str := ⟨⟨[70,108,111,97,116,105,110,103,80,111,105,110,116,69,114,114,111,114]⟩⟩
noncomputable def s108 : Str := ⟨⟨[79,118,101,114,102,108,111,119,69,114,114,111,114]⟩⟩
noncomputable def s109 : Str := ⟨⟨[90,101,114,111,68,105,118,105,115,105,111,110,69,114,114,111,114]⟩⟩
noncomputable def s110 : Str := ⟨⟨[66,121,116,101,115,87,97,114,110,105,110,103]⟩⟩
noncomputable def s111 : Str := ⟨⟨[68,101,112,114,101,99,97,116,105,111,110,87,97,114,110,105,110,103]⟩⟩
noncomputable def s112 : Str := ⟨⟨[69,110,99,111,100,105,110,103,87,97,114,110,105,110,103]⟩⟩
noncomputable def s113 : Str := ⟨⟨[70,117,116,117,114,101,87,97,114,110,105,110,103]⟩⟩
noncomputable def s114 : Str := ⟨⟨[73,109,112,111,114,116,87,97,114,110,105,110,103]⟩⟩
noncomputable def s115 : Str := ⟨⟨[80,101,110,100,105,110,103,68,101,112,114,101,99,97,116,105,111,110,87,97,114,110,105,110,103]⟩⟩
noncomputable def s116 : Str := ⟨⟨[82,101,115,111,117,114,99,101,87,97,114,110,105,110,103]⟩⟩
noncomputable def s117 : Str := ⟨⟨[82,117,110,116,105,109,101,87,97,114,110,105,110,103]⟩⟩
noncomputable def s118 : Str := ⟨⟨[83,121,110,116,97,120,87,97,114,110,105,110,103]⟩⟩
noncomputable def s119 : Str := ⟨⟨[85,110,105,99,111,100,101,87,97,114,110,105,110,103]⟩⟩
noncomputable def s120 : Str := ⟨⟨[85,115,101,114,87,97,114,110,105,110,103]⟩⟩
noncomputable def s121 : Str := ⟨⟨[66,108,111,99,107,105,110,103,73,79,69,114,114,111,114]⟩⟩
noncomputable def s122 : Str := ⟨⟨[67,104,105,108,100,80,114,111,99,101,115,115,69,114,114,111,114]⟩⟩
noncomputable def s123 : Str := ⟨⟨[67,111,110,110,101,99,116,105,111,110,69,114,114,111,114]⟩⟩
noncomputable def s124 : Str := ⟨⟨[70,105,108,101,69,120,105,115,116,115,69,114,114,111,114]⟩⟩
noncomputable def s125 : Str := ⟨⟨[70,105,108,101,78,111,116,70,111,117,110,100,69,114,114,111,114]⟩⟩
noncomputable def s126 : Str := ⟨⟨[73,110,116,101,114,114,117,112,116,101,100,69,114,114,111,114]⟩⟩
noncomputable def s127 : Str := ⟨⟨[73,115,65,68,105,114,101,99,116,111,114,121,69,114,114,111,114]⟩⟩
noncomputable def s128 : Str := ⟨⟨[78,111,116,65,68,105,114,101,99,116,111,114,121,69,114,114,111,114]⟩⟩
noncomputable def s129 : Str := ⟨⟨[80,101,114,109,105,115,115,105,111,110,69,114,114,111,114]⟩⟩
noncomputable def s130 : Str := ⟨⟨[80,114,111,99,101,115,115,76,111,111,107,117,112,69,114,114,111,114]⟩⟩
noncomputable def s131 : Str := ⟨⟨[84,105,109,101,111,117,116,69,114,114,111,114]⟩⟩
noncomputable def s132 : Str := ⟨⟨[73,110,100,101,110,116,97,116,105,111,110,69,114,114,111,114]⟩⟩
noncomputable def s133 : Str := ⟨⟨[95,73,110,99,111,109,112,108,101,116,101,73,110,112,117,116,69,114,114,111,114]⟩⟩
noncomputable def s134 : Str := ⟨⟨[73,110,100,101,120,69,114,114,111,114]⟩⟩
noncomputable def s135 : Str := ⟨⟨[75,101,121,69,114,114,111,114]⟩⟩
noncomputable def s136 : Str := ⟨⟨[77,111,100,117,108,101,78,111,116,70,111,117,110,100,69,114,114,111,114]⟩⟩
noncomputable def s137 : Str := ⟨⟨[78,111,116,73,109,112,108,101,109,101,110,116,101,100,69,114,114,111,114]⟩⟩
noncomputable def s138 : Str := ⟨⟨[80,121,116,104,111,110,70,105,110,97,108,105,122,97,116,105,111,110,69,114,114,111,114]⟩⟩
noncomputable def s139 : Str := ⟨⟨[82,101,99,117,114,115,105,111,110,69,114,114,111,114]⟩⟩
noncomputable def s140 : Str := ⟨⟨[85,110,98,111,117,110,100,76,111,99,97,108,69,114,114,111,114]⟩⟩
noncomputable def s141 : Str := ⟨⟨[85,110,105,99,111,100,101,69,114,114,111,114]⟩⟩
noncomputable def s142 : Str := ⟨⟨[66,114,111,107,101,110,80,105,112,101,69,114,114,111,114]⟩⟩
noncomputable def s143 : Str := ⟨⟨[67,111,110,110,101,99,116,105,111,110,65,98,111,114,116,101,100,69,114,114,111,114]⟩⟩
noncomputable def s144 : Str := ⟨⟨[67,111,110,110,101,99,116,105,111,110,82,101,102,117,115,101,100,69,114,114,111,114]⟩⟩
noncomputable def s145 : Str := ⟨⟨[67,111,110,110,101,99,116,105,111,110,82,101,115,101,116,69,114,114,111,114]⟩⟩
noncomputable def s146 : Str := ⟨⟨[84,97,98,69,114,114,111,114]⟩⟩
noncomputable def s147 : Str := ⟨⟨[85,110,105,99,111,100,101,68,101,99,111,100,101,69,114,114,111,114]⟩⟩
noncomputable def s148 : Str := ⟨⟨[85,110,105,99,111,100,101,69,110,99,111,100,101,69,114,114,111,114]⟩⟩
noncomputable def s149 : Str := ⟨⟨[85,110,105,99,111,100,101,84,114,97,110,115,108,97,116,101,69,114,114,111,114]⟩⟩
noncomputable def s150 : Str := ⟨⟨[69,120,99,101,112,116,105,111,110,71,114,111,117,112]⟩⟩
noncomputable def s151 : Str := ⟨⟨[69,110,118,105,114,111,110,109,101,110,116,69,114,114,111,114]⟩⟩
noncomputable def s152 : Str := ⟨⟨[73,79,69,114,114,111,114]⟩⟩
noncomputable def s153 : Str := ⟨⟨[111,112,101,110]⟩⟩
noncomputable def s154 : Str := ⟨⟨[113,117,105,116]⟩⟩
noncomputable def s155 : Str := ⟨⟨[101,120,105,116]⟩⟩
noncomputable def s156 : Str := ⟨⟨[99,111,112,121,114,105,103,104,116]⟩⟩
noncomputable def s157 : Str := ⟨⟨[99,114,101,100,105,116,115]⟩⟩
noncomputable def s158 : Str := ⟨⟨[108,105,99,101,110,115,101]⟩⟩
noncomputable def s159 : Str := ⟨⟨[104,101,108,112]⟩⟩
noncomputable def s160 : Str := ⟨⟨[95,95,109,97,105,110,95,95]⟩⟩
noncomputable def s161 : Str := ⟨⟨[95,115,114,101]⟩⟩
noncomputable def s162 : Str := ⟨⟨[95,99,111,108,108,101,99,116,105,111,110,115]⟩⟩
noncomputable def s163 : Str := ⟨⟨[105,109,112,111,114,116,46,108,111,97,100,101,100,46,95,115,114,101]⟩⟩
noncomputable def s164 : Str := ⟨⟨[99,108,97,115,115,46,95,102,114,111,122,101,110,95,105,109,112,111,114,116,108,105,98,46,66,117,105,108,116,105,110,73,109,112,111,114,116,101,114]⟩⟩
noncomputable def s165 : Str := ⟨⟨[119,97,116,99,104,101,100,46,105,109,112,111,114,116]⟩⟩
noncomputable def s166 : Str := ⟨⟨[99,108,97,115,115,46,95,102,114,111,122,101,110,95,105,109,112,111,114,116,108,105,98,46,77,111,100,117,108,101,83,112,101,99]⟩⟩
noncomputable def s167 : Str := ⟨⟨[115,121,115,46,109,111,100,117,108,101,115,46,98,111,111,107,101,100,45,101,112,111,99,104]⟩⟩
noncomputable def s168 : Str := ⟨⟨[105,109,112,111,114,116,46,108,97,116,101,114,45,108,97,105,100,46,95,115,114,101]⟩⟩
noncomputable def s169 : Str := ⟨⟨[119,97,116,99,104,101,100,46,108,105,98,114,97,114,121]⟩⟩
noncomputable def s170 : Str := ⟨⟨[119,97,116,99,104,101,100,46,108,105,98,114,97,114,121,45,111,98,106,101,99,116,115]⟩⟩
noncomputable def s171 : Str := ⟨⟨[12,30]⟩⟩
noncomputable def s172 : Str := ⟨⟨[119,97,116,99,104,101,100,46,108,105,98,114,97,114,121,45,100,101,101,112,46,95,115,114,101]⟩⟩
noncomputable def s173 : Str := ⟨⟨[4,0,0,11,4,0,0,11,4,0,0,3,4,0,0,11,8,4,100,105,99,116,2]⟩⟩
noncomputable def s174 : Str := ⟨⟨[105,109,112,111,114,116,46,108,111,97,100,101,100,46,95,99,111,108,108,101,99,116,105,111,110,115]⟩⟩
noncomputable def s175 : Str := ⟨⟨[115,121,115,46,109,111,100,117,108,101,115,46,108,97,110,100,101,100,46,95,99,111,108,108,101,99,116,105,111,110,115]⟩⟩
noncomputable def s176 : Str := ⟨⟨[105,109,112,111,114,116,46,108,97,116,101,114,45,108,97,105,100,46,95,99,111,108,108,101,99,116,105,111,110,115]⟩⟩
noncomputable def s177 : Str := ⟨⟨[119,97,116,99,104,101,100,46,108,105,98,114,97,114,121,45,100,101,101,112,46,95,99,111,108,108,101,99,116,105,111,110,115]⟩⟩
noncomputable def s178 : Str := ⟨⟨[4,0,0,29,4,0,0,29,4,0,0,3,4,0,0,29,8,4,100,105,99,116,2]⟩⟩
noncomputable def s179 : Str := ⟨⟨[95,95,97,110,110,111,116,97,116,105,111,110,115,95,95]⟩⟩
noncomputable def s180 : Str := ⟨⟨[95,95,98,117,105,108,116,105,110,115,95,95]⟩⟩
noncomputable def s181 : Str := ⟨⟨[95,95,102,105,108,101,95,95]⟩⟩
noncomputable def s182 : Str := ⟨⟨[47,99,108,97,105,109,47,99,117,116,46,112,121]⟩⟩
noncomputable def s183 : Str := ⟨⟨[95,95,99,97,99,104,101,100,95,95]⟩⟩
noncomputable def s184 : Str := ⟨⟨[100,101,113,117,101]⟩⟩
noncomputable def s185 : Str := ⟨⟨[60,109,111,100,117,108,101,62]⟩⟩
noncomputable def s186 : Str := ⟨⟨[]⟩⟩
noncomputable def s187 : Str := ⟨⟨[116,101,109,112,108,97,116,101]⟩⟩
noncomputable def s188 : Str := ⟨⟨[103,101,116,99,111,100,101,115,105,122,101]⟩⟩
noncomputable def s189 : Str := ⟨⟨[97,115,99,105,105,95,105,115,99,97,115,101,100]⟩⟩
noncomputable def s190 : Str := ⟨⟨[117,110,105,99,111,100,101,95,105,115,99,97,115,101,100]⟩⟩
noncomputable def s191 : Str := ⟨⟨[97,115,99,105,105,95,116,111,108,111,119,101,114]⟩⟩
noncomputable def s192 : Str := ⟨⟨[117,110,105,99,111,100,101,95,116,111,108,111,119,101,114]⟩⟩
noncomputable def s193 : Str := ⟨⟨[77,65,71,73,67]⟩⟩
noncomputable def s194 : Str := ⟨⟨[67,79,68,69,83,73,90,69]⟩⟩
noncomputable def s195 : Str := ⟨⟨[77,65,88,82,69,80,69,65,84]⟩⟩
noncomputable def s196 : Str := ⟨⟨[77,65,88,71,82,79,85,80,83]⟩⟩
noncomputable def s197 : Str := ⟨⟨[32,83,82,69,32,50,46,50,46,50,32,67,111,112,121,114,105,103,104,116,32,40,99,41,32,49,57,57,55,45,50,48,48,50,32,98,121,32,83,101,99,114,101,116,32,76,97,98,115,32,65,66,32]⟩⟩
noncomputable def s198 : Str := ⟨⟨[95,95,109,111,100,117,108,101,95,95]⟩⟩
noncomputable def s199 : Str := ⟨⟨[95,102,114,111,122,101,110,95,105,109,112,111,114,116,108,105,98]⟩⟩
noncomputable def s200 : Str := ⟨⟨[95,95,102,105,114,115,116,108,105,110,101,110,111,95,95]⟩⟩
noncomputable def s201 : Str := ⟨⟨[95,79,82,73,71,73,78]⟩⟩
noncomputable def s202 : Str := ⟨⟨[98,117,105,108,116,45,105,110]⟩⟩
noncomputable def s203 : Str := ⟨⟨[102,105,110,100,95,115,112,101,99]⟩⟩
noncomputable def s204 : Str := ⟨⟨[99,114,101,97,116,101,95,109,111,100,117,108,101]⟩⟩
noncomputable def s205 : Str := ⟨⟨[101,120,101,99,95,109,111,100,117,108,101]⟩⟩
noncomputable def s206 : Str := ⟨⟨[103,101,116,95,99,111,100,101]⟩⟩
noncomputable def s207 : Str := ⟨⟨[103,101,116,95,115,111,117,114,99,101]⟩⟩
noncomputable def s208 : Str := ⟨⟨[105,115,95,112,97,99,107,97,103,101]⟩⟩
noncomputable def s209 : Str := ⟨⟨[108,111,97,100,95,109,111,100,117,108,101]⟩⟩
noncomputable def s210 : Str := ⟨⟨[95,95,115,116,97,116,105,99,95,97,116,116,114,105,98,117,116,101,115,95,95]⟩⟩
noncomputable def s211 : Str := ⟨⟨[95,95,100,105,99,116,95,95]⟩⟩
noncomputable def s212 : Str := ⟨⟨[95,95,119,101,97,107,114,101,102,95,95]⟩⟩
noncomputable def s213 : Str := ⟨⟨[66,117,105,108,116,105,110,73,109,112,111,114,116,101,114]⟩⟩
noncomputable def s214 : Str := ⟨⟨[6,189,10,95,95,109,111,100,117,108,101,95,95,6,186,17,95,102,114,111,122,101,110,95,105,109,112,111,114,116,108,105,98,6,190,15,95,95,102,105,114,115,116,108,105,110,101,110,111,95,95,4,187,0,971,6,191,7,95,95,100,111,99,95,95,9,52,95,102,114,111,122,101,110,95,105,109,112,111,114,116,108,105,98,46,66,117,105,108,116,105,110,73,109,112,111,114,116,101,114,46,95,95,100,111,99,95,95,58,115,116,114,35,111,112,97,113,117,101,6,192,7,95,79,82,73,71,73,78,6,188,8,98,117,105,108,116,45,105,110,6,193,9,102,105,110,100,95,115,112,101,99,9,50,95,102,114,111,122,101,110,95,105,109,112,111,114,116,108,105,98,46,66,117,105,108,116,105,110,73,109,112,111,114,116,101,114,46,102,105,110,100,95,115,112,101,99,35,111,112,97,113,117,101,6,194,13,99,114,101,97,116,101,95,109,111,100,117,108,101,9,54,95,102,114,111,122,101,110,95,105,109,112,111,114,116,108,105,98,46,66,117,105,108,116,105,110,73,109,112,111,114,116,101,114,46,99,114,101,97,116,101,95,109,111,100,117,108,101,35,111,112,97,113,117,101,6,195,11,101,120,101,99,95,109,111,100,117,108,101,9,52,95,102,114,111,122,101,110,95,105,109,112,111,114,116,108,105,98,46,66,117,105,108,116,105,110,73,109,112,111,114,116,101,114,46,101,120,101,99,95,109,111,100,117,108,101,35,111,112,97,113,117,101,6,196,8,103,101,116,95,99,111,100,101,9,49,95,102,114,111,122,101,110,95,105,109,112,111,114,116,108,105,98,46,66,117,105,108,116,105,110,73,109,112,111,114,116,101,114,46,103,101,116,95,99,111,100,101,35,111,112,97,113,117,101,6,197,10,103,101,116,95,115,111,117,114,99,101,9,51,95,102,114,111,122,101,110,95,105,109,112,111,114,116,108,105,98,46,66,117,105,108,116,105,110,73,109,112,111,114,116,101,114,46,103,101,116,95,115,111,117,114,99,101,35,111,112,97,113,117,101,6,198,10,105,115,95,112,97,99,107,97,103,101,9,51,95,102,114,111,122,101,110,95,105,109,112,111,114,116,108,105,98,46,66,117,105,108,116,105,110,73,109,112,111,114,116,101,114,46,105,115,95,112,97,99,107,97,103,101,35,111,112,97,113,117,101,6,199,11,108,111,97,100,95,109,111,100,117,108,101,9,52,95,102,114,111,122,101,110,95,105,109,112,111,114,116,108,105,98,46,66,117,105,108,116,105,110,73,109,112,111,114,116,101,114,46,108,111,97,100,95,109,111,100,117,108,101,35,111,112,97,113,117,101,6,200,21,95,95,115,116,97,116,105,99,95,97,116,116,114,105,98,117,116,101,115,95,95,4,0,0,15,6,202,8,95,95,100,105,99,116,95,95,4,0,0,16,6,204,11,95,95,119,101,97,107,114,101,102,95,95,4,0,0,17]⟩⟩
noncomputable def s215 : Str := ⟨⟨[6,227,10,95,95,109,111,100,117,108,101,95,95,6,217,17,95,102,114,111,122,101,110,95,105,109,112,111,114,116,108,105,98,6,228,15,95,95,102,105,114,115,116,108,105,110,101,110,111,95,95,4,218,0,562,6,229,7,95,95,100,111,99,95,95,9,47,95,102,114,111,122,101,110,95,105,109,112,111,114,116,108,105,98,46,77,111,100,117,108,101,83,112,101,99,46,95,95,100,111,99,95,95,58,115,116,114,35,111,112,97,113,117,101,6,230,8,95,95,105,110,105,116,95,95,9,44,95,102,114,111,122,101,110,95,105,109,112,111,114,116,108,105,98,46,77,111,100,117,108,101,83,112,101,99,46,95,95,105,110,105,116,95,95,35,111,112,97,113,117,101,6,231,8,95,95,114,101,112,114,95,95,9,44,95,102,114,111,122,101,110,95,105,109,112,111,114,116,108,105,98,46,77,111,100,117,108,101,83,112,101,99,46,95,95,114,101,112,114,95,95,35,111,112,97,113,117,101,6,232,6,95,95,101,113,95,95,9,42,95,102,114,111,122,101,110,95,105,109,112,111,114,116,108,105,98,46,77,111,100,117,108,101,83,112,101,99,46,95,95,101,113,95,95,35,111,112,97,113,117,101,6,233,6,99,97,99,104,101,100,9,42,95,102,114,111,122,101,110,95,105,109,112,111,114,116,108,105,98,46,77,111,100,117,108,101,83,112,101,99,46,99,97,99,104,101,100,35,111,112,97,113,117,101,6,234,6,112,97,114,101,110,116,9,42,95,102,114,111,122,101,110,95,105,109,112,111,114,116,108,105,98,46,77,111,100,117,108,101,83,112,101,99,46,112,97,114,101,110,116,35,111,112,97,113,117,101,6,235,12,104,97,115,95,108,111,99,97,116,105,111,110,9,48,95,102,114,111,122,101,110,95,105,109,112,111,114,116,108,105,98,46,77,111,100,117,108,101,83,112,101,99,46,104,97,115,95,108,111,99,97,116,105,111,110,35,111,112,97,113,117,101,6,236,21,95,95,115,116,97,116,105,99,95,97,116,116,114,105,98,117,116,101,115,95,95,4,0,0,23,6,238,8,95,95,100,105,99,116,95,95,4,0,0,24,6,240,11,95,95,119,101,97,107,114,101,102,95,95,4,0,0,25,6,241,8,95,95,104,97,115,104,95,95,0]⟩⟩
noncomputable def s216 : Str := ⟨⟨[110,97,109,101]⟩⟩
noncomputable def s217 : Str := ⟨⟨[108,111,97,100,101,114]⟩⟩
noncomputable def s218 : Str := ⟨⟨[111,114,105,103,105,110]⟩⟩
noncomputable def s219 : Str := ⟨⟨[108,111,97,100,101,114,95,115,116,97,116,101]⟩⟩
noncomputable def s220 : Str := ⟨⟨[115,117,98,109,111,100,117,108,101,95,115,101,97,114,99,104,95,108,111,99,97,116,105,111,110,115]⟩⟩
noncomputable def s221 : Str := ⟨⟨[95,117,110,105,110,105,116,105,97,108,105,122,101,100,95,115,117,98,109,111,100,117,108,101,115]⟩⟩
noncomputable def s222 : Str := ⟨⟨[95,115,101,116,95,102,105,108,101,97,116,116,114]⟩⟩
noncomputable def s223 : Str := ⟨⟨[95,99,97,99,104,101,100]⟩⟩
noncomputable def s224 : Str := ⟨⟨[95,105,110,105,116,105,97,108,105,122,105,110,103]⟩⟩
noncomputable def s225 : Str := ⟨⟨[95,95,105,110,105,116,95,95]⟩⟩
noncomputable def s226 : Str := ⟨⟨[95,95,114,101,112,114,95,95]⟩⟩
noncomputable def s227 : Str := ⟨⟨[95,95,101,113,95,95]⟩⟩
noncomputable def s228 : Str := ⟨⟨[99,97,99,104,101,100]⟩⟩
noncomputable def s229 : Str := ⟨⟨[112,97,114,101,110,116]⟩⟩
noncomputable def s230 : Str := ⟨⟨[104,97,115,95,108,111,99,97,116,105,111,110]⟩⟩
noncomputable def s231 : Str := ⟨⟨[95,95,104,97,115,104,95,95]⟩⟩
noncomputable def s232 : Str := ⟨⟨[77,111,100,117,108,101,83,112,101,99]⟩⟩
noncomputable def s233 : Str := ⟨⟨[6,247,8,95,95,110,97,109,101,95,95,6,246,4,95,115,114,101,6,248,7,95,95,100,111,99,95,95,0,6,250,11,95,95,112,97,99,107,97,103,101,95,95,6,249,0,6,251,10,95,95,108,111,97,100,101,114,95,95,4,0,0,14,6,252,8,95,95,115,112,101,99,95,95,4,0,0,26,6,253,7,99,111,109,112,105,108,101,9,12,95,115,114,101,46,99,111,109,112,105,108,101,6,254,8,116,101,109,112,108,97,116,101,9,13,95,115,114,101,46,116,101,109,112,108,97,116,101,6,255,11,103,101,116,99,111,100,101,115,105,122,101,9,16,95,115,114,101,46,103,101,116,99,111,100,101,115,105,122,101,6,256,13,97,115,99,105,105,95,105,115,99,97,115,101,100,9,18,95,115,114,101,46,97,115,99,105,105,95,105,115,99,97,115,101,100,6,257,15,117,110,105,99,111,100,101,95,105,115,99,97,115,101,100,9,20,95,115,114,101,46,117,110,105,99,111,100,101,95,105,115,99,97,115,101,100,6,258,13,97,115,99,105,105,95,116,111,108,111,119,101,114,9,18,95,115,114,101,46,97,115,99,105,105,95,116,111,108,111,119,101,114,6,259,15,117,110,105,99,111,100,101,95,116,111,108,111,119,101,114,9,20,95,115,114,101,46,117,110,105,99,111,100,101,95,116,111,108,111,119,101,114,6,261,5,77,65,71,73,67,4,260,0,20230612,6,263,8,67,79,68,69,83,73,90,69,4,262,0,4,6,265,9,77,65,88,82,69,80,69,65,84,4,264,0,4294967295,6,267,9,77,65,88,71,82,79,85,80,83,4,266,0,1073741823,6,269,9,99,111,112,121,114,105,103,104,116,6,268,53,32,83,82,69,32,50,46,50,46,50,32,67,111,112,121,114,105,103,104,116,32,40,99,41,32,49,57,57,55,45,50,48,48,50,32,98,121,32,83,101,99,114,101,116,32,76,97,98,115,32,65,66,32]⟩⟩
noncomputable def s234 : Str := ⟨⟨[6,296,8,95,95,110,97,109,101,95,95,6,295,12,95,99,111,108,108,101,99,116,105,111,110,115,6,297,7,95,95,100,111,99,95,95,9,31,95,99,111,108,108,101,99,116,105,111,110,115,46,95,95,100,111,99,95,95,58,115,116,114,35,111,112,97,113,117,101,6,299,11,95,95,112,97,99,107,97,103,101,95,95,6,298,0,6,300,10,95,95,108,111,97,100,101,114,95,95,4,0,0,14,6,301,8,95,95,115,112,101,99,95,95,4,0,0,33,6,302,15,95,99,111,117,110,116,95,101,108,101,109,101,110,116,115,9,28,95,99,111,108,108,101,99,116,105,111,110,115,46,95,99,111,117,110,116,95,101,108,101,109,101,110,116,115,6,303,5,100,101,113,117,101,8,17,99,111,108,108,101,99,116,105,111,110,115,46,100,101,113,117,101,6,304,11,100,101,102,97,117,108,116,100,105,99,116,8,23,99,111,108,108,101,99,116,105,111,110,115,46,100,101,102,97,117,108,116,100,105,99,116,6,305,15,95,100,101,113,117,101,95,105,116,101,114,97,116,111,114,8,27,99,111,108,108,101,99,116,105,111,110,115,46,95,100,101,113,117,101,95,105,116,101,114,97,116,111,114,6,306,23,95,100,101,113,117,101,95,114,101,118,101,114,115,101,95,105,116,101,114,97,116,111,114,8,35,99,111,108,108,101,99,116,105,111,110,115,46,95,100,101,113,117,101,95,114,101,118,101,114,115,101,95,105,116,101,114,97,116,111,114,6,307,12,95,116,117,112,108,101,103,101,116,116,101,114,8,24,99,111,108,108,101,99,116,105,111,110,115,46,95,116,117,112,108,101,103,101,116,116,101,114,6,308,11,79,114,100,101,114,101,100,68,105,99,116,8,23,99,111,108,108,101,99,116,105,111,110,115,46,79,114,100,101,114,101,100,68,105,99,116]⟩⟩
noncomputable def s235 : Str := ⟨⟨[95,99,111,117,110,116,95,101,108,101,109,101,110,116,115]⟩⟩
noncomputable def s236 : Str := ⟨⟨[100,101,102,97,117,108,116,100,105,99,116]⟩⟩
noncomputable def s237 : Str := ⟨⟨[95,100,101,113,117,101,95,105,116,101,114,97,116,111,114]⟩⟩
noncomputable def s238 : Str := ⟨⟨[95,100,101,113,117,101,95,114,101,118,101,114,115,101,95,105,116,101,114,97,116,111,114]⟩⟩
noncomputable def s239 : Str := ⟨⟨[95,116,117,112,108,101,103,101,116,116,101,114]⟩⟩
noncomputable def s240 : Str := ⟨⟨[79,114,100,101,114,101,100,68,105,99,116]⟩⟩
noncomputable def s241 : Str := ⟨⟨[116,121,112,101,46,95,95,115,117,98,99,108,97,115,115,101,115,95,95,46,79,83,69,114,114,111,114,46,48]⟩⟩
noncomputable def s242 : Str := ⟨⟨[116,121,112,101,46,95,95,115,117,98,99,108,97,115,115,101,115,95,95,46,79,83,69,114,114,111,114,46,110]⟩⟩
noncomputable def s243 : Str := ⟨⟨[99,112,121,51,49,51,46,115,104,108,101,120]⟩⟩
noncomputable def s244 : Str := ⟨⟨[95,119,97,108,108]⟩⟩
noncomputable def s245 : Str := ⟨⟨[95,116,119,105,110,95,114,101,95,49]⟩⟩
noncomputable def s246 : Str := ⟨⟨[95,119,104,101,110,99,101]⟩⟩
noncomputable def s247 : Str := ⟨⟨[95,105,110,100,101,120]⟩⟩
noncomputable def s248 : Str := ⟨⟨[85,110,115,117,112,112,111,114,116,101,100,79,112,101,114,97,116,105,111,110]⟩⟩
noncomputable def s249 : Str := ⟨⟨[73,79,66,97,115,101]⟩⟩
noncomputable def s250 : Str := ⟨⟨[66,117,102,102,101,114,101,100,73,79,66,97,115,101]⟩⟩
noncomputable def s251 : Str := ⟨⟨[84,101,120,116,73,79,66,97,115,101]⟩⟩
noncomputable def s252 : Str := ⟨⟨[66,121,116,101,115,73,79]⟩⟩
noncomputable def s253 : Str := ⟨⟨[83,116,114,105,110,103,73,79]⟩⟩
noncomputable def s254 : Str := ⟨⟨[95,107,105,110,100]⟩⟩
noncomputable def s255 : Str := ⟨⟨[95,102,115,112,97,116,104]⟩⟩
noncomputable def s256 : Str := ⟨⟨[95,99,104,101,99,107,95,97,114,103,95,116,121,112,101,115]⟩⟩
noncomputable def s257 : Str := ⟨⟨[105,115,97,98,115]⟩⟩
noncomputable def s258 : Str := ⟨⟨[106,111,105,110]⟩⟩
noncomputable def s259 : Str := ⟨⟨[106,111,105,110,95,112,97,116,104]⟩⟩
noncomputable def s260 : Str := ⟨⟨[100,105,114,110,97,109,101]⟩⟩
noncomputable def s261 : Str := ⟨⟨[115,104,108,101,120]⟩⟩
noncomputable def s262 : Str := ⟨⟨[115,112,108,105,116]⟩⟩
noncomputable def s263 : Str := ⟨⟨[106,111,105,110,95,115,104,108,101,120]⟩⟩
noncomputable def s264 : Str := ⟨⟨[95,102,105,110,100,95,117,110,115,97,102,101]⟩⟩
noncomputable def s265 : Str := ⟨⟨[113,117,111,116,101]⟩⟩
noncomputable def s266 : Str := ⟨⟨[113,117,111,116,101,95,115,104,108,101,120]⟩⟩
noncomputable def s267 : Str := ⟨⟨[67,82,76,70]⟩⟩
noncomputable def s268 : Str := ⟨⟨[13,10]⟩⟩
noncomputable def s269 : Str := ⟨⟨[78,76]⟩⟩
noncomputable def s270 : Str := ⟨⟨[10]⟩⟩
noncomputable def s271 : Str := ⟨⟨[107]⟩⟩
noncomputable def s272 : Str := ⟨⟨[91,94,92,119,64,37,43,61,58,44,46,47,45,93]⟩⟩
noncomputable def s273 : Str := ⟨⟨[110]⟩⟩
noncomputable def s274 : Str := ⟨⟨[119,104,97,116]⟩⟩
noncomputable def s275 : Str := ⟨⟨[105,111]⟩⟩
noncomputable def s276 : Str := ⟨⟨[95,95,113,117,97,108,110,97,109,101,95,95]⟩⟩
noncomputable def s277 : Str := ⟨⟨[95,95,110,101,119,95,95]⟩⟩
noncomputable def s278 : Str := ⟨⟨[99,108,115]⟩⟩
noncomputable def s279 : Str := ⟨⟨[97,114,103,115]⟩⟩
noncomputable def s280 : Str := ⟨⟨[107,119,97,114,103,115]⟩⟩
noncomputable def s281 : Str := ⟨⟨[73,79,66,97,115,101,46,95,95,110,101,119,95,95]⟩⟩
noncomputable def s282 : Str := ⟨⟨[95,105,111]⟩⟩
noncomputable def s283 : Str := ⟨⟨[95,66,121,116,101,115,73,79,95,95,99,104,101,99,107]⟩⟩
noncomputable def s284 : Str := ⟨⟨[95,66,121,116,101,115,73,79,95,95,108,105,110,101]⟩⟩
noncomputable def s285 : Str := ⟨⟨[99,108,111,115,101,100]⟩⟩
noncomputable def s286 : Str := ⟨⟨[99,108,111,115,101]⟩⟩
noncomputable def s287 : Str := ⟨⟨[95,95,101,110,116,101,114,95,95]⟩⟩
noncomputable def s288 : Str := ⟨⟨[95,95,101,120,105,116,95,95]⟩⟩
noncomputable def s289 : Str := ⟨⟨[114,101,97,100,97,98,108,101]⟩⟩
noncomputable def s290 : Str := ⟨⟨[119,114,105,116,97,98,108,101]⟩⟩
noncomputable def s291 : Str := ⟨⟨[115,101,101,107,97,98,108,101]⟩⟩
noncomputable def s292 : Str := ⟨⟨[105,115,97,116,116,121]⟩⟩
noncomputable def s293 : Str := ⟨⟨[102,108,117,115,104]⟩⟩
noncomputable def s294 : Str := ⟨⟨[102,105,108,101,110,111]⟩⟩
noncomputable def s295 : Str := ⟨⟨[100,101,116,97,99,104]⟩⟩
noncomputable def s296 : Str := ⟨⟨[103,101,116,118,97,108,117,101]⟩⟩
noncomputable def s297 : Str := ⟨⟨[103,101,116,98,117,102,102,101,114]⟩⟩
noncomputable def s298 : Str := ⟨⟨[116,101,108,108]⟩⟩
noncomputable def s299 : Str := ⟨⟨[115,101,101,107]⟩⟩
noncomputable def s300 : Str := ⟨⟨[116,114,117,110,99,97,116,101]⟩⟩
noncomputable def s301 : Str := ⟨⟨[114,101,97,100]⟩⟩
noncomputable def s302 : Str := ⟨⟨[114,101,97,100,49]⟩⟩
noncomputable def s303 : Str := ⟨⟨[114,101,97,100,105,110,116,111]⟩⟩
noncomputable def s304 : Str := ⟨⟨[114,101,97,100,105,110,116,111,49]⟩⟩
noncomputable def s305 : Str := ⟨⟨[114,101,97,100,108,105,110,101]⟩⟩
noncomputable def s306 : Str := ⟨⟨[114,101,97,100,108,105,110,101,115]⟩⟩
noncomputable def s307 : Str := ⟨⟨[95,95,105,116,101,114,95,95]⟩⟩
noncomputable def s308 : Str := ⟨⟨[95,95,110,101,120,116,95,95]⟩⟩
noncomputable def s309 : Str := ⟨⟨[119,114,105,116,101]⟩⟩
noncomputable def s310 : Str := ⟨⟨[119,114,105,116,101,108,105,110,101,115]⟩⟩
noncomputable def s311 : Str := ⟨⟨[115,101,108,102]⟩⟩
noncomputable def s312 : Str := ⟨⟨[105,110,105,116,105,97,108,95,98,121,116,101,115]⟩⟩
noncomputable def s313 : Str := ⟨⟨[66,121,116,101,115,73,79,46,95,95,105,110,105,116,95,95]⟩⟩
noncomputable def s314 : Str := ⟨⟨[95,95,99,104,101,99,107]⟩⟩
noncomputable def s315 : Str := ⟨⟨[66,121,116,101,115,73,79,46,95,95,99,104,101,99,107]⟩⟩
noncomputable def s316 : Str := ⟨⟨[108,105,109,105,116]⟩⟩
noncomputable def s317 : Str := ⟨⟨[115,116,97,114,116]⟩⟩
noncomputable def s318 : Str := ⟨⟨[115,116,111,112]⟩⟩
noncomputable def s319 : Str := ⟨⟨[105]⟩⟩
noncomputable def s320 : Str := ⟨⟨[95,95,108,105,110,101]⟩⟩
noncomputable def s321 : Str := ⟨⟨[66,121,116,101,115,73,79,46,95,95,108,105,110,101]⟩⟩
noncomputable def s322 : Str := ⟨⟨[66,121,116,101,115,73,79,46,99,108,111,115,101,100]⟩⟩
noncomputable def s323 : Str := ⟨⟨[66,121,116,101,115,73,79,46,99,108,111,115,101]⟩⟩
noncomputable def s324 : Str := ⟨⟨[66,121,116,101,115,73,79,46,95,95,101,110,116,101,114,95,95]⟩⟩
noncomputable def s325 : Str := ⟨⟨[66,121,116,101,115,73,79,46,95,95,101,120,105,116,95,95]⟩⟩
noncomputable def s326 : Str := ⟨⟨[66,121,116,101,115,73,79,46,114,101,97,100,97,98,108,101]⟩⟩
noncomputable def s327 : Str := ⟨⟨[66,121,116,101,115,73,79,46,119,114,105,116,97,98,108,101]⟩⟩
noncomputable def s328 : Str := ⟨⟨[66,121,116,101,115,73,79,46,115,101,101,107,97,98,108,101]⟩⟩
noncomputable def s329 : Str := ⟨⟨[66,121,116,101,115,73,79,46,105,115,97,116,116,121]⟩⟩
noncomputable def s330 : Str := ⟨⟨[66,121,116,101,115,73,79,46,102,108,117,115,104]⟩⟩
noncomputable def s331 : Str := ⟨⟨[66,121,116,101,115,73,79,46,102,105,108,101,110,111]⟩⟩
noncomputable def s332 : Str := ⟨⟨[66,121,116,101,115,73,79,46,100,101,116,97,99,104]⟩⟩
noncomputable def s333 : Str := ⟨⟨[66,121,116,101,115,73,79,46,103,101,116,118,97,108,117,101]⟩⟩
noncomputable def s334 : Str := ⟨⟨[66,121,116,101,115,73,79,46,103,101,116,98,117,102,102,101,114]⟩⟩
noncomputable def s335 : Str := ⟨⟨[66,121,116,101,115,73,79,46,116,101,108,108]⟩⟩
noncomputable def s336 : Str := ⟨⟨[112,111,115]⟩⟩
noncomputable def s337 : Str := ⟨⟨[119,104,101,110,99,101]⟩⟩
noncomputable def s338 : Str := ⟨⟨[66,121,116,101,115,73,79,46,115,101,101,107]⟩⟩
noncomputable def s339 : Str := ⟨⟨[115,105,122,101]⟩⟩
noncomputable def s340 : Str := ⟨⟨[66,121,116,101,115,73,79,46,116,114,117,110,99,97,116,101]⟩⟩
noncomputable def s341 : Str := ⟨⟨[66,121,116,101,115,73,79,46,114,101,97,100]⟩⟩
noncomputable def s342 : Str := ⟨⟨[66,121,116,101,115,73,79,46,114,101,97,100,49]⟩⟩
noncomputable def s343 : Str := ⟨⟨[98,117,102,102,101,114]⟩⟩
noncomputable def s344 : Str := ⟨⟨[66,121,116,101,115,73,79,46,114,101,97,100,105,110,116,111]⟩⟩
noncomputable def s345 : Str := ⟨⟨[66,121,116,101,115,73,79,46,114,101,97,100,105,110,116,111,49]⟩⟩
noncomputable def s346 : Str := ⟨⟨[66,121,116,101,115,73,79,46,114,101,97,100,108,105,110,101]⟩⟩
noncomputable def s347 : Str := ⟨⟨[66,121,116,101,115,73,79,46,114,101,97,100,108,105,110,101,115]⟩⟩
noncomputable def s348 : Str := ⟨⟨[66,121,116,101,115,73,79,46,95,95,105,116,101,114,95,95]⟩⟩
noncomputable def s349 : Str := ⟨⟨[108,105,110,101]⟩⟩
noncomputable def s350 : Str := ⟨⟨[66,121,116,101,115,73,79,46,95,95,110,101,120,116,95,95]⟩⟩
noncomputable def s351 : Str := ⟨⟨[98]⟩⟩
noncomputable def s352 : Str := ⟨⟨[66,121,116,101,115,73,79,46,119,114,105,116,101]⟩⟩
noncomputable def s353 : Str := ⟨⟨[108,105,110,101,115]⟩⟩
noncomputable def s354 : Str := ⟨⟨[66,121,116,101,115,73,79,46,119,114,105,116,101,108,105,110,101,115]⟩⟩
noncomputable def s355 : Str := ⟨⟨[66,121,116,101,115,73,79,46,95,95,114,101,112,114,95,95]⟩⟩
noncomputable def s356 : Str := ⟨⟨[95,95,98,117,102]⟩⟩
noncomputable def s357 : Str := ⟨⟨[95,95,112,111,115]⟩⟩
noncomputable def s358 : Str := ⟨⟨[95,83,116,114,105,110,103,73,79,95,95,116,114,97,110,115,108,97,116,101,100]⟩⟩
noncomputable def s359 : Str := ⟨⟨[95,83,116,114,105,110,103,73,79,95,95,99,104,101,99,107]⟩⟩
noncomputable def s360 : Str := ⟨⟨[95,83,116,114,105,110,103,73,79,95,95,99,104,101,99,107,95,100,111,116]⟩⟩
noncomputable def s361 : Str := ⟨⟨[95,83,116,114,105,110,103,73,79,95,95,108,105,110,101]⟩⟩
noncomputable def s362 : Str := ⟨⟨[108,105,110,101,95,98,117,102,102,101,114,105,110,103]⟩⟩
noncomputable def s363 : Str := ⟨⟨[110,101,119,108,105,110,101,115]⟩⟩
noncomputable def s364 : Str := ⟨⟨[101,110,99,111,100,105,110,103]⟩⟩
noncomputable def s365 : Str := ⟨⟨[101,114,114,111,114,115]⟩⟩
noncomputable def s366 : Str := ⟨⟨[105,110,105,116,105,97,108,95,118,97,108,117,101]⟩⟩
noncomputable def s367 : Str := ⟨⟨[110,101,119,108,105,110,101]⟩⟩
noncomputable def s368 : Str := ⟨⟨[83,116,114,105,110,103,73,79,46,95,95,105,110,105,116,95,95]⟩⟩
noncomputable def s369 : Str := ⟨⟨[115]⟩⟩
noncomputable def s370 : Str := ⟨⟨[95,95,116,114,97,110,115,108,97,116,101,100]⟩⟩
noncomputable def s371 : Str := ⟨⟨[83,116,114,105,110,103,73,79,46,95,95,116,114,97,110,115,108,97,116,101,100]⟩⟩
noncomputable def s372 : Str := ⟨⟨[83,116,114,105,110,103,73,79,46,95,95,99,104,101,99,107]⟩⟩
noncomputable def s373 : Str := ⟨⟨[95,95,99,104,101,99,107,95,100,111,116]⟩⟩
noncomputable def s374 : Str := ⟨⟨[83,116,114,105,110,103,73,79,46,95,95,99,104,101,99,107,95,100,111,116]⟩⟩
noncomputable def s375 : Str := ⟨⟨[99,117,116]⟩⟩
noncomputable def s376 : Str := ⟨⟨[106]⟩⟩
noncomputable def s377 : Str := ⟨⟨[101,110,100]⟩⟩
noncomputable def s378 : Str := ⟨⟨[83,116,114,105,110,103,73,79,46,95,95,108,105,110,101]⟩⟩
noncomputable def s379 : Str := ⟨⟨[83,116,114,105,110,103,73,79,46,99,108,111,115,101,100]⟩⟩
noncomputable def s380 : Str := ⟨⟨[83,116,114,105,110,103,73,79,46,108,105,110,101,95,98,117,102,102,101,114,105,110,103]⟩⟩
noncomputable def s381 : Str := ⟨⟨[83,116,114,105,110,103,73,79,46,110,101,119,108,105,110,101,115]⟩⟩
noncomputable def s382 : Str := ⟨⟨[83,116,114,105,110,103,73,79,46,101,110,99,111,100,105,110,103]⟩⟩
noncomputable def s383 : Str := ⟨⟨[83,116,114,105,110,103,73,79,46,101,114,114,111,114,115]⟩⟩
noncomputable def s384 : Str := ⟨⟨[83,116,114,105,110,103,73,79,46,99,108,111,115,101]⟩⟩
noncomputable def s385 : Str := ⟨⟨[83,116,114,105,110,103,73,79,46,95,95,101,110,116,101,114,95,95]⟩⟩
noncomputable def s386 : Str := ⟨⟨[83,116,114,105,110,103,73,79,46,95,95,101,120,105,116,95,95]⟩⟩
noncomputable def s387 : Str := ⟨⟨[83,116,114,105,110,103,73,79,46,114,101,97,100,97,98,108,101]⟩⟩
noncomputable def s388 : Str := ⟨⟨[83,116,114,105,110,103,73,79,46,119,114,105,116,97,98,108,101]⟩⟩
noncomputable def s389 : Str := ⟨⟨[83,116,114,105,110,103,73,79,46,115,101,101,107,97,98,108,101]⟩⟩
noncomputable def s390 : Str := ⟨⟨[83,116,114,105,110,103,73,79,46,105,115,97,116,116,121]⟩⟩
noncomputable def s391 : Str := ⟨⟨[83,116,114,105,110,103,73,79,46,102,108,117,115,104]⟩⟩
noncomputable def s392 : Str := ⟨⟨[83,116,114,105,110,103,73,79,46,102,105,108,101,110,111]⟩⟩
noncomputable def s393 : Str := ⟨⟨[83,116,114,105,110,103,73,79,46,100,101,116,97,99,104]⟩⟩
noncomputable def s394 : Str := ⟨⟨[83,116,114,105,110,103,73,79,46,103,101,116,118,97,108,117,101]⟩⟩
noncomputable def s395 : Str := ⟨⟨[83,116,114,105,110,103,73,79,46,116,101,108,108]⟩⟩
noncomputable def s396 : Str := ⟨⟨[83,116,114,105,110,103,73,79,46,115,101,101,107]⟩⟩
noncomputable def s397 : Str := ⟨⟨[83,116,114,105,110,103,73,79,46,116,114,117,110,99,97,116,101]⟩⟩
noncomputable def s398 : Str := ⟨⟨[83,116,114,105,110,103,73,79,46,114,101,97,100]⟩⟩
noncomputable def s399 : Str := ⟨⟨[83,116,114,105,110,103,73,79,46,114,101,97,100,108,105,110,101]⟩⟩
noncomputable def s400 : Str := ⟨⟨[104,105,110,116]⟩⟩
noncomputable def s401 : Str := ⟨⟨[83,116,114,105,110,103,73,79,46,114,101,97,100,108,105,110,101,115]⟩⟩
noncomputable def s402 : Str := ⟨⟨[83,116,114,105,110,103,73,79,46,95,95,105,116,101,114,95,95]⟩⟩
noncomputable def s403 : Str := ⟨⟨[83,116,114,105,110,103,73,79,46,95,95,110,101,120,116,95,95]⟩⟩
noncomputable def s404 : Str := ⟨⟨[109]⟩⟩
noncomputable def s405 : Str := ⟨⟨[98,117,102]⟩⟩
noncomputable def s406 : Str := ⟨⟨[83,116,114,105,110,103,73,79,46,119,114,105,116,101]⟩⟩
noncomputable def s407 : Str := ⟨⟨[83,116,114,105,110,103,73,79,46,119,114,105,116,101,108,105,110,101,115]⟩⟩
noncomputable def s408 : Str := ⟨⟨[83,116,114,105,110,103,73,79,46,95,95,114,101,112,114,95,95]⟩⟩
noncomputable def s409 : Str := ⟨⟨[95,95,110,101,119,108,105,110,101]⟩⟩
noncomputable def s410 : Str := ⟨⟨[120]⟩⟩
noncomputable def s411 : Str := ⟨⟨[116]⟩⟩
noncomputable def s412 : Str := ⟨⟨[111,115,46,112,97,116,104]⟩⟩
noncomputable def s413 : Str := ⟨⟨[102,117,110,99,110,97,109,101]⟩⟩
noncomputable def s414 : Str := ⟨⟨[97]⟩⟩
noncomputable def s415 : Str := ⟨⟨[112]⟩⟩
noncomputable def s416 : Str := ⟨⟨[115,101,112]⟩⟩
noncomputable def s417 : Str := ⟨⟨[112,97,116,104]⟩⟩
noncomputable def s418 : Str := ⟨⟨[104,101,97,100]⟩⟩
noncomputable def s419 : Str := ⟨⟨[112,117,110,99,116,117,97,116,105,111,110,95,99,104,97,114,115]⟩⟩
noncomputable def s420 : Str := ⟨⟨[112,117,115,104,95,116,111,107,101,110]⟩⟩
noncomputable def s421 : Str := ⟨⟨[112,117,115,104,95,115,111,117,114,99,101]⟩⟩
noncomputable def s422 : Str := ⟨⟨[112,111,112,95,115,111,117,114,99,101]⟩⟩
noncomputable def s423 : Str := ⟨⟨[103,101,116,95,116,111,107,101,110]⟩⟩
noncomputable def s424 : Str := ⟨⟨[114,101,97,100,95,116,111,107,101,110]⟩⟩
noncomputable def s425 : Str := ⟨⟨[115,111,117,114,99,101,104,111,111,107]⟩⟩
noncomputable def s426 : Str := ⟨⟨[101,114,114,111,114,95,108,101,97,100,101,114]⟩⟩
noncomputable def s427 : Str := ⟨⟨[105,110,115,116,114,101,97,109]⟩⟩
noncomputable def s428 : Str := ⟨⟨[105,110,102,105,108,101]⟩⟩
noncomputable def s429 : Str := ⟨⟨[112,111,115,105,120]⟩⟩
noncomputable def s430 : Str := ⟨⟨[115,104,108,101,120,46,95,95,105,110,105,116,95,95]⟩⟩
noncomputable def s431 : Str := ⟨⟨[115,104,108,101,120,46,112,117,110,99,116,117,97,116,105,111,110,95,99,104,97,114,115]⟩⟩
noncomputable def s432 : Str := ⟨⟨[116,111,107]⟩⟩
noncomputable def s433 : Str := ⟨⟨[115,104,108,101,120,46,112,117,115,104,95,116,111,107,101,110]⟩⟩
noncomputable def s434 : Str := ⟨⟨[110,101,119,115,116,114,101,97,109]⟩⟩
noncomputable def s435 : Str := ⟨⟨[110,101,119,102,105,108,101]⟩⟩
noncomputable def s436 : Str := ⟨⟨[115,104,108,101,120,46,112,117,115,104,95,115,111,117,114,99,101]⟩⟩
noncomputable def s437 : Str := ⟨⟨[115,104,108,101,120,46,112,111,112,95,115,111,117,114,99,101]⟩⟩
noncomputable def s438 : Str := ⟨⟨[114,97,119]⟩⟩
noncomputable def s439 : Str := ⟨⟨[115,112,101,99]⟩⟩
noncomputable def s440 : Str := ⟨⟨[115,104,108,101,120,46,103,101,116,95,116,111,107,101,110]⟩⟩
noncomputable def s441 : Str := ⟨⟨[113,117,111,116,101,100]⟩⟩
noncomputable def s442 : Str := ⟨⟨[101,115,99,97,112,101,100,115,116,97,116,101]⟩⟩
noncomputable def s443 : Str := ⟨⟨[110,101,120,116,99,104,97,114]⟩⟩
noncomputable def s444 : Str := ⟨⟨[114,101,115,117,108,116]⟩⟩
noncomputable def s445 : Str := ⟨⟨[115,104,108,101,120,46,114,101,97,100,95,116,111,107,101,110]⟩⟩
noncomputable def s446 : Str := ⟨⟨[115,104,108,101,120,46,115,111,117,114,99,101,104,111,111,107]⟩⟩
noncomputable def s447 : Str := ⟨⟨[108,105,110,101,110,111]⟩⟩
noncomputable def s448 : Str := ⟨⟨[115,104,108,101,120,46,101,114,114,111,114,95,108,101,97,100,101,114]⟩⟩
noncomputable def s449 : Str := ⟨⟨[115,104,108,101,120,46,95,95,105,116,101,114,95,95]⟩⟩
noncomputable def s450 : Str := ⟨⟨[116,111,107,101,110]⟩⟩
noncomputable def s451 : Str := ⟨⟨[115,104,108,101,120,46,95,95,110,101,120,116,95,95]⟩⟩
noncomputable def s452 : Str := ⟨⟨[95,112,117,110,99,116,117,97,116,105,111,110,95,99,104,97,114,115]⟩⟩
noncomputable def s453 : Str := ⟨⟨[95,112,117,115,104,98,97,99,107,95,99,104,97,114,115]⟩⟩
noncomputable def s454 : Str := ⟨⟨[99,111,109,109,101,110,116,101,114,115]⟩⟩
noncomputable def s455 : Str := ⟨⟨[100,101,98,117,103]⟩⟩
noncomputable def s456 : Str := ⟨⟨[101,111,102]⟩⟩
noncomputable def s457 : Str := ⟨⟨[101,115,99,97,112,101]⟩⟩
noncomputable def s458 : Str := ⟨⟨[101,115,99,97,112,101,100,113,117,111,116,101,115]⟩⟩
noncomputable def s459 : Str := ⟨⟨[102,105,108,101,115,116,97,99,107]⟩⟩
noncomputable def s460 : Str := ⟨⟨[112,117,115,104,98,97,99,107]⟩⟩
noncomputable def s461 : Str := ⟨⟨[113,117,111,116,101,115]⟩⟩
noncomputable def s462 : Str := ⟨⟨[115,111,117,114,99,101]⟩⟩
noncomputable def s463 : Str := ⟨⟨[115,116,97,116,101]⟩⟩
noncomputable def s464 : Str := ⟨⟨[119,104,105,116,101,115,112,97,99,101]⟩⟩
noncomputable def s465 : Str := ⟨⟨[119,104,105,116,101,115,112,97,99,101,95,115,112,108,105,116]⟩⟩
noncomputable def s466 : Str := ⟨⟨[119,111,114,100,99,104,97,114,115]⟩⟩
noncomputable def s467 : Str := ⟨⟨[99,111,109,109,101,110,116,115]⟩⟩
noncomputable def s468 : Str := ⟨⟨[108,101,120]⟩⟩
noncomputable def s469 : Str := ⟨⟨[115,112,108,105,116,95,99,111,109,109,97,110,100]⟩⟩
noncomputable def s470 : Str := ⟨⟨[95,81,85,79,80,82,73,95,77,65,80]⟩⟩
noncomputable def s471 : Str := ⟨⟨[61,48,48]⟩⟩
noncomputable def s472 : Str := ⟨⟨[61,48,49]⟩⟩
noncomputable def s473 : Str := ⟨⟨[61,48,50]⟩⟩
noncomputable def s474 : Str := ⟨⟨[61,48,51]⟩⟩
noncomputable def s475 : Str := ⟨⟨[61,48,52]⟩⟩
noncomputable def s476 : Str := ⟨⟨[61,48,53]⟩⟩
noncomputable def s477 : Str := ⟨⟨[61,48,54]⟩⟩
noncomputable def s478 : Str := ⟨⟨[61,48,55]⟩⟩
noncomputable def s479 : Str := ⟨⟨[61,48,56]⟩⟩
noncomputable def s480 : Str := ⟨⟨[61,48,57]⟩⟩
noncomputable def s481 : Str := ⟨⟨[61,48,65]⟩⟩
noncomputable def s482 : Str := ⟨⟨[61,48,66]⟩⟩
noncomputable def s483 : Str := ⟨⟨[61,48,67]⟩⟩
noncomputable def s484 : Str := ⟨⟨[61,48,68]⟩⟩
noncomputable def s485 : Str := ⟨⟨[61,48,69]⟩⟩
noncomputable def s486 : Str := ⟨⟨[61,48,70]⟩⟩
noncomputable def s487 : Str := ⟨⟨[61,49,48]⟩⟩
noncomputable def s488 : Str := ⟨⟨[61,49,49]⟩⟩
noncomputable def s489 : Str := ⟨⟨[61,49,50]⟩⟩
noncomputable def s490 : Str := ⟨⟨[61,49,51]⟩⟩
noncomputable def s491 : Str := ⟨⟨[61,49,52]⟩⟩
noncomputable def s492 : Str := ⟨⟨[61,49,53]⟩⟩
noncomputable def s493 : Str := ⟨⟨[61,49,54]⟩⟩
noncomputable def s494 : Str := ⟨⟨[61,49,55]⟩⟩
noncomputable def s495 : Str := ⟨⟨[61,49,56]⟩⟩
noncomputable def s496 : Str := ⟨⟨[61,49,57]⟩⟩
noncomputable def s497 : Str := ⟨⟨[61,49,65]⟩⟩
noncomputable def s498 : Str := ⟨⟨[61,49,66]⟩⟩
noncomputable def s499 : Str := ⟨⟨[61,49,67]⟩⟩
noncomputable def s500 : Str := ⟨⟨[61,49,68]⟩⟩
noncomputable def s501 : Str := ⟨⟨[61,49,69]⟩⟩
noncomputable def s502 : Str := ⟨⟨[61,49,70]⟩⟩
noncomputable def s503 : Str := ⟨⟨[61,50,48]⟩⟩
noncomputable def s504 : Str := ⟨⟨[61,50,49]⟩⟩
noncomputable def s505 : Str := ⟨⟨[61,50,50]⟩⟩
noncomputable def s506 : Str := ⟨⟨[61,50,51]⟩⟩
noncomputable def s507 : Str := ⟨⟨[61,50,52]⟩⟩
noncomputable def s508 : Str := ⟨⟨[61,50,53]⟩⟩
noncomputable def s509 : Str := ⟨⟨[61,50,54]⟩⟩
noncomputable def s510 : Str := ⟨⟨[61,50,55]⟩⟩
noncomputable def s511 : Str := ⟨⟨[61,50,56]⟩⟩
noncomputable def s512 : Str := ⟨⟨[61,50,57]⟩⟩
noncomputable def s513 : Str := ⟨⟨[61,50,65]⟩⟩
noncomputable def s514 : Str := ⟨⟨[61,50,66]⟩⟩
noncomputable def s515 : Str := ⟨⟨[61,50,67]⟩⟩
noncomputable def s516 : Str := ⟨⟨[61,50,68]⟩⟩
noncomputable def s517 : Str := ⟨⟨[61,50,69]⟩⟩
noncomputable def s518 : Str := ⟨⟨[61,50,70]⟩⟩
noncomputable def s519 : Str := ⟨⟨[61,51,48]⟩⟩
noncomputable def s520 : Str := ⟨⟨[61,51,49]⟩⟩
noncomputable def s521 : Str := ⟨⟨[61,51,50]⟩⟩
noncomputable def s522 : Str := ⟨⟨[61,51,51]⟩⟩
noncomputable def s523 : Str := ⟨⟨[61,51,52]⟩⟩
noncomputable def s524 : Str := ⟨⟨[61,51,53]⟩⟩
noncomputable def s525 : Str := ⟨⟨[61,51,54]⟩⟩
noncomputable def s526 : Str := ⟨⟨[61,51,55]⟩⟩
noncomputable def s527 : Str := ⟨⟨[61,51,56]⟩⟩
noncomputable def s528 : Str := ⟨⟨[61,51,57]⟩⟩
noncomputable def s529 : Str := ⟨⟨[61,51,65]⟩⟩
noncomputable def s530 : Str := ⟨⟨[61,51,66]⟩⟩
noncomputable def s531 : Str := ⟨⟨[61,51,67]⟩⟩
noncomputable def s532 : Str := ⟨⟨[61,51,68]⟩⟩
noncomputable def s533 : Str := ⟨⟨[61,51,69]⟩⟩
noncomputable def s534 : Str := ⟨⟨[61,51,70]⟩⟩
noncomputable def s535 : Str := ⟨⟨[61,52,48]⟩⟩
noncomputable def s536 : Str := ⟨⟨[61,52,49]⟩⟩
noncomputable def s537 : Str := ⟨⟨[61,52,50]⟩⟩
noncomputable def s538 : Str := ⟨⟨[61,52,51]⟩⟩
noncomputable def s539 : Str := ⟨⟨[61,52,52]⟩⟩
noncomputable def s540 : Str := ⟨⟨[61,52,53]⟩⟩
noncomputable def s541 : Str := ⟨⟨[61,52,54]⟩⟩
noncomputable def s542 : Str := ⟨⟨[61,52,55]⟩⟩
noncomputable def s543 : Str := ⟨⟨[61,52,56]⟩⟩
noncomputable def s544 : Str := ⟨⟨[61,52,57]⟩⟩
noncomputable def s545 : Str := ⟨⟨[61,52,65]⟩⟩
noncomputable def s546 : Str := ⟨⟨[61,52,66]⟩⟩
noncomputable def s547 : Str := ⟨⟨[61,52,67]⟩⟩
noncomputable def s548 : Str := ⟨⟨[61,52,68]⟩⟩
noncomputable def s549 : Str := ⟨⟨[61,52,69]⟩⟩
noncomputable def s550 : Str := ⟨⟨[61,52,70]⟩⟩
noncomputable def s551 : Str := ⟨⟨[61,53,48]⟩⟩
noncomputable def s552 : Str := ⟨⟨[61,53,49]⟩⟩
noncomputable def s553 : Str := ⟨⟨[61,53,50]⟩⟩
noncomputable def s554 : Str := ⟨⟨[61,53,51]⟩⟩
noncomputable def s555 : Str := ⟨⟨[61,53,52]⟩⟩
noncomputable def s556 : Str := ⟨⟨[61,53,53]⟩⟩
noncomputable def s557 : Str := ⟨⟨[61,53,54]⟩⟩
noncomputable def s558 : Str := ⟨⟨[61,53,55]⟩⟩
noncomputable def s559 : Str := ⟨⟨[61,53,56]⟩⟩
noncomputable def s560 : Str := ⟨⟨[61,53,57]⟩⟩
noncomputable def s561 : Str := ⟨⟨[61,53,65]⟩⟩
noncomputable def s562 : Str := ⟨⟨[61,53,66]⟩⟩
noncomputable def s563 : Str := ⟨⟨[61,53,67]⟩⟩
noncomputable def s564 : Str := ⟨⟨[61,53,68]⟩⟩
noncomputable def s565 : Str := ⟨⟨[61,53,69]⟩⟩
noncomputable def s566 : Str := ⟨⟨[61,53,70]⟩⟩
noncomputable def s567 : Str := ⟨⟨[61,54,48]⟩⟩
noncomputable def s568 : Str := ⟨⟨[61,54,49]⟩⟩
noncomputable def s569 : Str := ⟨⟨[61,54,50]⟩⟩
noncomputable def s570 : Str := ⟨⟨[61,54,51]⟩⟩
noncomputable def s571 : Str := ⟨⟨[61,54,52]⟩⟩
noncomputable def s572 : Str := ⟨⟨[61,54,53]⟩⟩
noncomputable def s573 : Str := ⟨⟨[61,54,54]⟩⟩
noncomputable def s574 : Str := ⟨⟨[61,54,55]⟩⟩
noncomputable def s575 : Str := ⟨⟨[61,54,56]⟩⟩
noncomputable def s576 : Str := ⟨⟨[61,54,57]⟩⟩
noncomputable def s577 : Str := ⟨⟨[61,54,65]⟩⟩
noncomputable def s578 : Str := ⟨⟨[61,54,66]⟩⟩
noncomputable def s579 : Str := ⟨⟨[61,54,67]⟩⟩
noncomputable def s580 : Str := ⟨⟨[61,54,68]⟩⟩
noncomputable def s581 : Str := ⟨⟨[61,54,69]⟩⟩
noncomputable def s582 : Str := ⟨⟨[61,54,70]⟩⟩
noncomputable def s583 : Str := ⟨⟨[61,55,48]⟩⟩
noncomputable def s584 : Str := ⟨⟨[61,55,49]⟩⟩
noncomputable def s585 : Str := ⟨⟨[61,55,50]⟩⟩
noncomputable def s586 : Str := ⟨⟨[61,55,51]⟩⟩
noncomputable def s587 : Str := ⟨⟨[61,55,52]⟩⟩
noncomputable def s588 : Str := ⟨⟨[61,55,53]⟩⟩
noncomputable def s589 : Str := ⟨⟨[61,55,54]⟩⟩
noncomputable def s590 : Str := ⟨⟨[61,55,55]⟩⟩
noncomputable def s591 : Str := ⟨⟨[61,55,56]⟩⟩
noncomputable def s592 : Str := ⟨⟨[61,55,57]⟩⟩
noncomputable def s593 : Str := ⟨⟨[61,55,65]⟩⟩
noncomputable def s594 : Str := ⟨⟨[61,55,66]⟩⟩
noncomputable def s595 : Str := ⟨⟨[61,55,67]⟩⟩
noncomputable def s596 : Str := ⟨⟨[61,55,68]⟩⟩
noncomputable def s597 : Str := ⟨⟨[61,55,69]⟩⟩
noncomputable def s598 : Str := ⟨⟨[61,55,70]⟩⟩
noncomputable def s599 : Str := ⟨⟨[61,56,48]⟩⟩
noncomputable def s600 : Str := ⟨⟨[61,56,49]⟩⟩
noncomputable def s601 : Str := ⟨⟨[61,56,50]⟩⟩
noncomputable def s602 : Str := ⟨⟨[61,56,51]⟩⟩
noncomputable def s603 : Str := ⟨⟨[61,56,52]⟩⟩
noncomputable def s604 : Str := ⟨⟨[61,56,53]⟩⟩
noncomputable def s605 : Str := ⟨⟨[61,56,54]⟩⟩
noncomputable def s606 : Str := ⟨⟨[61,56,55]⟩⟩
noncomputable def s607 : Str := ⟨⟨[61,56,56]⟩⟩
noncomputable def s608 : Str := ⟨⟨[61,56,57]⟩⟩
noncomputable def s609 : Str := ⟨⟨[61,56,65]⟩⟩
noncomputable def s610 : Str := ⟨⟨[61,56,66]⟩⟩
noncomputable def s611 : Str := ⟨⟨[61,56,67]⟩⟩
noncomputable def s612 : Str := ⟨⟨[61,56,68]⟩⟩
noncomputable def s613 : Str := ⟨⟨[61,56,69]⟩⟩
noncomputable def s614 : Str := ⟨⟨[61,56,70]⟩⟩
noncomputable def s615 : Str := ⟨⟨[61,57,48]⟩⟩
noncomputable def s616 : Str := ⟨⟨[61,57,49]⟩⟩
noncomputable def s617 : Str := ⟨⟨[61,57,50]⟩⟩
noncomputable def s618 : Str := ⟨⟨[61,57,51]⟩⟩
noncomputable def s619 : Str := ⟨⟨[61,57,52]⟩⟩
noncomputable def s620 : Str := ⟨⟨[61,57,53]⟩⟩
noncomputable def s621 : Str := ⟨⟨[61,57,54]⟩⟩
noncomputable def s622 : Str := ⟨⟨[61,57,55]⟩⟩
noncomputable def s623 : Str := ⟨⟨[61,57,56]⟩⟩
noncomputable def s624 : Str := ⟨⟨[61,57,57]⟩⟩
noncomputable def s625 : Str := ⟨⟨[61,57,65]⟩⟩
noncomputable def s626 : Str := ⟨⟨[61,57,66]⟩⟩
noncomputable def s627 : Str := ⟨⟨[61,57,67]⟩⟩
noncomputable def s628 : Str := ⟨⟨[61,57,68]⟩⟩
noncomputable def s629 : Str := ⟨⟨[61,57,69]⟩⟩
noncomputable def s630 : Str := ⟨⟨[61,57,70]⟩⟩
noncomputable def s631 : Str := ⟨⟨[61,65,48]⟩⟩
noncomputable def s632 : Str := ⟨⟨[61,65,49]⟩⟩
noncomputable def s633 : Str := ⟨⟨[61,65,50]⟩⟩
noncomputable def s634 : Str := ⟨⟨[61,65,51]⟩⟩
noncomputable def s635 : Str := ⟨⟨[61,65,52]⟩⟩
noncomputable def s636 : Str := ⟨⟨[61,65,53]⟩⟩
noncomputable def s637 : Str := ⟨⟨[61,65,54]⟩⟩
noncomputable def s638 : Str := ⟨⟨[61,65,55]⟩⟩
noncomputable def s639 : Str := ⟨⟨[61,65,56]⟩⟩
noncomputable def s640 : Str := ⟨⟨[61,65,57]⟩⟩
noncomputable def s641 : Str := ⟨⟨[61,65,65]⟩⟩
noncomputable def s642 : Str := ⟨⟨[61,65,66]⟩⟩
noncomputable def s643 : Str := ⟨⟨[61,65,67]⟩⟩
noncomputable def s644 : Str := ⟨⟨[61,65,68]⟩⟩
noncomputable def s645 : Str := ⟨⟨[61,65,69]⟩⟩
noncomputable def s646 : Str := ⟨⟨[61,65,70]⟩⟩
noncomputable def s647 : Str := ⟨⟨[61,66,48]⟩⟩
noncomputable def s648 : Str := ⟨⟨[61,66,49]⟩⟩
noncomputable def s649 : Str := ⟨⟨[61,66,50]⟩⟩
noncomputable def s650 : Str := ⟨⟨[61,66,51]⟩⟩
noncomputable def s651 : Str := ⟨⟨[61,66,52]⟩⟩
noncomputable def s652 : Str := ⟨⟨[61,66,53]⟩⟩
noncomputable def s653 : Str := ⟨⟨[61,66,54]⟩⟩
noncomputable def s654 : Str := ⟨⟨[61,66,55]⟩⟩
noncomputable def s655 : Str := ⟨⟨[61,66,56]⟩⟩
noncomputable def s656 : Str := ⟨⟨[61,66,57]⟩⟩
noncomputable def s657 : Str := ⟨⟨[61,66,65]⟩⟩
noncomputable def s658 : Str := ⟨⟨[61,66,66]⟩⟩
noncomputable def s659 : Str := ⟨⟨[61,66,67]⟩⟩
noncomputable def s660 : Str := ⟨⟨[61,66,68]⟩⟩
noncomputable def s661 : Str := ⟨⟨[61,66,69]⟩⟩
noncomputable def s662 : Str := ⟨⟨[61,66,70]⟩⟩
noncomputable def s663 : Str := ⟨⟨[61,67,48]⟩⟩
noncomputable def s664 : Str := ⟨⟨[61,67,49]⟩⟩
noncomputable def s665 : Str := ⟨⟨[61,67,50]⟩⟩
noncomputable def s666 : Str := ⟨⟨[61,67,51]⟩⟩
noncomputable def s667 : Str := ⟨⟨[61,67,52]⟩⟩
noncomputable def s668 : Str := ⟨⟨[61,67,53]⟩⟩
noncomputable def s669 : Str := ⟨⟨[61,67,54]⟩⟩
noncomputable def s670 : Str := ⟨⟨[61,67,55]⟩⟩
noncomputable def s671 : Str := ⟨⟨[61,67,56]⟩⟩
noncomputable def s672 : Str := ⟨⟨[61,67,57]⟩⟩
noncomputable def s673 : Str := ⟨⟨[61,67,65]⟩⟩
noncomputable def s674 : Str := ⟨⟨[61,67,66]⟩⟩
noncomputable def s675 : Str := ⟨⟨[61,67,67]⟩⟩
noncomputable def s676 : Str := ⟨⟨[61,67,68]⟩⟩
noncomputable def s677 : Str := ⟨⟨[61,67,69]⟩⟩
noncomputable def s678 : Str := ⟨⟨[61,67,70]⟩⟩
noncomputable def s679 : Str := ⟨⟨[61,68,48]⟩⟩
noncomputable def s680 : Str := ⟨⟨[61,68,49]⟩⟩
noncomputable def s681 : Str := ⟨⟨[61,68,50]⟩⟩
noncomputable def s682 : Str := ⟨⟨[61,68,51]⟩⟩
noncomputable def s683 : Str := ⟨⟨[61,68,52]⟩⟩
noncomputable def s684 : Str := ⟨⟨[61,68,53]⟩⟩
noncomputable def s685 : Str := ⟨⟨[61,68,54]⟩⟩
noncomputable def s686 : Str := ⟨⟨[61,68,55]⟩⟩
noncomputable def s687 : Str := ⟨⟨[61,68,56]⟩⟩
noncomputable def s688 : Str := ⟨⟨[61,68,57]⟩⟩
noncomputable def s689 : Str := ⟨⟨[61,68,65]⟩⟩
noncomputable def s690 : Str := ⟨⟨[61,68,66]⟩⟩
noncomputable def s691 : Str := ⟨⟨[61,68,67]⟩⟩
noncomputable def s692 : Str := ⟨⟨[61,68,68]⟩⟩
noncomputable def s693 : Str := ⟨⟨[61,68,69]⟩⟩
noncomputable def s694 : Str := ⟨⟨[61,68,70]⟩⟩
noncomputable def s695 : Str := ⟨⟨[61,69,48]⟩⟩
noncomputable def s696 : Str := ⟨⟨[61,69,49]⟩⟩
noncomputable def s697 : Str := ⟨⟨[61,69,50]⟩⟩
noncomputable def s698 : Str := ⟨⟨[61,69,51]⟩⟩
noncomputable def s699 : Str := ⟨⟨[61,69,52]⟩⟩
noncomputable def s700 : Str := ⟨⟨[61,69,53]⟩⟩
noncomputable def s701 : Str := ⟨⟨[61,69,54]⟩⟩
noncomputable def s702 : Str := ⟨⟨[61,69,55]⟩⟩
noncomputable def s703 : Str := ⟨⟨[61,69,56]⟩⟩
noncomputable def s704 : Str := ⟨⟨[61,69,57]⟩⟩
noncomputable def s705 : Str := ⟨⟨[61,69,65]⟩⟩
noncomputable def s706 : Str := ⟨⟨[61,69,66]⟩⟩
noncomputable def s707 : Str := ⟨⟨[61,69,67]⟩⟩
noncomputable def s708 : Str := ⟨⟨[61,69,68]⟩⟩
noncomputable def s709 : Str := ⟨⟨[61,69,69]⟩⟩
noncomputable def s710 : Str := ⟨⟨[61,69,70]⟩⟩
noncomputable def s711 : Str := ⟨⟨[61,70,48]⟩⟩
noncomputable def s712 : Str := ⟨⟨[61,70,49]⟩⟩
noncomputable def s713 : Str := ⟨⟨[61,70,50]⟩⟩
noncomputable def s714 : Str := ⟨⟨[61,70,51]⟩⟩
noncomputable def s715 : Str := ⟨⟨[61,70,52]⟩⟩
noncomputable def s716 : Str := ⟨⟨[61,70,53]⟩⟩
noncomputable def s717 : Str := ⟨⟨[61,70,54]⟩⟩
noncomputable def s718 : Str := ⟨⟨[61,70,55]⟩⟩
noncomputable def s719 : Str := ⟨⟨[61,70,56]⟩⟩
noncomputable def s720 : Str := ⟨⟨[61,70,57]⟩⟩
noncomputable def s721 : Str := ⟨⟨[61,70,65]⟩⟩
noncomputable def s722 : Str := ⟨⟨[61,70,66]⟩⟩
noncomputable def s723 : Str := ⟨⟨[61,70,67]⟩⟩
noncomputable def s724 : Str := ⟨⟨[61,70,68]⟩⟩
noncomputable def s725 : Str := ⟨⟨[61,70,69]⟩⟩
noncomputable def s726 : Str := ⟨⟨[61,70,70]⟩⟩
noncomputable def s727 : Str := ⟨⟨[99,112,121,51,49,51,46,101,109,97,105,108,46,113,117,111,112,114,105,109,105,109,101]⟩⟩
noncomputable def s728 : Str := ⟨⟨[95,81,85,79,80,82,73,95,72,69,65,68,69,82,95,77,65,80]⟩⟩
noncomputable def s729 : Str := ⟨⟨[95,81,85,79,80,82,73,95,66,79,68,89,95,77,65,80]⟩⟩
noncomputable def s730 : Str := ⟨⟨[97,115,99,105,105,95,108,111,119,101,114,99,97,115,101]⟩⟩
noncomputable def s731 : Str := ⟨⟨[97,98,99,100,101,102,103,104,105,106,107,108,109,110,111,112,113,114,115,116,117,118,119,120,121,122]⟩⟩
noncomputable def s732 : Str := ⟨⟨[97,115,99,105,105,95,117,112,112,101,114,99,97,115,101]⟩⟩
noncomputable def s733 : Str := ⟨⟨[65,66,67,68,69,70,71,72,73,74,75,76,77,78,79,80,81,82,83,84,85,86,87,88,89,90]⟩⟩
noncomputable def s734 : Str := ⟨⟨[97,115,99,105,105,95,108,101,116,116,101,114,115]⟩⟩
noncomputable def s735 : Str := ⟨⟨[97,98,99,100,101,102,103,104,105,106,107,108,109,110,111,112,113,114,115,116,117,118,119,120,121,122,65,66,67,68,69,70,71,72,73,74,75,76,77,78,79,80,81,82,83,84,85,86,87,88,89,90]⟩⟩
noncomputable def s736 : Str := ⟨⟨[100,105,103,105,116,115]⟩⟩
noncomputable def s737 : Str := ⟨⟨[48,49,50,51,52,53,54,55,56,57]⟩⟩
noncomputable def s738 : Str := ⟨⟨[99]⟩⟩
noncomputable def s739 : Str := ⟨⟨[33]⟩⟩
noncomputable def s740 : Str := ⟨⟨[42]⟩⟩
noncomputable def s741 : Str := ⟨⟨[43]⟩⟩
noncomputable def s742 : Str := ⟨⟨[45]⟩⟩
noncomputable def s743 : Str := ⟨⟨[47]⟩⟩
noncomputable def s744 : Str := ⟨⟨[48]⟩⟩
noncomputable def s745 : Str := ⟨⟨[49]⟩⟩
noncomputable def s746 : Str := ⟨⟨[50]⟩⟩
noncomputable def s747 : Str := ⟨⟨[51]⟩⟩
noncomputable def s748 : Str := ⟨⟨[52]⟩⟩
noncomputable def s749 : Str := ⟨⟨[53]⟩⟩
noncomputable def s750 : Str := ⟨⟨[54]⟩⟩
noncomputable def s751 : Str := ⟨⟨[55]⟩⟩
noncomputable def s752 : Str := ⟨⟨[56]⟩⟩
noncomputable def s753 : Str := ⟨⟨[57]⟩⟩
noncomputable def s754 : Str := ⟨⟨[65]⟩⟩
noncomputable def s755 : Str := ⟨⟨[66]⟩⟩
noncomputable def s756 : Str := ⟨⟨[67]⟩⟩
noncomputable def s757 : Str := ⟨⟨[68]⟩⟩
noncomputable def s758 : Str := ⟨⟨[69]⟩⟩
noncomputable def s759 : Str := ⟨⟨[70]⟩⟩
noncomputable def s760 : Str := ⟨⟨[71]⟩⟩
noncomputable def s761 : Str := ⟨⟨[72]⟩⟩
noncomputable def s762 : Str := ⟨⟨[73]⟩⟩
noncomputable def s763 : Str := ⟨⟨[74]⟩⟩
noncomputable def s764 : Str := ⟨⟨[75]⟩⟩
noncomputable def s765 : Str := ⟨⟨[76]⟩⟩
noncomputable def s766 : Str := ⟨⟨[77]⟩⟩
noncomputable def s767 : Str := ⟨⟨[78]⟩⟩
noncomputable def s768 : Str := ⟨⟨[79]⟩⟩
noncomputable def s769 : Str := ⟨⟨[80]⟩⟩
noncomputable def s770 : Str := ⟨⟨[81]⟩⟩
noncomputable def s771 : Str := ⟨⟨[82]⟩⟩
noncomputable def s772 : Str := ⟨⟨[83]⟩⟩
noncomputable def s773 : Str := ⟨⟨[84]⟩⟩
noncomputable def s774 : Str := ⟨⟨[85]⟩⟩
noncomputable def s775 : Str := ⟨⟨[86]⟩⟩
noncomputable def s776 : Str := ⟨⟨[87]⟩⟩
noncomputable def s777 : Str := ⟨⟨[88]⟩⟩
noncomputable def s778 : Str := ⟨⟨[89]⟩⟩
noncomputable def s779 : Str := ⟨⟨[90]⟩⟩
noncomputable def s780 : Str := ⟨⟨[100]⟩⟩
noncomputable def s781 : Str := ⟨⟨[101]⟩⟩
noncomputable def s782 : Str := ⟨⟨[102]⟩⟩
noncomputable def s783 : Str := ⟨⟨[103]⟩⟩
noncomputable def s784 : Str := ⟨⟨[104]⟩⟩
noncomputable def s785 : Str := ⟨⟨[108]⟩⟩
noncomputable def s786 : Str := ⟨⟨[111]⟩⟩
noncomputable def s787 : Str := ⟨⟨[113]⟩⟩
noncomputable def s788 : Str := ⟨⟨[114]⟩⟩
noncomputable def s789 : Str := ⟨⟨[117]⟩⟩
noncomputable def s790 : Str := ⟨⟨[118]⟩⟩
noncomputable def s791 : Str := ⟨⟨[119]⟩⟩
noncomputable def s792 : Str := ⟨⟨[121]⟩⟩
noncomputable def s793 : Str := ⟨⟨[122]⟩⟩
noncomputable def s794 : Str := ⟨⟨[95]⟩⟩
noncomputable def s795 : Str := ⟨⟨[9]⟩⟩
noncomputable def s796 : Str := ⟨⟨[32]⟩⟩
noncomputable def s797 : Str := ⟨⟨[34]⟩⟩
noncomputable def s798 : Str := ⟨⟨[35]⟩⟩
noncomputable def s799 : Str := ⟨⟨[36]⟩⟩
noncomputable def s800 : Str := ⟨⟨[37]⟩⟩
noncomputable def s801 : Str := ⟨⟨[38]⟩⟩
noncomputable def s802 : Str := ⟨⟨[39]⟩⟩
noncomputable def s803 : Str := ⟨⟨[40]⟩⟩
noncomputable def s804 : Str := ⟨⟨[41]⟩⟩
noncomputable def s805 : Str := ⟨⟨[44]⟩⟩
noncomputable def s806 : Str := ⟨⟨[46]⟩⟩
noncomputable def s807 : Str := ⟨⟨[58]⟩⟩
noncomputable def s808 : Str := ⟨⟨[59]⟩⟩
noncomputable def s809 : Str := ⟨⟨[60]⟩⟩
noncomputable def s810 : Str := ⟨⟨[62]⟩⟩
noncomputable def s811 : Str := ⟨⟨[63]⟩⟩
noncomputable def s812 : Str := ⟨⟨[64]⟩⟩
noncomputable def s813 : Str := ⟨⟨[91]⟩⟩
noncomputable def s814 : Str := ⟨⟨[92]⟩⟩
noncomputable def s815 : Str := ⟨⟨[93]⟩⟩
noncomputable def s816 : Str := ⟨⟨[94]⟩⟩
noncomputable def s817 : Str := ⟨⟨[96]⟩⟩
noncomputable def s818 : Str := ⟨⟨[123]⟩⟩
noncomputable def s819 : Str := ⟨⟨[124]⟩⟩
noncomputable def s820 : Str := ⟨⟨[125]⟩⟩
noncomputable def s821 : Str := ⟨⟨[126]⟩⟩
noncomputable def s822 : Str := ⟨⟨[108,97,119,95,111,121,48,52,49,53,95,48,49]⟩⟩
noncomputable def s823 : Str := ⟨⟨[113,117,111,116,101,95,113,117,111,112,114,105,109,105,109,101]⟩⟩
noncomputable def s824 : Str := ⟨⟨[95,81,85,79,80,82,73,95,66,79,68,89,95,69,78,67,79,68,69,95,77,65,80]⟩⟩
noncomputable def s825 : Str := ⟨⟨[98,111,100,121,95,101,110,99,111,100,101]⟩⟩
noncomputable def s826 : Str := ⟨⟨[95,108,97,119,95,119,111,114,100,115]⟩⟩
noncomputable def s827 : Str := ⟨⟨[95,108,97,119,95,115,97,102,101]⟩⟩
noncomputable def s828 : Str := ⟨⟨[95,108,97,119,95,115,104,111,119,110]⟩⟩
noncomputable def s829 : Str := ⟨⟨[95,108,97,119,95,112,105,101,99,101,115]⟩⟩
noncomputable def s830 : Str := ⟨⟨[95,108,97,119,95,116,111,108,100]⟩⟩
noncomputable def s831 : Str := ⟨⟨[108,97,119]⟩⟩
noncomputable def s832 : Str := ⟨⟨[13]⟩⟩
noncomputable def s833 : Str := ⟨⟨[98,111,100,121]⟩⟩
noncomputable def s834 : Str := ⟨⟨[109,97,120,108,105,110,101,108,101,110]⟩⟩
noncomputable def s835 : Str := ⟨⟨[101,111,108]⟩⟩
noncomputable def s836 : Str := ⟨⟨[115,111,102,116,95,98,114,101,97,107]⟩⟩
noncomputable def s837 : Str := ⟨⟨[109,97,120,108,105,110,101,108,101,110,49]⟩⟩
noncomputable def s838 : Str := ⟨⟨[101,110,99,111,100,101,100,95,98,111,100,121]⟩⟩
noncomputable def s839 : Str := ⟨⟨[97,112,112,101,110,100]⟩⟩
noncomputable def s840 : Str := ⟨⟨[108,97,115,116,115,116,97,114,116]⟩⟩
noncomputable def s841 : Str := ⟨⟨[114,111,111,109]⟩⟩
noncomputable def s842 : Str := ⟨⟨[110,117,109,98,101,114,115]⟩⟩
noncomputable def s843 : Str := ⟨⟨[119,111,114,100,115]⟩⟩
noncomputable def s844 : Str := ⟨⟨[110,117,109,98,101,114]⟩⟩
noncomputable def s845 : Str := ⟨⟨[107,105,110,100]⟩⟩
noncomputable def s846 : Str := ⟨⟨[111,99,116,101,116]⟩⟩
noncomputable def s847 : Str := ⟨⟨[115,105,103,110]⟩⟩
noncomputable def s848 : Str := ⟨⟨[102,105,103,117,114,101,115]⟩⟩
noncomputable def o0 (P : Params) : Obj := ⟨.type "dict",none,.dict ⟨[⟨kh P s0,.str s0 (nat_lit 1),.str s1 (nat_lit 160)⟩,⟨kh P s2,.str s2 (nat_lit 2),.builtin "builtins.__doc__:str#opaque"⟩,⟨kh P s3,.str s3 (nat_lit 3),.builtin "builtins.__package__:str#opaque"⟩,⟨kh P s4,.str s4 (nat_lit 4),.builtin "builtins.__loader__:shared#opaque"⟩,⟨kh P s5,.str s5 (nat_lit 5),.builtin "builtins.__spec__#opaque"⟩,⟨kh P s6,.str s6 (nat_lit 6),.builtin "__build_class__"⟩,⟨kh P s7,.str s7 (nat_lit 7),.builtin "__import__"⟩,⟨kh P s8,.str s8 (nat_lit 8),.builtin "abs"⟩,⟨kh P s9,.str s9 (nat_lit 9),.builtin "all"⟩,⟨kh P s10,.str s10 (nat_lit 10),.builtin "any"⟩,⟨kh P s11,.str s11 (nat_lit 11),.builtin "ascii"⟩,⟨kh P s12,.str s12 (nat_lit 12),.builtin "bin"⟩,⟨kh P s13,.str s13 (nat_lit 13),.builtin "breakpoint"⟩,⟨kh P s14,.str s14 (nat_lit 14),.builtin "callable"⟩,⟨kh P s15,.str s15 (nat_lit 15),.builtin "chr"⟩,⟨kh P s16,.str s16 (nat_lit 16),.builtin "compile"⟩,⟨kh P s17,.str s17 (nat_lit 17),.builtin "delattr"⟩,⟨kh P s18,.str s18 (nat_lit 18),.builtin "dir"⟩,⟨kh P s19,.str s19 (nat_lit 19),.builtin "divmod"⟩,⟨kh P s20,.str s20 (nat_lit 20),.builtin "eval"⟩,⟨kh P s21,.str s21 (nat_lit 21),.builtin "exec"⟩,⟨kh P s22,.str s22 (nat_lit 22),.builtin "format"⟩,⟨kh P s23,.str s23 (nat_lit 23),.builtin "getattr"⟩,⟨kh P s24,.str s24 (nat_lit 24),.builtin "globals"⟩,⟨kh P s25,.str s25 (nat_lit 25),.builtin "hasattr"⟩,⟨kh P s26,.str s26 (nat_lit 26),.builtin "hash"⟩,⟨kh P s27,.str s27 (nat_lit 27),.builtin "hex"⟩,⟨kh P s28,.str s28 (nat_lit 28),.builtin "id"⟩,⟨kh P s29,.str s29 (nat_lit 29),.builtin "input"⟩,⟨kh P s30,.str s30 (nat_lit 30),.builtin "isinstance"⟩,⟨kh P s31,.str s31 (nat_lit 31),.builtin "issubclass"⟩,⟨kh P s32,.str s32 (nat_lit 32),.builtin "iter"⟩,⟨kh P s33,.str s33 (nat_lit 33),.builtin "aiter"⟩,⟨kh P s34,.str s34 (nat_lit 34),.builtin "len"⟩,⟨kh P s35,.str s35 (nat_lit 35),.builtin "locals"⟩,⟨kh P s36,.str s36 (nat_lit 36),.builtin "max"⟩,⟨kh P s37,.str s37 (nat_lit 37),.builtin "min"⟩,⟨kh P s38,.str s38 (nat_lit 38),.builtin "next"⟩,⟨kh P s39,.str s39 (nat_lit 39),.builtin "anext"⟩,⟨kh P s40,.str s40 (nat_lit 40),.builtin "oct"⟩,⟨kh P s41,.str s41 (nat_lit 41),.builtin "ord"⟩,⟨kh P s42,.str s42 (nat_lit 42),.builtin "pow"⟩,⟨kh P s43,.str s43 (nat_lit 43),.builtin "print"⟩,⟨kh P s44,.str s44 (nat_lit 44),.builtin "repr"⟩,⟨kh P s45,.str s45 (nat_lit 45),.builtin "round"⟩,⟨kh P s46,.str s46 (nat_lit 46),.builtin "setattr"⟩,⟨kh P s47,.str s47 (nat_lit 47),.builtin "sorted"⟩,⟨kh P s48,.str s48 (nat_lit 48),.builtin "sum"⟩,⟨kh P s49,.str s49 (nat_lit 49),.builtin "vars"⟩,⟨kh P s50,.str s50 (nat_lit 50),.none⟩,⟨kh P s51,.str s51 (nat_lit 51),.ellipsis⟩,⟨kh P s52,.str s52 (nat_lit 52),.notImplemented⟩,⟨kh P s53,.str s53 (nat_lit 53),.bool false⟩,⟨kh P s54,.str s54 (nat_lit 54),.bool true⟩,⟨kh P s55,.str s55 (nat_lit 55),.type "bool"⟩,⟨kh P s56,.str s56 (nat_lit 56),.type "memoryview"⟩,⟨kh P s57,.str s57 (nat_lit 57),.type "bytearray"⟩,⟨kh P s58,.str s58 (nat_lit 58),.type "bytes"⟩,⟨kh P s59,.str s59 (nat_lit 59),.type "classmethod"⟩,⟨kh P s60,.str s60 (nat_lit 60),.type "complex"⟩,⟨kh P s61,.str s61 (nat_lit 61),.type "dict"⟩,⟨kh P s62,.str s62 (nat_lit 62),.type "enumerate"⟩,⟨kh P s63,.str s63 (nat_lit 63),.type "filter"⟩,⟨kh P s64,.str s64 (nat_lit 64),.type "float"⟩,⟨kh P s65,.str s65 (nat_lit 65),.type "frozenset"⟩,⟨kh P s66,.str s66 (nat_lit 66),.type "property"⟩,⟨kh P s67,.str s67 (nat_lit 67),.type "int"⟩,⟨kh P s68,.str s68 (nat_lit 68),.type "list"⟩,⟨kh P s69,.str s69 (nat_lit 69),.type "map"⟩,⟨kh P s70,.str s70 (nat_lit 70),.type "object"⟩,⟨kh P s71,.str s71 (nat_lit 71),.type "range"⟩,⟨kh P s72,.str s72 (nat_lit 72),.type "reversed"⟩,⟨kh P s73,.str s73 (nat_lit 73),.type "set"⟩,⟨kh P s74,.str s74 (nat_lit 74),.type "slice"⟩,⟨kh P s75,.str s75 (nat_lit 75),.type "staticmethod"⟩,⟨kh P s76,.str s76 (nat_lit 76),.type "str"⟩,⟨kh P s77,.str s77 (nat_lit 77),.type "super"⟩,⟨kh P s78,.str s78 (nat_lit 78),.type "tuple"⟩,⟨kh P s79,.str s79 (nat_lit 79),.type "type"⟩,⟨kh P s80,.str s80 (nat_lit 80),.type "zip"⟩,⟨kh P s81,.str s81 (nat_lit 81),.bool true⟩,⟨kh P s82,.str s82 (nat_lit 82),.type "BaseException"⟩,⟨kh P s83,.str s83 (nat_lit 83),.type "BaseExceptionGroup"⟩,⟨kh P s84,.str s84 (nat_lit 84),.type "Exception"⟩,⟨kh P s85,.str s85 (nat_lit 85),.type "GeneratorExit"⟩,⟨kh P s86,.str s86 (nat_lit 86),.type "KeyboardInterrupt"⟩,⟨kh P s87,.str s87 (nat_lit 87),.type "SystemExit"⟩,⟨kh P s88,.str s88 (nat_lit 88),.type "ArithmeticError"⟩,⟨kh P s89,.str s89 (nat_lit 89),.type "AssertionError"⟩,⟨kh P s90,.str s90 (nat_lit 90),.type "AttributeError"⟩,⟨kh P s91,.str s91 (nat_lit 91),.type "BufferError"⟩,⟨kh P s92,.str s92 (nat_lit 92),.type "EOFError"⟩,⟨kh P s93,.str s93 (nat_lit 93),.type "ImportError"⟩,⟨kh P s94,.str s94 (nat_lit 94),.type "LookupError"⟩,⟨kh P s95,.str s95 (nat_lit 95),.type "MemoryError"⟩,⟨kh P s96,.str s96 (nat_lit 96),.type "NameError"⟩,⟨kh P s97,.str s97 (nat_lit 97),.type "OSError"⟩,⟨kh P s98,.str s98 (nat_lit 98),.type "ReferenceError"⟩,⟨kh P s99,.str s99 (nat_lit 99),.type "RuntimeError"⟩,⟨kh P s100,.str s100 (nat_lit 100),.type "StopAsyncIteration"⟩,⟨kh P s101,.str s101 (nat_lit 101),.type "StopIteration"⟩,⟨kh P s102,.str s102 (nat_lit 102),.type "SyntaxError"⟩,⟨kh P s103,.str s103 (nat_lit 103),.type "SystemError"⟩,⟨kh P s104,.str s104 (nat_lit 104),.type "TypeError"⟩,⟨kh P s105,.str s105 (nat_lit 105),.type "ValueError"⟩,⟨kh P s106,.str s106 (nat_lit 106),.type "Warning"⟩,⟨kh P s107,.str s107 (nat_lit 107),.type "FloatingPointError"⟩,⟨kh P s108,.str s108 (nat_lit 108),.type "OverflowError"⟩,⟨kh P s109,.str s109 (nat_lit 109),.type "ZeroDivisionError"⟩,⟨kh P s110,.str s110 (nat_lit 110),.type "BytesWarning"⟩,⟨kh P s111,.str s111 (nat_lit 111),.type "DeprecationWarning"⟩,⟨kh P s112,.str s112 (nat_lit 112),.type "EncodingWarning"⟩,⟨kh P s113,.str s113 (nat_lit 113),.type "FutureWarning"⟩,⟨kh P s114,.str s114 (nat_lit 114),.type "ImportWarning"⟩,⟨kh P s115,.str s115 (nat_lit 115),.type "PendingDeprecationWarning"⟩,⟨kh P s116,.str s116 (nat_lit 116),.type "ResourceWarning"⟩,⟨kh P s117,.str s117 (nat_lit 117),.type "RuntimeWarning"⟩,⟨kh P s118,.str s118 (nat_lit 118),.type "SyntaxWarning"⟩,⟨kh P s119,.str s119 (nat_lit 119),.type "UnicodeWarning"⟩,⟨kh P s120,.str s120 (nat_lit 120),.type "UserWarning"⟩,⟨kh P s121,.str s121 (nat_lit 121),.type "BlockingIOError"⟩,⟨kh P s122,.str s122 (nat_lit 122),.type "ChildProcessError"⟩,⟨kh P s123,.str s123 (nat_lit 123),.type "ConnectionError"⟩,⟨kh P s124,.str s124 (nat_lit 124),.type "FileExistsError"⟩,⟨kh P s125,.str s125 (nat_lit 125),.type "FileNotFoundError"⟩,⟨kh P s126,.str s126 (nat_lit 126),.type "InterruptedError"⟩,⟨kh P s127,.str s127 (nat_lit 127),.type "IsADirectoryError"⟩,⟨kh P s128,.str s128 (nat_lit 128),.type "NotADirectoryError"⟩,⟨kh P s129,.str s129 (nat_lit 129),.type "PermissionError"⟩,⟨kh P s130,.str s130 (nat_lit 130),.type "ProcessLookupError"⟩,⟨kh P s131,.str s131 (nat_lit 131),.type "TimeoutError"⟩,⟨kh P s132,.str s132 (nat_lit 132),.type "IndentationError"⟩,⟨kh P s133,.str s133 (nat_lit 133),.type "_IncompleteInputError"⟩,⟨kh P s134,.str s134 (nat_lit 134),.type "IndexError"⟩,⟨kh P s135,.str s135 (nat_lit 135),.type "KeyError"⟩,⟨kh P s136,.str s136 (nat_lit 136),.type "ModuleNotFoundError"⟩,⟨kh P s137,.str s137 (nat_lit 137),.type "NotImplementedError"⟩,⟨kh P s138,.str s138 (nat_lit 138),.type "PythonFinalizationError"⟩,⟨kh P s139,.str s139 (nat_lit 139),.type "RecursionError"⟩,⟨kh P s140,.str s140 (nat_lit 140),.type "UnboundLocalError"⟩,⟨kh P s141,.str s141 (nat_lit 141),.type "UnicodeError"⟩,⟨kh P s142,.str s142 (nat_lit 142),.type "BrokenPipeError"⟩,⟨kh P s143,.str s143 (nat_lit 143),.type "ConnectionAbortedError"⟩,⟨kh P s144,.str s144 (nat_lit 144),.type "ConnectionRefusedError"⟩,⟨kh P s145,.str s145 (nat_lit 145),.type "ConnectionResetError"⟩,⟨kh P s146,.str s146 (nat_lit 146),.type "TabError"⟩,⟨kh P s147,.str s147 (nat_lit 147),.type "UnicodeDecodeError"⟩,⟨kh P s148,.str s148 (nat_lit 148),.type "UnicodeEncodeError"⟩,⟨kh P s149,.str s149 (nat_lit 149),.type "UnicodeTranslateError"⟩,⟨kh P s150,.str s150 (nat_lit 150),.type "ExceptionGroup"⟩,⟨kh P s151,.str s151 (nat_lit 151),.type "OSError"⟩,⟨kh P s152,.str s152 (nat_lit 152),.type "OSError"⟩,⟨kh P s153,.str s153 (nat_lit 153),.builtin "open"⟩,⟨kh P s154,.str s154 (nat_lit 154),.builtin "builtins.quit#opaque"⟩,⟨kh P s155,.str s155 (nat_lit 155),.builtin "builtins.exit#opaque"⟩,⟨kh P s156,.str s156 (nat_lit 156),.builtin "builtins.copyright#opaque"⟩,⟨kh P s157,.str s157 (nat_lit 157),.builtin "builtins.credits#opaque"⟩,⟨kh P s158,.str s158 (nat_lit 158),.builtin "builtins.license#opaque"⟩,⟨kh P s159,.str s159 (nat_lit 159),.builtin "builtins.help#opaque"⟩]⟩ (nat_lit 159),⟨[]⟩⟩
noncomputable def o1 (P : Params) : Obj := ⟨.type "dict",none,.dict ⟨[⟨kh P s1,.str s1 (nat_lit 162),.ref (nat_lit 4)⟩,⟨kh P s160,.str s160 (nat_lit 163),.ref (nat_lit 5)⟩,⟨kh P s161,.str s161 (nat_lit 244),.ref (nat_lit 12)⟩,⟨kh P s162,.str s162 (nat_lit 292),.ref (nat_lit 30)⟩]⟩ (nat_lit 4),⟨[]⟩⟩
noncomputable def o2 (P : Params) : Obj := ⟨.none,none,.dict ⟨[⟨kh P s163,.str s163 (nat_lit 183),.bool true⟩,⟨kh P s164,.str s164 (nat_lit 185),.ref (nat_lit 14)⟩,⟨kh P s165,.str s165 (nat_lit 206),.ref (nat_lit 18)⟩,⟨kh P s166,.str s166 (nat_lit 216),.ref (nat_lit 22)⟩,⟨kh P s167,.str s167 (nat_lit 245),.int (.ofNat (nat_lit 4)) (nat_lit 0)⟩,⟨kh P s168,.str s168 (nat_lit 270),.bool true⟩,⟨kh P s169,.str s169 (nat_lit 272),.ref (nat_lit 27)⟩,⟨kh P s170,.str s170 (nat_lit 0),.str s171 (nat_lit 0)⟩,⟨kh P s172,.str s172 (nat_lit 273),.str s173 (nat_lit 0)⟩,⟨kh P s174,.str s174 (nat_lit 280),.bool true⟩,⟨kh P s175,.str s175 (nat_lit 294),.bool true⟩,⟨kh P s176,.str s176 (nat_lit 309),.bool true⟩,⟨kh P s177,.str s177 (nat_lit 311),.str s178 (nat_lit 0)⟩]⟩ (nat_lit 13),⟨[]⟩⟩
noncomputable def o3 (P : Params) : Obj := ⟨.type "dict",none,.dict ⟨[⟨kh P s0,.str s0 (nat_lit 165),.str s160 (nat_lit 164)⟩,⟨kh P s2,.str s2 (nat_lit 166),.none⟩,⟨kh P s3,.str s3 (nat_lit 167),.none⟩,⟨kh P s4,.str s4 (nat_lit 168),.builtin "__main__.__loader__#opaque"⟩,⟨kh P s5,.str s5 (nat_lit 169),.none⟩,⟨kh P s179,.str s179 (nat_lit 170),.ref (nat_lit 6)⟩,⟨kh P s180,.str s180 (nat_lit 171),.ref (nat_lit 4)⟩,⟨kh P s181,.str s181 (nat_lit 173),.str s182 (nat_lit 172)⟩,⟨kh P s183,.str s183 (nat_lit 174),.none⟩,⟨kh P s161,.str s161 (nat_lit 275),.ref (nat_lit 12)⟩,⟨kh P s184,.str s184 (nat_lit 317),.type "collections.deque"⟩]⟩ (nat_lit 11),⟨[]⟩⟩
noncomputable def o4 (P : Params) : Obj := ⟨.type "module",some (nat_lit 0),.plain,⟨[]⟩⟩
noncomputable def o5 (P : Params) : Obj := ⟨.type "module",some (nat_lit 3),.plain,⟨[]⟩⟩
noncomputable def o6 (P : Params) : Obj := ⟨.type "dict",none,.dict ⟨[]⟩ (nat_lit 0),⟨[]⟩⟩
noncomputable def o7 (P : Params) : Obj := ⟨.type "tuple",none,.seq ⟨[]⟩ (nat_lit 0),⟨[]⟩⟩
noncomputable def o8 (P : Params) : Obj := ⟨.none,none,.fields ⟨[]⟩,⟨[]⟩⟩
noncomputable def o9 (P : Params) : Obj := ⟨.type "code",none,.fields ⟨[.str s185 (nat_lit 176),.str s185 (nat_lit 177),.str s182 (nat_lit 178),.int (.ofNat (nat_lit 1)) (nat_lit 0),.int (.ofNat (nat_lit 0)) (nat_lit 0),.int (.ofNat (nat_lit 0)) (nat_lit 0),.int (.ofNat (nat_lit 0)) (nat_lit 0),.int (.ofNat (nat_lit 0)) (nat_lit 0),.ref (nat_lit 7),.bool false,.int (.ofNat (nat_lit 175)) (nat_lit 0),.ref (nat_lit 8),.none,.none,.none,.none,.int (.ofNat (nat_lit 179)) (nat_lit 0),.int (.ofNat (nat_lit 1)) (nat_lit 0),.str s182 (nat_lit 180)]⟩,⟨[]⟩⟩
noncomputable def o10 (P : Params) : Obj := ⟨.type "frame",none,.plain,⟨[some (.ref (nat_lit 9)),some (.ref (nat_lit 3)),some (.ref (nat_lit 3)),none,some (.str s160 (nat_lit 164)),none,some (.ref (nat_lit 0))]⟩⟩
noncomputable def o11 (P : Params) : Obj := ⟨.type "dict",none,.dict ⟨[⟨kh P s0,.str s0 (nat_lit 247),.str s161 (nat_lit 246)⟩,⟨kh P s2,.str s2 (nat_lit 248),.none⟩,⟨kh P s3,.str s3 (nat_lit 250),.str s186 (nat_lit 249)⟩,⟨kh P s4,.str s4 (nat_lit 251),.ref (nat_lit 14)⟩,⟨kh P s5,.str s5 (nat_lit 252),.ref (nat_lit 26)⟩,⟨kh P s16,.str s16 (nat_lit 253),.builtin "_sre.compile"⟩,⟨kh P s187,.str s187 (nat_lit 254),.builtin "_sre.template"⟩,⟨kh P s188,.str s188 (nat_lit 255),.builtin "_sre.getcodesize"⟩,⟨kh P s189,.str s189 (nat_lit 256),.builtin "_sre.ascii_iscased"⟩,⟨kh P s190,.str s190 (nat_lit 257),.builtin "_sre.unicode_iscased"⟩,⟨kh P s191,.str s191 (nat_lit 258),.builtin "_sre.ascii_tolower"⟩,⟨kh P s192,.str s192 (nat_lit 259),.builtin "_sre.unicode_tolower"⟩,⟨kh P s193,.str s193 (nat_lit 261),.int (.ofNat (nat_lit 20230612)) (nat_lit 260)⟩,⟨kh P s194,.str s194 (nat_lit 263),.int (.ofNat (nat_lit 4)) (nat_lit 262)⟩,⟨kh P s195,.str s195 (nat_lit 265),.int (.ofNat (nat_lit 4294967295)) (nat_lit 264)⟩,⟨kh P s196,.str s196 (nat_lit 267),.int (.ofNat (nat_lit 1073741823)) (nat_lit 266)⟩,⟨kh P s156,.str s156 (nat_lit 269),.str s197 (nat_lit 268)⟩]⟩ (nat_lit 17),⟨[]⟩⟩
noncomputable def o12 (P : Params) : Obj := ⟨.type "module",some (nat_lit 11),.plain,⟨[]⟩⟩
noncomputable def o13 (P : Params) : Obj := ⟨.type "dict",none,.dict ⟨[⟨kh P s198,.str s198 (nat_lit 189),.str s199 (nat_lit 186)⟩,⟨kh P s200,.str s200 (nat_lit 190),.int (.ofNat (nat_lit 971)) (nat_lit 187)⟩,⟨kh P s2,.str s2 (nat_lit 191),.builtin "_frozen_importlib.BuiltinImporter.__doc__:str#opaque"⟩,⟨kh P s201,.str s201 (nat_lit 192),.str s202 (nat_lit 188)⟩,⟨kh P s203,.str s203 (nat_lit 193),.builtin "_frozen_importlib.BuiltinImporter.find_spec#opaque"⟩,⟨kh P s204,.str s204 (nat_lit 194),.builtin "_frozen_importlib.BuiltinImporter.create_module#opaque"⟩,⟨kh P s205,.str s205 (nat_lit 195),.builtin "_frozen_importlib.BuiltinImporter.exec_module#opaque"⟩,⟨kh P s206,.str s206 (nat_lit 196),.builtin "_frozen_importlib.BuiltinImporter.get_code#opaque"⟩,⟨kh P s207,.str s207 (nat_lit 197),.builtin "_frozen_importlib.BuiltinImporter.get_source#opaque"⟩,⟨kh P s208,.str s208 (nat_lit 198),.builtin "_frozen_importlib.BuiltinImporter.is_package#opaque"⟩,⟨kh P s209,.str s209 (nat_lit 199),.builtin "_frozen_importlib.BuiltinImporter.load_module#opaque"⟩,⟨kh P s210,.str s210 (nat_lit 200),.ref (nat_lit 15)⟩,⟨kh P s211,.str s211 (nat_lit 202),.ref (nat_lit 16)⟩,⟨kh P s212,.str s212 (nat_lit 204),.ref (nat_lit 17)⟩]⟩ (nat_lit 14),⟨[]⟩⟩
noncomputable def o14 (P : Params) : Obj := ⟨.type "type",none,.cls ⟨s213,[.type "object"],[.ref (nat_lit 14),.type "object"],nat_lit 13,s213,true,[],[],false,none,false⟩,⟨[]⟩⟩
noncomputable def o15 (P : Params) : Obj := ⟨.type "tuple",none,.seq ⟨[]⟩ (nat_lit 0),⟨[]⟩⟩
noncomputable def o16 (P : Params) : Obj := ⟨.type "getset_descriptor",none,.fields ⟨[.str s211 (nat_lit 201),.ref (nat_lit 14),.builtin "function.__dict__",.builtin "function.__dict__#set"]⟩,⟨[]⟩⟩
noncomputable def o17 (P : Params) : Obj := ⟨.type "getset_descriptor",none,.fields ⟨[.str s212 (nat_lit 203),.ref (nat_lit 14),.builtin "ExceptionGroup.__weakref__",.none]⟩,⟨[]⟩⟩
noncomputable def o18 (P : Params) : Obj := ⟨.none,none,.seq ⟨[.int (.ofNat (nat_lit 13)) (nat_lit 0),.str s214 (nat_lit 0),.bool true,.bool true,.str s186 (nat_lit 205),.int (.ofNat (nat_lit 21)) (nat_lit 0),.str s215 (nat_lit 0),.bool true,.bool true,.str s186 (nat_lit 242)]⟩ (nat_lit 1),⟨[]⟩⟩
noncomputable def o19 (P : Params) : Obj := ⟨.type "list",none,.seq ⟨[]⟩ (nat_lit 0),⟨[]⟩⟩
noncomputable def o20 (P : Params) : Obj := ⟨.type "dict",none,.dict ⟨[⟨kh P s216,.str s216 (nat_lit 208),.str s161 (nat_lit 207)⟩,⟨kh P s217,.str s217 (nat_lit 209),.ref (nat_lit 14)⟩,⟨kh P s218,.str s218 (nat_lit 210),.str s202 (nat_lit 184)⟩,⟨kh P s219,.str s219 (nat_lit 211),.none⟩,⟨kh P s220,.str s220 (nat_lit 212),.none⟩,⟨kh P s221,.str s221 (nat_lit 213),.ref (nat_lit 19)⟩,⟨kh P s222,.str s222 (nat_lit 214),.bool false⟩,⟨kh P s223,.str s223 (nat_lit 215),.none⟩,⟨kh P s224,.str s224 (nat_lit 243),.bool false⟩]⟩ (nat_lit 9),⟨[]⟩⟩
noncomputable def o21 (P : Params) : Obj := ⟨.type "dict",none,.dict ⟨[⟨kh P s198,.str s198 (nat_lit 227),.str s199 (nat_lit 217)⟩,⟨kh P s200,.str s200 (nat_lit 228),.int (.ofNat (nat_lit 562)) (nat_lit 218)⟩,⟨kh P s2,.str s2 (nat_lit 229),.builtin "_frozen_importlib.ModuleSpec.__doc__:str#opaque"⟩,⟨kh P s225,.str s225 (nat_lit 230),.builtin "_frozen_importlib.ModuleSpec.__init__#opaque"⟩,⟨kh P s226,.str s226 (nat_lit 231),.builtin "_frozen_importlib.ModuleSpec.__repr__#opaque"⟩,⟨kh P s227,.str s227 (nat_lit 232),.builtin "_frozen_importlib.ModuleSpec.__eq__#opaque"⟩,⟨kh P s228,.str s228 (nat_lit 233),.builtin "_frozen_importlib.ModuleSpec.cached#opaque"⟩,⟨kh P s229,.str s229 (nat_lit 234),.builtin "_frozen_importlib.ModuleSpec.parent#opaque"⟩,⟨kh P s230,.str s230 (nat_lit 235),.builtin "_frozen_importlib.ModuleSpec.has_location#opaque"⟩,⟨kh P s210,.str s210 (nat_lit 236),.ref (nat_lit 23)⟩,⟨kh P s211,.str s211 (nat_lit 238),.ref (nat_lit 24)⟩,⟨kh P s212,.str s212 (nat_lit 240),.ref (nat_lit 25)⟩,⟨kh P s231,.str s231 (nat_lit 241),.none⟩]⟩ (nat_lit 13),⟨[]⟩⟩
noncomputable def o22 (P : Params) : Obj := ⟨.type "type",none,.cls ⟨s232,[.type "object"],[.ref (nat_lit 22),.type "object"],nat_lit 21,s232,true,[],[],false,none,false⟩,⟨[]⟩⟩
noncomputable def o23 (P : Params) : Obj := ⟨.type "tuple",none,.seq ⟨[.str s223 (nat_lit 219),.str s222 (nat_lit 220),.str s221 (nat_lit 221),.str s217 (nat_lit 222),.str s219 (nat_lit 223),.str s216 (nat_lit 224),.str s218 (nat_lit 225),.str s220 (nat_lit 226)]⟩ (nat_lit 0),⟨[]⟩⟩
noncomputable def o24 (P : Params) : Obj := ⟨.type "getset_descriptor",none,.fields ⟨[.str s211 (nat_lit 237),.ref (nat_lit 22),.builtin "function.__dict__",.builtin "function.__dict__#set"]⟩,⟨[]⟩⟩
noncomputable def o25 (P : Params) : Obj := ⟨.type "getset_descriptor",none,.fields ⟨[.str s212 (nat_lit 239),.ref (nat_lit 22),.builtin "ExceptionGroup.__weakref__",.none]⟩,⟨[]⟩⟩
noncomputable def o26 (P : Params) : Obj := ⟨.ref (nat_lit 22),some (nat_lit 20),.plain,⟨[]⟩⟩
noncomputable def o27 (P : Params) : Obj := ⟨.none,none,.seq ⟨[.int (.ofNat (nat_lit 11)) (nat_lit 0),.str s233 (nat_lit 0),.bool true,.bool false,.str s161 (nat_lit 271),.int (.ofNat (nat_lit 29)) (nat_lit 0),.str s234 (nat_lit 0),.bool true,.bool false,.str s162 (nat_lit 310)]⟩ (nat_lit 1),⟨[]⟩⟩
noncomputable def o28 (P : Params) : Obj := ⟨.type "tuple",none,.seq ⟨[.str s184 (nat_lit 277)]⟩ (nat_lit 0),⟨[]⟩⟩
noncomputable def o29 (P : Params) : Obj := ⟨.type "dict",none,.dict ⟨[⟨kh P s0,.str s0 (nat_lit 296),.str s162 (nat_lit 295)⟩,⟨kh P s2,.str s2 (nat_lit 297),.builtin "_collections.__doc__:str#opaque"⟩,⟨kh P s3,.str s3 (nat_lit 299),.str s186 (nat_lit 298)⟩,⟨kh P s4,.str s4 (nat_lit 300),.ref (nat_lit 14)⟩,⟨kh P s5,.str s5 (nat_lit 301),.ref (nat_lit 33)⟩,⟨kh P s235,.str s235 (nat_lit 302),.builtin "_collections._count_elements"⟩,⟨kh P s184,.str s184 (nat_lit 303),.type "collections.deque"⟩,⟨kh P s236,.str s236 (nat_lit 304),.type "collections.defaultdict"⟩,⟨kh P s237,.str s237 (nat_lit 305),.type "collections._deque_iterator"⟩,⟨kh P s238,.str s238 (nat_lit 306),.type "collections._deque_reverse_iterator"⟩,⟨kh P s239,.str s239 (nat_lit 307),.type "collections._tuplegetter"⟩,⟨kh P s240,.str s240 (nat_lit 308),.type "collections.OrderedDict"⟩]⟩ (nat_lit 12),⟨[]⟩⟩
noncomputable def o30 (P : Params) : Obj := ⟨.type "module",some (nat_lit 29),.plain,⟨[]⟩⟩
noncomputable def o31 (P : Params) : Obj := ⟨.type "list",none,.seq ⟨[]⟩ (nat_lit 0),⟨[]⟩⟩
noncomputable def o32 (P : Params) : Obj := ⟨.type "dict",none,.dict ⟨[⟨kh P s216,.str s216 (nat_lit 283),.str s162 (nat_lit 282)⟩,⟨kh P s217,.str s217 (nat_lit 284),.ref (nat_lit 14)⟩,⟨kh P s218,.str s218 (nat_lit 285),.str s202 (nat_lit 281)⟩,⟨kh P s219,.str s219 (nat_lit 286),.none⟩,⟨kh P s220,.str s220 (nat_lit 287),.none⟩,⟨kh P s221,.str s221 (nat_lit 288),.ref (nat_lit 31)⟩,⟨kh P s222,.str s222 (nat_lit 289),.bool false⟩,⟨kh P s223,.str s223 (nat_lit 290),.none⟩,⟨kh P s224,.str s224 (nat_lit 291),.bool false⟩]⟩ (nat_lit 9),⟨[]⟩⟩
noncomputable def o33 (P : Params) : Obj := ⟨.ref (nat_lit 22),some (nat_lit 32),.plain,⟨[]⟩⟩
noncomputable def He (P : Params) : Heap := ⟨⟨[o0 P,o1 P,o2 P,o3 P,o4 P,o5 P,o6 P,o7 P,o8 P,o9 P,o10 P,o11 P,o12 P,o13 P,o14 P,o15 P,o16 P,o17 P,o18 P,o19 P,o20 P,o21 P,o22 P,o23 P,o24 P,o25 P,o26 P,o27 P,o28 P,o29 P,o30 P,o31 P,o32 P,o33 P]⟩,{}⟩
noncomputable def o11a (P : Params) : Obj := ⟨.type "dict",none,.dict ⟨[⟨kh P s0,.str s0 (nat_lit 247),.str s161 (nat_lit 246)⟩,⟨kh P s2,.str s2 (nat_lit 248),.none⟩,⟨kh P s3,.str s3 (nat_lit 250),.str s186 (nat_lit 249)⟩,⟨kh P s4,.str s4 (nat_lit 251),.builtin "off-the-table:_sre.__loader__:shared#opaque"⟩,⟨kh P s5,.str s5 (nat_lit 252),.builtin "off-the-table:_sre.__spec__:shared#opaque"⟩,⟨kh P s16,.str s16 (nat_lit 253),.builtin "_sre.compile"⟩,⟨kh P s187,.str s187 (nat_lit 254),.builtin "off-the-table:_sre.template:shared#opaque"⟩,⟨kh P s188,.str s188 (nat_lit 255),.builtin "off-the-table:_sre.getcodesize:shared#opaque"⟩,⟨kh P s189,.str s189 (nat_lit 256),.builtin "off-the-table:_sre.ascii_iscased:shared#opaque"⟩,⟨kh P s190,.str s190 (nat_lit 257),.builtin "off-the-table:_sre.unicode_iscased:shared#opaque"⟩,⟨kh P s191,.str s191 (nat_lit 258),.builtin "off-the-table:_sre.ascii_tolower:shared#opaque"⟩,⟨kh P s192,.str s192 (nat_lit 259),.builtin "off-the-table:_sre.unicode_tolower:shared#opaque"⟩,⟨kh P s193,.str s193 (nat_lit 261),.int (.ofNat (nat_lit 20230612)) (nat_lit 260)⟩,⟨kh P s194,.str s194 (nat_lit 263),.int (.ofNat (nat_lit 4)) (nat_lit 262)⟩,⟨kh P s195,.str s195 (nat_lit 265),.int (.ofNat (nat_lit 4294967295)) (nat_lit 264)⟩,⟨kh P s196,.str s196 (nat_lit 267),.int (.ofNat (nat_lit 1073741823)) (nat_lit 266)⟩,⟨kh P s156,.str s156 (nat_lit 269),.str s197 (nat_lit 268)⟩]⟩ (nat_lit 17),⟨[]⟩⟩
noncomputable def o29a (P : Params) : Obj := ⟨.type "dict",none,.dict ⟨[⟨kh P s0,.str s0 (nat_lit 296),.str s162 (nat_lit 295)⟩,⟨kh P s2,.str s2 (nat_lit 297),.builtin "off-the-table:_collections.__doc__:shared#opaque"⟩,⟨kh P s3,.str s3 (nat_lit 299),.str s186 (nat_lit 298)⟩,⟨kh P s4,.str s4 (nat_lit 300),.builtin "off-the-table:_collections.__loader__:shared#opaque"⟩,⟨kh P s5,.str s5 (nat_lit 301),.builtin "off-the-table:_collections.__spec__:shared#opaque"⟩,⟨kh P s235,.str s235 (nat_lit 302),.builtin "_collections._count_elements"⟩,⟨kh P s184,.str s184 (nat_lit 303),.type "collections.deque"⟩,⟨kh P s236,.str s236 (nat_lit 304),.type "collections.defaultdict"⟩,⟨kh P s237,.str s237 (nat_lit 305),.builtin "off-the-table:_collections._deque_iterator:shared#opaque"⟩,⟨kh P s238,.str s238 (nat_lit 306),.builtin "off-the-table:_collections._deque_reverse_iterator:shared#opaque"⟩,⟨kh P s239,.str s239 (nat_lit 307),.type "collections._tuplegetter"⟩,⟨kh P s240,.str s240 (nat_lit 308),.type "collections.OrderedDict"⟩]⟩ (nat_lit 12),⟨[]⟩⟩
noncomputable def H0 (P : Params) : Heap := ⟨⟨[o0 P,o1 P,o2 P,o3 P,o4 P,o5 P,o6 P,o7 P,o8 P,o9 P,o10 P,o11a P,o12 P,o13 P,o14 P,o15 P,o16 P,o17 P,o18 P,o19 P,o20 P,o21 P,o22 P,o23 P,o24 P,o25 P,o26 P,o27 P,o28 P,o29a P,o30 P,o31 P,o32 P,o33 P]⟩,{}⟩
noncomputable def o34 (P : Params) : Obj := ⟨.type "tuple",none,.seq ⟨[]⟩ (nat_lit 0),⟨[]⟩⟩
noncomputable def o35 (P : Params) : Obj := ⟨.none,none,.fields ⟨[]⟩,⟨[]⟩⟩
noncomputable def o36 (P : Params) : Obj := ⟨.type "code",none,.fields ⟨[.str s185 (nat_lit 319),.str s185 (nat_lit 320),.str s182 (nat_lit 321),.int (.ofNat (nat_lit 1)) (nat_lit 0),.int (.ofNat (nat_lit 0)) (nat_lit 0),.int (.ofNat (nat_lit 0)) (nat_lit 0),.int (.ofNat (nat_lit 0)) (nat_lit 0),.int (.ofNat (nat_lit 0)) (nat_lit 0),.ref (nat_lit 34),.bool false,.int (.ofNat (nat_lit 318)) (nat_lit 0),.ref (nat_lit 35),.none,.none,.none,.none,.int (.ofNat (nat_lit 322)) (nat_lit 0),.int (.ofNat (nat_lit 1)) (nat_lit 0),.str s182 (nat_lit 323)]⟩,⟨[]⟩⟩
noncomputable def o37 (P : Params) : Obj := ⟨.type "frame",none,.plain,⟨[some (.ref (nat_lit 36)),some (.ref (nat_lit 3)),some (.ref (nat_lit 3)),none,some (.str s160 (nat_lit 164)),none,some (.ref (nat_lit 0))]⟩⟩
noncomputable def Ha (P : Params) : Heap := ⟨⟨[o0 P,o1 P,o2 P,o3 P,o4 P,o5 P,o6 P,o7 P,o8 P,o9 P,o10 P,o11a P,o12 P,o13 P,o14 P,o15 P,o16 P,o17 P,o18 P,o19 P,o20 P,o21 P,o22 P,o23 P,o24 P,o25 P,o26 P,o27 P,o28 P,o29a P,o30 P,o31 P,o32 P,o33 P,o34 P,o35 P,o36 P,o37 P]⟩,{}⟩
noncomputable def Tb (P : Params) : BT := (n (o0 P) (n (o1 P) (n (o3 P) (n (o7 P) (n (o15 P) (n (o31 P) e e) e) (n (o23 P) e e)) (n (o11a P) (n (o19 P) (n (o35 P) e e) e) (n (o27 P) e e))) (n (o5 P) (n (o9 P) (n (o17 P) (n (o33 P) e e) e) (n (o25 P) e e)) (n (o13 P) (n (o21 P) (n (o37 P) e e) e) (n (o29a P) e e)))) (n (o2 P) (n (o4 P) (n (o8 P) (n (o16 P) (n (o32 P) e e) e) (n (o24 P) e e)) (n (o12 P) (n (o20 P) (n (o36 P) e e) e) (n (o28 P) e e))) (n (o6 P) (n (o10 P) (n (o18 P) (n (o34 P) e e) e) (n (o26 P) e e)) (n (o14 P) (n (o22 P) e e) (n (o30 P) e e)))))
noncomputable def o2a (P : Params) : Obj := ⟨.none,none,.dict ⟨[⟨kh P s163,.str s163 (nat_lit 183),.bool true⟩,⟨kh P s164,.str s164 (nat_lit 185),.ref (nat_lit 14)⟩,⟨kh P s165,.str s165 (nat_lit 206),.ref (nat_lit 18)⟩,⟨kh P s166,.str s166 (nat_lit 216),.ref (nat_lit 22)⟩,⟨kh P s167,.str s167 (nat_lit 245),.int (.ofNat (nat_lit 4)) (nat_lit 0)⟩,⟨kh P s168,.str s168 (nat_lit 270),.bool true⟩,⟨kh P s169,.str s169 (nat_lit 272),.ref (nat_lit 27)⟩,⟨kh P s170,.str s170 (nat_lit 0),.str s171 (nat_lit 0)⟩,⟨kh P s172,.str s172 (nat_lit 273),.str s173 (nat_lit 0)⟩,⟨kh P s174,.str s174 (nat_lit 280),.bool true⟩,⟨kh P s175,.str s175 (nat_lit 294),.bool true⟩,⟨kh P s176,.str s176 (nat_lit 309),.bool true⟩,⟨kh P s177,.str s177 (nat_lit 311),.str s178 (nat_lit 0)⟩,⟨kh P s241,.str s241 (nat_lit 407),.int (.ofNat (nat_lit 73)) (nat_lit 0)⟩,⟨kh P s242,.str s242 (nat_lit 408),.int (.ofNat (nat_lit 1)) (nat_lit 0)⟩]⟩ (nat_lit 15),⟨[]⟩⟩
noncomputable def o3a (P : Params) : Obj := ⟨.type "dict",none,.dict ⟨[⟨kh P s0,.str s0 (nat_lit 165),.str s243 (nat_lit 1087)⟩,⟨kh P s2,.str s2 (nat_lit 166),.none⟩,⟨kh P s3,.str s3 (nat_lit 167),.none⟩,⟨kh P s4,.str s4 (nat_lit 168),.builtin "__main__.__loader__#opaque"⟩,⟨kh P s5,.str s5 (nat_lit 169),.none⟩,⟨kh P s179,.str s179 (nat_lit 170),.ref (nat_lit 6)⟩,⟨kh P s180,.str s180 (nat_lit 171),.ref (nat_lit 4)⟩,⟨kh P s181,.str s181 (nat_lit 173),.str s182 (nat_lit 172)⟩,⟨kh P s183,.str s183 (nat_lit 174),.none⟩,⟨kh P s161,.str s161 (nat_lit 275),.ref (nat_lit 12)⟩,⟨kh P s184,.str s184 (nat_lit 317),.type "collections.deque"⟩,⟨kh P s244,.str s244 (nat_lit 330),.ref (nat_lit 44)⟩,⟨kh P s245,.str s245 (nat_lit 370),.ref (nat_lit 49)⟩,⟨kh P s246,.str s246 (nat_lit 380),.ref (nat_lit 56)⟩,⟨kh P s247,.str s247 (nat_lit 388),.ref (nat_lit 63)⟩,⟨kh P s248,.str s248 (nat_lit 410),.ref (nat_lit 73)⟩,⟨kh P s249,.str s249 (nat_lit 442),.ref (nat_lit 93)⟩,⟨kh P s250,.str s250 (nat_lit 460),.ref (nat_lit 108)⟩,⟨kh P s251,.str s251 (nat_lit 478),.ref (nat_lit 120)⟩,⟨kh P s252,.str s252 (nat_lit 740),.ref (nat_lit 350)⟩,⟨kh P s253,.str s253 (nat_lit 1027),.ref (nat_lit 597)⟩,⟨kh P s254,.str s254 (nat_lit 1038),.ref (nat_lit 606)⟩,⟨kh P s255,.str s255 (nat_lit 1047),.ref (nat_lit 613)⟩,⟨kh P s256,.str s256 (nat_lit 1057),.ref (nat_lit 620)⟩,⟨kh P s257,.str s257 (nat_lit 1064),.ref (nat_lit 627)⟩,⟨kh P s258,.str s258 (nat_lit 1075),.ref (nat_lit 751)⟩,⟨kh P s259,.str s259 (nat_lit 1076),.ref (nat_lit 634)⟩,⟨kh P s260,.str s260 (nat_lit 1086),.ref (nat_lit 641)⟩,⟨kh P s261,.str s261 (nat_lit 1227),.ref (nat_lit 732)⟩,⟨kh P s262,.str s262 (nat_lit 1237),.ref (nat_lit 744)⟩,⟨kh P s263,.str s263 (nat_lit 1245),.ref (nat_lit 751)⟩,⟨kh P s264,.str s264 (nat_lit 1247),.ref (nat_lit 752)⟩,⟨kh P s265,.str s265 (nat_lit 1254),.ref (nat_lit 759)⟩,⟨kh P s266,.str s266 (nat_lit 1255),.ref (nat_lit 759)⟩,⟨kh P s267,.str s267 (nat_lit 1257),.str s268 (nat_lit 1256)⟩,⟨kh P s269,.str s269 (nat_lit 1259),.str s270 (nat_lit 1258)⟩]⟩ (nat_lit 36),⟨[]⟩⟩
noncomputable def o35a (P : Params) : Obj := ⟨.none,none,.fields ⟨[.int (.ofNat (nat_lit 3)) (nat_lit 0),.int (.ofNat (nat_lit 0)) (nat_lit 0),.ref (nat_lit 43),.int (.ofNat (nat_lit 8)) (nat_lit 0),.int (.ofNat (nat_lit 0)) (nat_lit 0),.ref (nat_lit 55),.int (.ofNat (nat_lit 13)) (nat_lit 0),.int (.ofNat (nat_lit 0)) (nat_lit 0),.ref (nat_lit 62),.int (.ofNat (nat_lit 20)) (nat_lit 0),.int (.ofNat (nat_lit 0)) (nat_lit 0),.ref (nat_lit 69),.int (.ofNat (nat_lit 22)) (nat_lit 0),.int (.ofNat (nat_lit 0)) (nat_lit 0),.ref (nat_lit 82),.int (.ofNat (nat_lit 29)) (nat_lit 0),.int (.ofNat (nat_lit 0)) (nat_lit 0),.ref (nat_lit 104),.int (.ofNat (nat_lit 31)) (nat_lit 0),.int (.ofNat (nat_lit 0)) (nat_lit 0),.ref (nat_lit 116),.int (.ofNat (nat_lit 33)) (nat_lit 0),.int (.ofNat (nat_lit 0)) (nat_lit 0),.ref (nat_lit 128),.int (.ofNat (nat_lit 203)) (nat_lit 0),.int (.ofNat (nat_lit 0)) (nat_lit 0),.ref (nat_lit 358),.int (.ofNat (nat_lit 409)) (nat_lit 0),.int (.ofNat (nat_lit 0)) (nat_lit 0),.ref (nat_lit 605),.int (.ofNat (nat_lit 430)) (nat_lit 0),.int (.ofNat (nat_lit 0)) (nat_lit 0),.ref (nat_lit 612),.int (.ofNat (nat_lit 435)) (nat_lit 0),.int (.ofNat (nat_lit 0)) (nat_lit 0),.ref (nat_lit 619),.int (.ofNat (nat_lit 440)) (nat_lit 0),.int (.ofNat (nat_lit 0)) (nat_lit 0),.ref (nat_lit 626),.int (.ofNat (nat_lit 443)) (nat_lit 0),.int (.ofNat (nat_lit 0)) (nat_lit 0),.ref (nat_lit 633),.int (.ofNat (nat_lit 464)) (nat_lit 0),.int (.ofNat (nat_lit 0)) (nat_lit 0),.ref (nat_lit 640),.int (.ofNat (nat_lit 473)) (nat_lit 0),.int (.ofNat (nat_lit 0)) (nat_lit 0),.ref (nat_lit 647),.int (.ofNat (nat_lit 725)) (nat_lit 0),.int (.ofNat (nat_lit 0)) (nat_lit 0),.ref (nat_lit 743),.int (.ofNat (nat_lit 733)) (nat_lit 0),.int (.ofNat (nat_lit 0)) (nat_lit 0),.ref (nat_lit 750),.int (.ofNat (nat_lit 737)) (nat_lit 0),.int (.ofNat (nat_lit 0)) (nat_lit 0),.ref (nat_lit 758)]⟩,⟨[]⟩⟩
noncomputable def o38 (P : Params) : Obj := ⟨.type "tuple",none,.seq ⟨[]⟩ (nat_lit 0),⟨[]⟩⟩
noncomputable def o39 (P : Params) : Obj := ⟨.none,none,.fields ⟨[]⟩,⟨[]⟩⟩
noncomputable def o40 (P : Params) : Obj := ⟨.type "tuple",none,.seq ⟨[.str s271 (nat_lit 327)]⟩ (nat_lit 0),⟨[]⟩⟩
noncomputable def o41 (P : Params) : Obj := ⟨.type "tuple",none,.seq ⟨[]⟩ (nat_lit 0),⟨[]⟩⟩
noncomputable def o42 (P : Params) : Obj := ⟨.none,none,.func (fd (st 2) s244 s244 (nat_lit 0) [] .none .none .none .none none .none .none (nat_lit 0)),⟨[]⟩⟩
noncomputable def o43 (P : Params) : Obj := ⟨.type "code",none,.fields ⟨[.str s244 (nat_lit 324),.str s244 (nat_lit 325),.str s182 (nat_lit 326),.int (.ofNat (nat_lit 3)) (nat_lit 0),.int (.ofNat (nat_lit 1)) (nat_lit 0),.int (.ofNat (nat_lit 0)) (nat_lit 0),.int (.ofNat (nat_lit 0)) (nat_lit 0),.int (.ofNat (nat_lit 3)) (nat_lit 0),.ref (nat_lit 38),.bool true,.int (.ofNat (nat_lit 318)) (nat_lit 0),.ref (nat_lit 39),.none,.ref (nat_lit 40),.ref (nat_lit 41),.ref (nat_lit 42),.int (.ofNat (nat_lit 328)) (nat_lit 0),.int (.ofNat (nat_lit 3)) (nat_lit 0),.str s182 (nat_lit 329)]⟩,⟨[]⟩⟩
noncomputable def o44 (P : Params) : Obj := ⟨.type "function",none,.func (fd (st 2) s244 s244 (nat_lit 3) [] .none .none .none (.str s160 (nat_lit 164)) none (.ref (nat_lit 43)) .none (nat_lit 0)),⟨[]⟩⟩
noncomputable def o45 (P : Params) : Obj := ⟨.type "list",none,.seq ⟨[.int (.ofNat (nat_lit 14)) (nat_lit 334),.int (.ofNat (nat_lit 17)) (nat_lit 335),.int (.ofNat (nat_lit 4)) (nat_lit 336),.int (.ofNat (nat_lit 1)) (nat_lit 337),.int (.ofNat (nat_lit 1)) (nat_lit 338),.int (.ofNat (nat_lit 21)) (nat_lit 339),.int (.ofNat (nat_lit 9)) (nat_lit 340),.int (.ofNat (nat_lit 0)) (nat_lit 341),.int (.ofNat (nat_lit 604043296)) (nat_lit 342),.int (.ofNat (nat_lit 1)) (nat_lit 343),.int (.ofNat (nat_lit 0)) (nat_lit 344),.int (.ofNat (nat_lit 0)) (nat_lit 345),.int (.ofNat (nat_lit 0)) (nat_lit 346),.int (.ofNat (nat_lit 0)) (nat_lit 347),.int (.ofNat (nat_lit 0)) (nat_lit 348),.int (.ofNat (nat_lit 8)) (nat_lit 349),.int (.ofNat (nat_lit 4)) (nat_lit 350),.int (.ofNat (nat_lit 0)) (nat_lit 351),.int (.ofNat (nat_lit 13)) (nat_lit 352),.int (.ofNat (nat_lit 14)) (nat_lit 353),.int (.ofNat (nat_lit 21)) (nat_lit 354),.int (.ofNat (nat_lit 9)) (nat_lit 355),.int (.ofNat (nat_lit 0)) (nat_lit 356),.int (.ofNat (nat_lit 604043296)) (nat_lit 357),.int (.ofNat (nat_lit 1)) (nat_lit 358),.int (.ofNat (nat_lit 0)) (nat_lit 359),.int (.ofNat (nat_lit 0)) (nat_lit 360),.int (.ofNat (nat_lit 0)) (nat_lit 361),.int (.ofNat (nat_lit 0)) (nat_lit 362),.int (.ofNat (nat_lit 0)) (nat_lit 363),.int (.ofNat (nat_lit 8)) (nat_lit 364),.int (.ofNat (nat_lit 4)) (nat_lit 365),.int (.ofNat (nat_lit 0)) (nat_lit 366),.int (.ofNat (nat_lit 1)) (nat_lit 367)]⟩ (nat_lit 0),⟨[]⟩⟩
noncomputable def o46 (P : Params) : Obj := ⟨.type "dict",none,.dict ⟨[]⟩ (nat_lit 0),⟨[]⟩⟩
noncomputable def o47 (P : Params) : Obj := ⟨.type "tuple",none,.seq ⟨[.none]⟩ (nat_lit 0),⟨[]⟩⟩
noncomputable def o48 (P : Params) : Obj := ⟨.type "tuple",none,.seq ⟨[.int (.ofNat (nat_lit 14)) (nat_lit 0),.int (.ofNat (nat_lit 17)) (nat_lit 0),.int (.ofNat (nat_lit 4)) (nat_lit 0),.int (.ofNat (nat_lit 1)) (nat_lit 0),.int (.ofNat (nat_lit 1)) (nat_lit 0),.int (.ofNat (nat_lit 21)) (nat_lit 0),.int (.ofNat (nat_lit 9)) (nat_lit 0),.int (.ofNat (nat_lit 0)) (nat_lit 0),.int (.ofNat (nat_lit 604043296)) (nat_lit 0),.int (.ofNat (nat_lit 1)) (nat_lit 0),.int (.ofNat (nat_lit 0)) (nat_lit 0),.int (.ofNat (nat_lit 0)) (nat_lit 0),.int (.ofNat (nat_lit 0)) (nat_lit 0),.int (.ofNat (nat_lit 0)) (nat_lit 0),.int (.ofNat (nat_lit 0)) (nat_lit 0),.int (.ofNat (nat_lit 8)) (nat_lit 0),.int (.ofNat (nat_lit 4)) (nat_lit 0),.int (.ofNat (nat_lit 0)) (nat_lit 0),.int (.ofNat (nat_lit 13)) (nat_lit 0),.int (.ofNat (nat_lit 14)) (nat_lit 0),.int (.ofNat (nat_lit 21)) (nat_lit 0),.int (.ofNat (nat_lit 9)) (nat_lit 0),.int (.ofNat (nat_lit 0)) (nat_lit 0),.int (.ofNat (nat_lit 604043296)) (nat_lit 0),.int (.ofNat (nat_lit 1)) (nat_lit 0),.int (.ofNat (nat_lit 0)) (nat_lit 0),.int (.ofNat (nat_lit 0)) (nat_lit 0),.int (.ofNat (nat_lit 0)) (nat_lit 0),.int (.ofNat (nat_lit 0)) (nat_lit 0),.int (.ofNat (nat_lit 0)) (nat_lit 0),.int (.ofNat (nat_lit 8)) (nat_lit 0),.int (.ofNat (nat_lit 4)) (nat_lit 0),.int (.ofNat (nat_lit 0)) (nat_lit 0),.int (.ofNat (nat_lit 1)) (nat_lit 0)]⟩ (nat_lit 0),⟨[]⟩⟩
noncomputable def o49 (P : Params) : Obj := ⟨.type "re.Pattern",none,.fields ⟨[.str s272 (nat_lit 332),.int (.ofNat (nat_lit 256)) (nat_lit 369),.int (.ofNat (nat_lit 0)) (nat_lit 0),.none,.none,.ref (nat_lit 48),.int (.ofNat (nat_lit 0)) (nat_lit 0)]⟩,⟨[]⟩⟩
noncomputable def o50 (P : Params) : Obj := ⟨.type "tuple",none,.seq ⟨[]⟩ (nat_lit 0),⟨[]⟩⟩
noncomputable def o51 (P : Params) : Obj := ⟨.none,none,.fields ⟨[]⟩,⟨[]⟩⟩
noncomputable def o52 (P : Params) : Obj := ⟨.type "tuple",none,.seq ⟨[.str s273 (nat_lit 376),.str s274 (nat_lit 377)]⟩ (nat_lit 0),⟨[]⟩⟩
noncomputable def o53 (P : Params) : Obj := ⟨.type "tuple",none,.seq ⟨[]⟩ (nat_lit 0),⟨[]⟩⟩
noncomputable def o54 (P : Params) : Obj := ⟨.none,none,.func (fd (st 5) s246 s246 (nat_lit 0) [] .none .none .none .none none .none .none (nat_lit 0)),⟨[]⟩⟩
noncomputable def o55 (P : Params) : Obj := ⟨.type "code",none,.fields ⟨[.str s246 (nat_lit 373),.str s246 (nat_lit 374),.str s182 (nat_lit 375),.int (.ofNat (nat_lit 8)) (nat_lit 0),.int (.ofNat (nat_lit 2)) (nat_lit 0),.int (.ofNat (nat_lit 0)) (nat_lit 0),.int (.ofNat (nat_lit 0)) (nat_lit 0),.int (.ofNat (nat_lit 3)) (nat_lit 0),.ref (nat_lit 50),.bool true,.int (.ofNat (nat_lit 318)) (nat_lit 0),.ref (nat_lit 51),.none,.ref (nat_lit 52),.ref (nat_lit 53),.ref (nat_lit 54),.int (.ofNat (nat_lit 378)) (nat_lit 0),.int (.ofNat (nat_lit 8)) (nat_lit 0),.str s182 (nat_lit 379)]⟩,⟨[]⟩⟩
noncomputable def o56 (P : Params) : Obj := ⟨.type "function",none,.func (fd (st 5) s246 s246 (nat_lit 3) [] .none .none .none (.str s275 (nat_lit 371)) none (.ref (nat_lit 55)) .none (nat_lit 0)),⟨[]⟩⟩
noncomputable def o57 (P : Params) : Obj := ⟨.type "tuple",none,.seq ⟨[]⟩ (nat_lit 0),⟨[]⟩⟩
noncomputable def o58 (P : Params) : Obj := ⟨.none,none,.fields ⟨[]⟩,⟨[]⟩⟩
noncomputable def o59 (P : Params) : Obj := ⟨.type "tuple",none,.seq ⟨[.str s273 (nat_lit 384),.str s274 (nat_lit 385)]⟩ (nat_lit 0),⟨[]⟩⟩
noncomputable def o60 (P : Params) : Obj := ⟨.type "tuple",none,.seq ⟨[]⟩ (nat_lit 0),⟨[]⟩⟩
noncomputable def o61 (P : Params) : Obj := ⟨.none,none,.func (fd (st 6) s247 s247 (nat_lit 0) [] .none .none .none .none none .none .none (nat_lit 0)),⟨[]⟩⟩
noncomputable def o62 (P : Params) : Obj := ⟨.type "code",none,.fields ⟨[.str s247 (nat_lit 381),.str s247 (nat_lit 382),.str s182 (nat_lit 383),.int (.ofNat (nat_lit 13)) (nat_lit 0),.int (.ofNat (nat_lit 2)) (nat_lit 0),.int (.ofNat (nat_lit 0)) (nat_lit 0),.int (.ofNat (nat_lit 0)) (nat_lit 0),.int (.ofNat (nat_lit 3)) (nat_lit 0),.ref (nat_lit 57),.bool true,.int (.ofNat (nat_lit 318)) (nat_lit 0),.ref (nat_lit 58),.none,.ref (nat_lit 59),.ref (nat_lit 60),.ref (nat_lit 61),.int (.ofNat (nat_lit 386)) (nat_lit 0),.int (.ofNat (nat_lit 13)) (nat_lit 0),.str s182 (nat_lit 387)]⟩,⟨[]⟩⟩
noncomputable def o63 (P : Params) : Obj := ⟨.type "function",none,.func (fd (st 6) s247 s247 (nat_lit 3) [] .none .none .none (.str s275 (nat_lit 371)) none (.ref (nat_lit 62)) .none (nat_lit 0)),⟨[]⟩⟩
noncomputable def o64 (P : Params) : Obj := ⟨.type "tuple",none,.seq ⟨[.type "OSError",.type "ValueError"]⟩ (nat_lit 0),⟨[]⟩⟩
noncomputable def o65 (P : Params) : Obj := ⟨.type "builtin_function_or_method",none,.fields ⟨[.builtin "type.__prepare__",.type "type"]⟩,⟨[]⟩⟩
noncomputable def o66 (P : Params) : Obj := ⟨.type "dict",none,.dict ⟨[⟨kh P s198,.str s198 (nat_lit 396),.str s275 (nat_lit 401)⟩,⟨kh P s276,.str s276 (nat_lit 398),.str s248 (nat_lit 397)⟩,⟨kh P s200,.str s200 (nat_lit 400),.int (.ofNat (nat_lit 20)) (nat_lit 399)⟩,⟨kh P s210,.str s210 (nat_lit 403),.ref (nat_lit 71)⟩]⟩ (nat_lit 4),⟨[]⟩⟩
noncomputable def o67 (P : Params) : Obj := ⟨.type "tuple",none,.seq ⟨[]⟩ (nat_lit 0),⟨[]⟩⟩
noncomputable def o68 (P : Params) : Obj := ⟨.none,none,.fields ⟨[]⟩,⟨[]⟩⟩
noncomputable def o69 (P : Params) : Obj := ⟨.type "code",none,.fields ⟨[.str s248 (nat_lit 391),.str s248 (nat_lit 392),.str s182 (nat_lit 393),.int (.ofNat (nat_lit 20)) (nat_lit 0),.int (.ofNat (nat_lit 0)) (nat_lit 0),.int (.ofNat (nat_lit 0)) (nat_lit 0),.int (.ofNat (nat_lit 0)) (nat_lit 0),.int (.ofNat (nat_lit 0)) (nat_lit 0),.ref (nat_lit 67),.bool false,.int (.ofNat (nat_lit 318)) (nat_lit 0),.ref (nat_lit 68),.none,.none,.none,.none,.int (.ofNat (nat_lit 394)) (nat_lit 0),.int (.ofNat (nat_lit 20)) (nat_lit 0),.str s182 (nat_lit 395)]⟩,⟨[]⟩⟩
noncomputable def o70 (P : Params) : Obj := ⟨.type "frame",none,.plain,⟨[some (.ref (nat_lit 69)),some (.ref (nat_lit 3)),some (.ref (nat_lit 66)),none,some (.str s275 (nat_lit 371)),none,some (.ref (nat_lit 0))]⟩⟩
noncomputable def o71 (P : Params) : Obj := ⟨.type "tuple",none,.seq ⟨[]⟩ (nat_lit 0),⟨[]⟩⟩
noncomputable def o72 (P : Params) : Obj := ⟨.type "dict",none,.dict ⟨[⟨kh P s198,.str s198 (nat_lit 396),.str s275 (nat_lit 401)⟩,⟨kh P s200,.str s200 (nat_lit 400),.int (.ofNat (nat_lit 20)) (nat_lit 399)⟩,⟨kh P s210,.str s210 (nat_lit 403),.ref (nat_lit 71)⟩,⟨kh P s212,.str s212 (nat_lit 405),.ref (nat_lit 74)⟩,⟨kh P s2,.str s2 (nat_lit 406),.none⟩]⟩ (nat_lit 3),⟨[]⟩⟩
noncomputable def o73 (P : Params) : Obj := ⟨.type "type",none,.cls ⟨s248,[.type "OSError",.type "ValueError"],[.ref (nat_lit 73),.type "OSError",.type "ValueError",.type "Exception",.type "BaseException",.type "object"],nat_lit 72,s248,true,[],[],false,none,false⟩,⟨[some (.ref (nat_lit 64)),none,some (.str s248 (nat_lit 389)),some (.str s248 (nat_lit 397)),some (.builtin "OSError.__new__"),some (.bool true)]⟩⟩
noncomputable def o74 (P : Params) : Obj := ⟨.type "getset_descriptor",none,.fields ⟨[.str s212 (nat_lit 404),.ref (nat_lit 73),.builtin "ExceptionGroup.__weakref__",.none]⟩,⟨[]⟩⟩
noncomputable def o75 (P : Params) : Obj := ⟨.type "super",none,.fields ⟨[.ref (nat_lit 73),.ref (nat_lit 73),.ref (nat_lit 73)]⟩,⟨[]⟩⟩
noncomputable def o76 (P : Params) : Obj := ⟨.type "builtin_function_or_method",none,.fields ⟨[.builtin "object.__init_subclass__",.ref (nat_lit 73)]⟩,⟨[]⟩⟩
noncomputable def o77 (P : Params) : Obj := ⟨.type "tuple",none,.seq ⟨[]⟩ (nat_lit 0),⟨[]⟩⟩
noncomputable def o78 (P : Params) : Obj := ⟨.type "builtin_function_or_method",none,.fields ⟨[.builtin "type.__prepare__",.type "type"]⟩,⟨[]⟩⟩
noncomputable def o79 (P : Params) : Obj := ⟨.type "dict",none,.dict ⟨[⟨kh P s198,.str s198 (nat_lit 418),.str s275 (nat_lit 423)⟩,⟨kh P s276,.str s276 (nat_lit 420),.str s249 (nat_lit 419)⟩,⟨kh P s200,.str s200 (nat_lit 422),.int (.ofNat (nat_lit 22)) (nat_lit 421)⟩,⟨kh P s277,.str s277 (nat_lit 433),.ref (nat_lit 90)⟩,⟨kh P s210,.str s210 (nat_lit 434),.ref (nat_lit 91)⟩]⟩ (nat_lit 5),⟨[]⟩⟩
noncomputable def o80 (P : Params) : Obj := ⟨.type "tuple",none,.seq ⟨[]⟩ (nat_lit 0),⟨[]⟩⟩
noncomputable def o81 (P : Params) : Obj := ⟨.none,none,.fields ⟨[.int (.ofNat (nat_lit 25)) (nat_lit 0),.int (.ofNat (nat_lit 4)) (nat_lit 0),.ref (nat_lit 89)]⟩,⟨[]⟩⟩
noncomputable def o82 (P : Params) : Obj := ⟨.type "code",none,.fields ⟨[.str s249 (nat_lit 413),.str s249 (nat_lit 414),.str s182 (nat_lit 415),.int (.ofNat (nat_lit 22)) (nat_lit 0),.int (.ofNat (nat_lit 0)) (nat_lit 0),.int (.ofNat (nat_lit 0)) (nat_lit 0),.int (.ofNat (nat_lit 0)) (nat_lit 0),.int (.ofNat (nat_lit 0)) (nat_lit 0),.ref (nat_lit 80),.bool false,.int (.ofNat (nat_lit 318)) (nat_lit 0),.ref (nat_lit 81),.none,.none,.none,.none,.int (.ofNat (nat_lit 416)) (nat_lit 0),.int (.ofNat (nat_lit 22)) (nat_lit 0),.str s182 (nat_lit 417)]⟩,⟨[]⟩⟩
noncomputable def o83 (P : Params) : Obj := ⟨.type "frame",none,.plain,⟨[some (.ref (nat_lit 82)),some (.ref (nat_lit 3)),some (.ref (nat_lit 79)),none,some (.str s275 (nat_lit 371)),none,some (.ref (nat_lit 0))]⟩⟩
noncomputable def o84 (P : Params) : Obj := ⟨.type "tuple",none,.seq ⟨[]⟩ (nat_lit 0),⟨[]⟩⟩
noncomputable def o85 (P : Params) : Obj := ⟨.none,none,.fields ⟨[]⟩,⟨[]⟩⟩
noncomputable def o86 (P : Params) : Obj := ⟨.type "tuple",none,.seq ⟨[.str s278 (nat_lit 428),.str s279 (nat_lit 429),.str s280 (nat_lit 430)]⟩ (nat_lit 0),⟨[]⟩⟩
noncomputable def o87 (P : Params) : Obj := ⟨.type "tuple",none,.seq ⟨[]⟩ (nat_lit 0),⟨[]⟩⟩
noncomputable def o88 (P : Params) : Obj := ⟨.none,none,.func (fd (sub (st 8) 1) s277 s281 (nat_lit 0) [] .none .none .none .none none .none .none (nat_lit 0)),⟨[]⟩⟩
noncomputable def o89 (P : Params) : Obj := ⟨.type "code",none,.fields ⟨[.str s277 (nat_lit 425),.str s281 (nat_lit 426),.str s182 (nat_lit 427),.int (.ofNat (nat_lit 25)) (nat_lit 0),.int (.ofNat (nat_lit 1)) (nat_lit 0),.int (.ofNat (nat_lit 1)) (nat_lit 0),.int (.ofNat (nat_lit 0)) (nat_lit 0),.int (.ofNat (nat_lit 15)) (nat_lit 0),.ref (nat_lit 84),.bool true,.int (.ofNat (nat_lit 318)) (nat_lit 0),.ref (nat_lit 85),.none,.ref (nat_lit 86),.ref (nat_lit 87),.ref (nat_lit 88),.int (.ofNat (nat_lit 431)) (nat_lit 0),.int (.ofNat (nat_lit 25)) (nat_lit 0),.str s182 (nat_lit 432)]⟩,⟨[]⟩⟩
noncomputable def o90 (P : Params) : Obj := ⟨.type "function",none,.func (fd (sub (st 8) 1) s277 s281 (nat_lit 3) [] .none .none .none (.str s275 (nat_lit 371)) none (.ref (nat_lit 89)) .none (nat_lit 0)),⟨[]⟩⟩
noncomputable def o91 (P : Params) : Obj := ⟨.type "tuple",none,.seq ⟨[]⟩ (nat_lit 0),⟨[]⟩⟩
noncomputable def o92 (P : Params) : Obj := ⟨.type "dict",none,.dict ⟨[⟨kh P s198,.str s198 (nat_lit 418),.str s275 (nat_lit 423)⟩,⟨kh P s200,.str s200 (nat_lit 422),.int (.ofNat (nat_lit 22)) (nat_lit 421)⟩,⟨kh P s277,.str s277 (nat_lit 433),.ref (nat_lit 94)⟩,⟨kh P s210,.str s210 (nat_lit 434),.ref (nat_lit 91)⟩,⟨kh P s211,.str s211 (nat_lit 437),.ref (nat_lit 95)⟩,⟨kh P s212,.str s212 (nat_lit 439),.ref (nat_lit 96)⟩,⟨kh P s2,.str s2 (nat_lit 440),.none⟩]⟩ (nat_lit 4),⟨[]⟩⟩
noncomputable def o93 (P : Params) : Obj := ⟨.type "type",none,.cls ⟨s249,[.type "object"],[.ref (nat_lit 93),.type "object"],nat_lit 92,s249,true,[],[.ref (nat_lit 108),.ref (nat_lit 120)],false,none,false⟩,⟨[none,none,some (.str s249 (nat_lit 411)),some (.str s249 (nat_lit 419)),some .none,some (.bool true)]⟩⟩
noncomputable def o94 (P : Params) : Obj := ⟨.type "staticmethod",none,.fields ⟨[.ref (nat_lit 90)]⟩,⟨[]⟩⟩
noncomputable def o95 (P : Params) : Obj := ⟨.type "getset_descriptor",none,.fields ⟨[.str s211 (nat_lit 436),.ref (nat_lit 93),.builtin "function.__dict__",.builtin "function.__dict__#set"]⟩,⟨[]⟩⟩
noncomputable def o96 (P : Params) : Obj := ⟨.type "getset_descriptor",none,.fields ⟨[.str s212 (nat_lit 438),.ref (nat_lit 93),.builtin "ExceptionGroup.__weakref__",.none]⟩,⟨[]⟩⟩
noncomputable def o97 (P : Params) : Obj := ⟨.type "super",none,.fields ⟨[.ref (nat_lit 93),.ref (nat_lit 93),.ref (nat_lit 93)]⟩,⟨[]⟩⟩
noncomputable def o98 (P : Params) : Obj := ⟨.type "builtin_function_or_method",none,.fields ⟨[.builtin "object.__init_subclass__",.ref (nat_lit 93)]⟩,⟨[]⟩⟩
noncomputable def o99 (P : Params) : Obj := ⟨.type "tuple",none,.seq ⟨[.ref (nat_lit 93)]⟩ (nat_lit 0),⟨[]⟩⟩
noncomputable def o100 (P : Params) : Obj := ⟨.type "builtin_function_or_method",none,.fields ⟨[.builtin "type.__prepare__",.type "type"]⟩,⟨[]⟩⟩
noncomputable def o101 (P : Params) : Obj := ⟨.type "dict",none,.dict ⟨[⟨kh P s198,.str s198 (nat_lit 450),.str s275 (nat_lit 455)⟩,⟨kh P s276,.str s276 (nat_lit 452),.str s250 (nat_lit 451)⟩,⟨kh P s200,.str s200 (nat_lit 454),.int (.ofNat (nat_lit 29)) (nat_lit 453)⟩,⟨kh P s210,.str s210 (nat_lit 457),.ref (nat_lit 106)⟩]⟩ (nat_lit 4),⟨[]⟩⟩
noncomputable def o102 (P : Params) : Obj := ⟨.type "tuple",none,.seq ⟨[]⟩ (nat_lit 0),⟨[]⟩⟩
noncomputable def o103 (P : Params) : Obj := ⟨.none,none,.fields ⟨[]⟩,⟨[]⟩⟩
noncomputable def o104 (P : Params) : Obj := ⟨.type "code",none,.fields ⟨[.str s250 (nat_lit 445),.str s250 (nat_lit 446),.str s182 (nat_lit 447),.int (.ofNat (nat_lit 29)) (nat_lit 0),.int (.ofNat (nat_lit 0)) (nat_lit 0),.int (.ofNat (nat_lit 0)) (nat_lit 0),.int (.ofNat (nat_lit 0)) (nat_lit 0),.int (.ofNat (nat_lit 0)) (nat_lit 0),.ref (nat_lit 102),.bool false,.int (.ofNat (nat_lit 318)) (nat_lit 0),.ref (nat_lit 103),.none,.none,.none,.none,.int (.ofNat (nat_lit 448)) (nat_lit 0),.int (.ofNat (nat_lit 29)) (nat_lit 0),.str s182 (nat_lit 449)]⟩,⟨[]⟩⟩
noncomputable def o105 (P : Params) : Obj := ⟨.type "frame",none,.plain,⟨[some (.ref (nat_lit 104)),some (.ref (nat_lit 3)),some (.ref (nat_lit 101)),none,some (.str s275 (nat_lit 371)),none,some (.ref (nat_lit 0))]⟩⟩
noncomputable def o106 (P : Params) : Obj := ⟨.type "tuple",none,.seq ⟨[]⟩ (nat_lit 0),⟨[]⟩⟩
noncomputable def o107 (P : Params) : Obj := ⟨.type "dict",none,.dict ⟨[⟨kh P s198,.str s198 (nat_lit 450),.str s275 (nat_lit 455)⟩,⟨kh P s200,.str s200 (nat_lit 454),.int (.ofNat (nat_lit 29)) (nat_lit 453)⟩,⟨kh P s210,.str s210 (nat_lit 457),.ref (nat_lit 106)⟩,⟨kh P s2,.str s2 (nat_lit 458),.none⟩]⟩ (nat_lit 2),⟨[]⟩⟩
noncomputable def o108 (P : Params) : Obj := ⟨.type "type",none,.cls ⟨s250,[.ref (nat_lit 93)],[.ref (nat_lit 108),.ref (nat_lit 93),.type "object"],nat_lit 107,s250,true,[],[.ref (nat_lit 350)],false,none,false⟩,⟨[some (.ref (nat_lit 99)),none,some (.str s250 (nat_lit 443)),some (.str s250 (nat_lit 451)),some .none,some (.bool true)]⟩⟩
noncomputable def o109 (P : Params) : Obj := ⟨.type "super",none,.fields ⟨[.ref (nat_lit 108),.ref (nat_lit 108),.ref (nat_lit 108)]⟩,⟨[]⟩⟩
noncomputable def o110 (P : Params) : Obj := ⟨.type "builtin_function_or_method",none,.fields ⟨[.builtin "object.__init_subclass__",.ref (nat_lit 108)]⟩,⟨[]⟩⟩
noncomputable def o111 (P : Params) : Obj := ⟨.type "tuple",none,.seq ⟨[.ref (nat_lit 93)]⟩ (nat_lit 0),⟨[]⟩⟩
noncomputable def o112 (P : Params) : Obj := ⟨.type "builtin_function_or_method",none,.fields ⟨[.builtin "type.__prepare__",.type "type"]⟩,⟨[]⟩⟩
noncomputable def o113 (P : Params) : Obj := ⟨.type "dict",none,.dict ⟨[⟨kh P s198,.str s198 (nat_lit 468),.str s275 (nat_lit 473)⟩,⟨kh P s276,.str s276 (nat_lit 470),.str s251 (nat_lit 469)⟩,⟨kh P s200,.str s200 (nat_lit 472),.int (.ofNat (nat_lit 31)) (nat_lit 471)⟩,⟨kh P s210,.str s210 (nat_lit 475),.ref (nat_lit 118)⟩]⟩ (nat_lit 4),⟨[]⟩⟩
noncomputable def o114 (P : Params) : Obj := ⟨.type "tuple",none,.seq ⟨[]⟩ (nat_lit 0),⟨[]⟩⟩
noncomputable def o115 (P : Params) : Obj := ⟨.none,none,.fields ⟨[]⟩,⟨[]⟩⟩
noncomputable def o116 (P : Params) : Obj := ⟨.type "code",none,.fields ⟨[.str s251 (nat_lit 463),.str s251 (nat_lit 464),.str s182 (nat_lit 465),.int (.ofNat (nat_lit 31)) (nat_lit 0),.int (.ofNat (nat_lit 0)) (nat_lit 0),.int (.ofNat (nat_lit 0)) (nat_lit 0),.int (.ofNat (nat_lit 0)) (nat_lit 0),.int (.ofNat (nat_lit 0)) (nat_lit 0),.ref (nat_lit 114),.bool false,.int (.ofNat (nat_lit 318)) (nat_lit 0),.ref (nat_lit 115),.none,.none,.none,.none,.int (.ofNat (nat_lit 466)) (nat_lit 0),.int (.ofNat (nat_lit 31)) (nat_lit 0),.str s182 (nat_lit 467)]⟩,⟨[]⟩⟩
noncomputable def o117 (P : Params) : Obj := ⟨.type "frame",none,.plain,⟨[some (.ref (nat_lit 116)),some (.ref (nat_lit 3)),some (.ref (nat_lit 113)),none,some (.str s275 (nat_lit 371)),none,some (.ref (nat_lit 0))]⟩⟩
noncomputable def o118 (P : Params) : Obj := ⟨.type "tuple",none,.seq ⟨[]⟩ (nat_lit 0),⟨[]⟩⟩
noncomputable def o119 (P : Params) : Obj := ⟨.type "dict",none,.dict ⟨[⟨kh P s198,.str s198 (nat_lit 468),.str s275 (nat_lit 473)⟩,⟨kh P s200,.str s200 (nat_lit 472),.int (.ofNat (nat_lit 31)) (nat_lit 471)⟩,⟨kh P s210,.str s210 (nat_lit 475),.ref (nat_lit 118)⟩,⟨kh P s2,.str s2 (nat_lit 476),.none⟩]⟩ (nat_lit 2),⟨[]⟩⟩
noncomputable def o120 (P : Params) : Obj := ⟨.type "type",none,.cls ⟨s251,[.ref (nat_lit 93)],[.ref (nat_lit 120),.ref (nat_lit 93),.type "object"],nat_lit 119,s251,true,[],[.ref (nat_lit 597)],false,none,false⟩,⟨[some (.ref (nat_lit 111)),none,some (.str s251 (nat_lit 461)),some (.str s251 (nat_lit 469)),some .none,some (.bool true)]⟩⟩
noncomputable def o121 (P : Params) : Obj := ⟨.type "super",none,.fields ⟨[.ref (nat_lit 120),.ref (nat_lit 120),.ref (nat_lit 120)]⟩,⟨[]⟩⟩
noncomputable def o122 (P : Params) : Obj := ⟨.type "builtin_function_or_method",none,.fields ⟨[.builtin "object.__init_subclass__",.ref (nat_lit 120)]⟩,⟨[]⟩⟩
noncomputable def o123 (P : Params) : Obj := ⟨.type "tuple",none,.seq ⟨[.ref (nat_lit 108)]⟩ (nat_lit 0),⟨[]⟩⟩
noncomputable def o124 (P : Params) : Obj := ⟨.type "builtin_function_or_method",none,.fields ⟨[.builtin "type.__prepare__",.type "type"]⟩,⟨[]⟩⟩
noncomputable def o125 (P : Params) : Obj := ⟨.type "dict",none,.dict ⟨[⟨kh P s198,.str s198 (nat_lit 486),.str s282 (nat_lit 491)⟩,⟨kh P s276,.str s276 (nat_lit 488),.str s252 (nat_lit 487)⟩,⟨kh P s200,.str s200 (nat_lit 490),.int (.ofNat (nat_lit 33)) (nat_lit 489)⟩,⟨kh P s225,.str s225 (nat_lit 500),.ref (nat_lit 137)⟩,⟨kh P s283,.str s283 (nat_lit 507),.ref (nat_lit 144)⟩,⟨kh P s284,.str s284 (nat_lit 518),.ref (nat_lit 151)⟩,⟨kh P s285,.str s285 (nat_lit 526),.ref (nat_lit 159)⟩,⟨kh P s286,.str s286 (nat_lit 533),.ref (nat_lit 166)⟩,⟨kh P s287,.str s287 (nat_lit 540),.ref (nat_lit 173)⟩,⟨kh P s288,.str s288 (nat_lit 548),.ref (nat_lit 180)⟩,⟨kh P s289,.str s289 (nat_lit 555),.ref (nat_lit 187)⟩,⟨kh P s290,.str s290 (nat_lit 562),.ref (nat_lit 194)⟩,⟨kh P s291,.str s291 (nat_lit 569),.ref (nat_lit 201)⟩,⟨kh P s292,.str s292 (nat_lit 576),.ref (nat_lit 208)⟩,⟨kh P s293,.str s293 (nat_lit 583),.ref (nat_lit 215)⟩,⟨kh P s294,.str s294 (nat_lit 590),.ref (nat_lit 222)⟩,⟨kh P s295,.str s295 (nat_lit 597),.ref (nat_lit 229)⟩,⟨kh P s296,.str s296 (nat_lit 604),.ref (nat_lit 236)⟩,⟨kh P s297,.str s297 (nat_lit 611),.ref (nat_lit 243)⟩,⟨kh P s298,.str s298 (nat_lit 618),.ref (nat_lit 250)⟩,⟨kh P s299,.str s299 (nat_lit 628),.ref (nat_lit 258)⟩,⟨kh P s300,.str s300 (nat_lit 636),.ref (nat_lit 266)⟩,⟨kh P s301,.str s301 (nat_lit 648),.ref (nat_lit 274)⟩,⟨kh P s302,.str s302 (nat_lit 658),.ref (nat_lit 282)⟩,⟨kh P s303,.str s303 (nat_lit 668),.ref (nat_lit 289)⟩,⟨kh P s304,.str s304 (nat_lit 676),.ref (nat_lit 296)⟩,⟨kh P s305,.str s305 (nat_lit 686),.ref (nat_lit 304)⟩,⟨kh P s306,.str s306 (nat_lit 694),.ref (nat_lit 312)⟩,⟨kh P s307,.str s307 (nat_lit 701),.ref (nat_lit 319)⟩,⟨kh P s308,.str s308 (nat_lit 709),.ref (nat_lit 326)⟩,⟨kh P s309,.str s309 (nat_lit 719),.ref (nat_lit 333)⟩,⟨kh P s310,.str s310 (nat_lit 727),.ref (nat_lit 340)⟩,⟨kh P s226,.str s226 (nat_lit 734),.ref (nat_lit 347)⟩,⟨kh P s210,.str s210 (nat_lit 737),.ref (nat_lit 348)⟩]⟩ (nat_lit 34),⟨[]⟩⟩
noncomputable def o126 (P : Params) : Obj := ⟨.type "tuple",none,.seq ⟨[]⟩ (nat_lit 0),⟨[]⟩⟩
noncomputable def o127 (P : Params) : Obj := ⟨.none,none,.fields ⟨[.int (.ofNat (nat_lit 36)) (nat_lit 0),.int (.ofNat (nat_lit 4)) (nat_lit 0),.ref (nat_lit 136),.int (.ofNat (nat_lit 42)) (nat_lit 0),.int (.ofNat (nat_lit 4)) (nat_lit 0),.ref (nat_lit 143),.int (.ofNat (nat_lit 46)) (nat_lit 0),.int (.ofNat (nat_lit 4)) (nat_lit 0),.ref (nat_lit 150),.int (.ofNat (nat_lit 60)) (nat_lit 0),.int (.ofNat (nat_lit 4)) (nat_lit 0),.ref (nat_lit 157),.int (.ofNat (nat_lit 63)) (nat_lit 0),.int (.ofNat (nat_lit 4)) (nat_lit 0),.ref (nat_lit 165),.int (.ofNat (nat_lit 66)) (nat_lit 0),.int (.ofNat (nat_lit 4)) (nat_lit 0),.ref (nat_lit 172),.int (.ofNat (nat_lit 70)) (nat_lit 0),.int (.ofNat (nat_lit 4)) (nat_lit 0),.ref (nat_lit 179),.int (.ofNat (nat_lit 73)) (nat_lit 0),.int (.ofNat (nat_lit 4)) (nat_lit 0),.ref (nat_lit 186),.int (.ofNat (nat_lit 77)) (nat_lit 0),.int (.ofNat (nat_lit 4)) (nat_lit 0),.ref (nat_lit 193),.int (.ofNat (nat_lit 81)) (nat_lit 0),.int (.ofNat (nat_lit 4)) (nat_lit 0),.ref (nat_lit 200),.int (.ofNat (nat_lit 85)) (nat_lit 0),.int (.ofNat (nat_lit 4)) (nat_lit 0),.ref (nat_lit 207),.int (.ofNat (nat_lit 89)) (nat_lit 0),.int (.ofNat (nat_lit 4)) (nat_lit 0),.ref (nat_lit 214),.int (.ofNat (nat_lit 92)) (nat_lit 0),.int (.ofNat (nat_lit 4)) (nat_lit 0),.ref (nat_lit 221),.int (.ofNat (nat_lit 95)) (nat_lit 0),.int (.ofNat (nat_lit 4)) (nat_lit 0),.ref (nat_lit 228),.int (.ofNat (nat_lit 98)) (nat_lit 0),.int (.ofNat (nat_lit 4)) (nat_lit 0),.ref (nat_lit 235),.int (.ofNat (nat_lit 101)) (nat_lit 0),.int (.ofNat (nat_lit 4)) (nat_lit 0),.ref (nat_lit 242),.int (.ofNat (nat_lit 104)) (nat_lit 0),.int (.ofNat (nat_lit 4)) (nat_lit 0),.ref (nat_lit 249),.int (.ofNat (nat_lit 108)) (nat_lit 0),.int (.ofNat (nat_lit 4)) (nat_lit 0),.ref (nat_lit 257),.int (.ofNat (nat_lit 125)) (nat_lit 0),.int (.ofNat (nat_lit 4)) (nat_lit 0),.ref (nat_lit 265),.int (.ofNat (nat_lit 128)) (nat_lit 0),.int (.ofNat (nat_lit 4)) (nat_lit 0),.ref (nat_lit 273),.int (.ofNat (nat_lit 142)) (nat_lit 0),.int (.ofNat (nat_lit 4)) (nat_lit 0),.ref (nat_lit 281),.int (.ofNat (nat_lit 145)) (nat_lit 0),.int (.ofNat (nat_lit 4)) (nat_lit 0),.ref (nat_lit 288),.int (.ofNat (nat_lit 159)) (nat_lit 0),.int (.ofNat (nat_lit 4)) (nat_lit 0),.ref (nat_lit 295),.int (.ofNat (nat_lit 162)) (nat_lit 0),.int (.ofNat (nat_lit 4)) (nat_lit 0),.ref (nat_lit 303),.int (.ofNat (nat_lit 169)) (nat_lit 0),.int (.ofNat (nat_lit 4)) (nat_lit 0),.ref (nat_lit 311),.int (.ofNat (nat_lit 172)) (nat_lit 0),.int (.ofNat (nat_lit 4)) (nat_lit 0),.ref (nat_lit 318),.int (.ofNat (nat_lit 175)) (nat_lit 0),.int (.ofNat (nat_lit 4)) (nat_lit 0),.ref (nat_lit 325),.int (.ofNat (nat_lit 182)) (nat_lit 0),.int (.ofNat (nat_lit 4)) (nat_lit 0),.ref (nat_lit 332),.int (.ofNat (nat_lit 198)) (nat_lit 0),.int (.ofNat (nat_lit 4)) (nat_lit 0),.ref (nat_lit 339),.int (.ofNat (nat_lit 201)) (nat_lit 0),.int (.ofNat (nat_lit 4)) (nat_lit 0),.ref (nat_lit 346)]⟩,⟨[]⟩⟩
noncomputable def o128 (P : Params) : Obj := ⟨.type "code",none,.fields ⟨[.str s252 (nat_lit 481),.str s252 (nat_lit 482),.str s182 (nat_lit 483),.int (.ofNat (nat_lit 33)) (nat_lit 0),.int (.ofNat (nat_lit 0)) (nat_lit 0),.int (.ofNat (nat_lit 0)) (nat_lit 0),.int (.ofNat (nat_lit 0)) (nat_lit 0),.int (.ofNat (nat_lit 0)) (nat_lit 0),.ref (nat_lit 126),.bool false,.int (.ofNat (nat_lit 318)) (nat_lit 0),.ref (nat_lit 127),.none,.none,.none,.none,.int (.ofNat (nat_lit 484)) (nat_lit 0),.int (.ofNat (nat_lit 33)) (nat_lit 0),.str s182 (nat_lit 485)]⟩,⟨[]⟩⟩
noncomputable def o129 (P : Params) : Obj := ⟨.type "frame",none,.plain,⟨[some (.ref (nat_lit 128)),some (.ref (nat_lit 3)),some (.ref (nat_lit 125)),none,some (.str s275 (nat_lit 371)),none,some (.ref (nat_lit 0))]⟩⟩
noncomputable def o130 (P : Params) : Obj := ⟨.type "tuple",none,.seq ⟨[.none]⟩ (nat_lit 0),⟨[]⟩⟩
noncomputable def o131 (P : Params) : Obj := ⟨.type "tuple",none,.seq ⟨[]⟩ (nat_lit 0),⟨[]⟩⟩
noncomputable def o132 (P : Params) : Obj := ⟨.none,none,.fields ⟨[]⟩,⟨[]⟩⟩
noncomputable def o133 (P : Params) : Obj := ⟨.type "tuple",none,.seq ⟨[.str s311 (nat_lit 496),.str s312 (nat_lit 497)]⟩ (nat_lit 0),⟨[]⟩⟩
noncomputable def o134 (P : Params) : Obj := ⟨.type "tuple",none,.seq ⟨[]⟩ (nat_lit 0),⟨[]⟩⟩
noncomputable def o135 (P : Params) : Obj := ⟨.none,none,.func (fd (sub (st 11) 1) s225 s313 (nat_lit 0) [] .none .none .none .none none .none .none (nat_lit 0)),⟨[]⟩⟩
noncomputable def o136 (P : Params) : Obj := ⟨.type "code",none,.fields ⟨[.str s225 (nat_lit 493),.str s313 (nat_lit 494),.str s182 (nat_lit 495),.int (.ofNat (nat_lit 36)) (nat_lit 0),.int (.ofNat (nat_lit 2)) (nat_lit 0),.int (.ofNat (nat_lit 0)) (nat_lit 0),.int (.ofNat (nat_lit 0)) (nat_lit 0),.int (.ofNat (nat_lit 3)) (nat_lit 0),.ref (nat_lit 131),.bool true,.int (.ofNat (nat_lit 318)) (nat_lit 0),.ref (nat_lit 132),.none,.ref (nat_lit 133),.ref (nat_lit 134),.ref (nat_lit 135),.int (.ofNat (nat_lit 498)) (nat_lit 0),.int (.ofNat (nat_lit 36)) (nat_lit 0),.str s182 (nat_lit 499)]⟩,⟨[]⟩⟩
noncomputable def o137 (P : Params) : Obj := ⟨.type "function",none,.func (fd (sub (st 11) 1) s225 s313 (nat_lit 3) [] (.ref (nat_lit 130)) .none .none (.str s275 (nat_lit 371)) none (.ref (nat_lit 136)) .none (nat_lit 0)),⟨[]⟩⟩
noncomputable def o138 (P : Params) : Obj := ⟨.type "tuple",none,.seq ⟨[]⟩ (nat_lit 0),⟨[]⟩⟩
noncomputable def o139 (P : Params) : Obj := ⟨.none,none,.fields ⟨[]⟩,⟨[]⟩⟩
noncomputable def o140 (P : Params) : Obj := ⟨.type "tuple",none,.seq ⟨[.str s311 (nat_lit 504)]⟩ (nat_lit 0),⟨[]⟩⟩
noncomputable def o141 (P : Params) : Obj := ⟨.type "tuple",none,.seq ⟨[]⟩ (nat_lit 0),⟨[]⟩⟩
noncomputable def o142 (P : Params) : Obj := ⟨.none,none,.func (fd (sub (st 11) 2) s314 s315 (nat_lit 0) [] .none .none .none .none none .none .none (nat_lit 0)),⟨[]⟩⟩
noncomputable def o143 (P : Params) : Obj := ⟨.type "code",none,.fields ⟨[.str s314 (nat_lit 501),.str s315 (nat_lit 502),.str s182 (nat_lit 503),.int (.ofNat (nat_lit 42)) (nat_lit 0),.int (.ofNat (nat_lit 1)) (nat_lit 0),.int (.ofNat (nat_lit 0)) (nat_lit 0),.int (.ofNat (nat_lit 0)) (nat_lit 0),.int (.ofNat (nat_lit 3)) (nat_lit 0),.ref (nat_lit 138),.bool true,.int (.ofNat (nat_lit 318)) (nat_lit 0),.ref (nat_lit 139),.none,.ref (nat_lit 140),.ref (nat_lit 141),.ref (nat_lit 142),.int (.ofNat (nat_lit 505)) (nat_lit 0),.int (.ofNat (nat_lit 42)) (nat_lit 0),.str s182 (nat_lit 506)]⟩,⟨[]⟩⟩
noncomputable def o144 (P : Params) : Obj := ⟨.type "function",none,.func (fd (sub (st 11) 2) s314 s315 (nat_lit 3) [] .none .none .none (.str s275 (nat_lit 371)) none (.ref (nat_lit 143)) .none (nat_lit 0)),⟨[]⟩⟩
noncomputable def o145 (P : Params) : Obj := ⟨.type "tuple",none,.seq ⟨[]⟩ (nat_lit 0),⟨[]⟩⟩
noncomputable def o146 (P : Params) : Obj := ⟨.none,none,.fields ⟨[]⟩,⟨[]⟩⟩
noncomputable def o147 (P : Params) : Obj := ⟨.type "tuple",none,.seq ⟨[.str s311 (nat_lit 511),.str s316 (nat_lit 512),.str s317 (nat_lit 513),.str s318 (nat_lit 514),.str s319 (nat_lit 515)]⟩ (nat_lit 0),⟨[]⟩⟩
noncomputable def o148 (P : Params) : Obj := ⟨.type "tuple",none,.seq ⟨[]⟩ (nat_lit 0),⟨[]⟩⟩
noncomputable def o149 (P : Params) : Obj := ⟨.none,none,.func (fd (sub (st 11) 3) s320 s321 (nat_lit 0) [] .none .none .none .none none .none .none (nat_lit 0)),⟨[]⟩⟩
noncomputable def o150 (P : Params) : Obj := ⟨.type "code",none,.fields ⟨[.str s320 (nat_lit 508),.str s321 (nat_lit 509),.str s182 (nat_lit 510),.int (.ofNat (nat_lit 46)) (nat_lit 0),.int (.ofNat (nat_lit 2)) (nat_lit 0),.int (.ofNat (nat_lit 0)) (nat_lit 0),.int (.ofNat (nat_lit 0)) (nat_lit 0),.int (.ofNat (nat_lit 3)) (nat_lit 0),.ref (nat_lit 145),.bool true,.int (.ofNat (nat_lit 318)) (nat_lit 0),.ref (nat_lit 146),.none,.ref (nat_lit 147),.ref (nat_lit 148),.ref (nat_lit 149),.int (.ofNat (nat_lit 516)) (nat_lit 0),.int (.ofNat (nat_lit 46)) (nat_lit 0),.str s182 (nat_lit 517)]⟩,⟨[]⟩⟩
noncomputable def o151 (P : Params) : Obj := ⟨.type "function",none,.func (fd (sub (st 11) 3) s320 s321 (nat_lit 3) [] .none .none .none (.str s275 (nat_lit 371)) none (.ref (nat_lit 150)) .none (nat_lit 0)),⟨[]⟩⟩
noncomputable def o152 (P : Params) : Obj := ⟨.type "tuple",none,.seq ⟨[]⟩ (nat_lit 0),⟨[]⟩⟩
noncomputable def o153 (P : Params) : Obj := ⟨.none,none,.fields ⟨[]⟩,⟨[]⟩⟩
noncomputable def o154 (P : Params) : Obj := ⟨.type "tuple",none,.seq ⟨[.str s311 (nat_lit 522)]⟩ (nat_lit 0),⟨[]⟩⟩
noncomputable def o155 (P : Params) : Obj := ⟨.type "tuple",none,.seq ⟨[]⟩ (nat_lit 0),⟨[]⟩⟩
noncomputable def o156 (P : Params) : Obj := ⟨.none,none,.func (fd (sub (st 11) 4) s285 s322 (nat_lit 0) [] .none .none .none .none none .none .none (nat_lit 0)),⟨[]⟩⟩
noncomputable def o157 (P : Params) : Obj := ⟨.type "code",none,.fields ⟨[.str s285 (nat_lit 519),.str s322 (nat_lit 520),.str s182 (nat_lit 521),.int (.ofNat (nat_lit 59)) (nat_lit 0),.int (.ofNat (nat_lit 1)) (nat_lit 0),.int (.ofNat (nat_lit 0)) (nat_lit 0),.int (.ofNat (nat_lit 0)) (nat_lit 0),.int (.ofNat (nat_lit 3)) (nat_lit 0),.ref (nat_lit 152),.bool true,.int (.ofNat (nat_lit 318)) (nat_lit 0),.ref (nat_lit 153),.none,.ref (nat_lit 154),.ref (nat_lit 155),.ref (nat_lit 156),.int (.ofNat (nat_lit 523)) (nat_lit 0),.int (.ofNat (nat_lit 59)) (nat_lit 0),.str s182 (nat_lit 524)]⟩,⟨[]⟩⟩
noncomputable def o158 (P : Params) : Obj := ⟨.type "function",none,.func (fd (sub (st 11) 4) s285 s322 (nat_lit 3) [] .none .none .none (.str s275 (nat_lit 371)) none (.ref (nat_lit 157)) .none (nat_lit 0)),⟨[]⟩⟩
noncomputable def o159 (P : Params) : Obj := ⟨.type "property",none,.fields ⟨[.ref (nat_lit 158),.none,.none,.none,.str s285 (nat_lit 526),.bool false]⟩,⟨[]⟩⟩
noncomputable def o160 (P : Params) : Obj := ⟨.type "tuple",none,.seq ⟨[]⟩ (nat_lit 0),⟨[]⟩⟩
noncomputable def o161 (P : Params) : Obj := ⟨.none,none,.fields ⟨[]⟩,⟨[]⟩⟩
noncomputable def o162 (P : Params) : Obj := ⟨.type "tuple",none,.seq ⟨[.str s311 (nat_lit 530)]⟩ (nat_lit 0),⟨[]⟩⟩
noncomputable def o163 (P : Params) : Obj := ⟨.type "tuple",none,.seq ⟨[]⟩ (nat_lit 0),⟨[]⟩⟩
noncomputable def o164 (P : Params) : Obj := ⟨.none,none,.func (fd (sub (st 11) 5) s286 s323 (nat_lit 0) [] .none .none .none .none none .none .none (nat_lit 0)),⟨[]⟩⟩
noncomputable def o165 (P : Params) : Obj := ⟨.type "code",none,.fields ⟨[.str s286 (nat_lit 527),.str s323 (nat_lit 528),.str s182 (nat_lit 529),.int (.ofNat (nat_lit 63)) (nat_lit 0),.int (.ofNat (nat_lit 1)) (nat_lit 0),.int (.ofNat (nat_lit 0)) (nat_lit 0),.int (.ofNat (nat_lit 0)) (nat_lit 0),.int (.ofNat (nat_lit 3)) (nat_lit 0),.ref (nat_lit 160),.bool true,.int (.ofNat (nat_lit 318)) (nat_lit 0),.ref (nat_lit 161),.none,.ref (nat_lit 162),.ref (nat_lit 163),.ref (nat_lit 164),.int (.ofNat (nat_lit 531)) (nat_lit 0),.int (.ofNat (nat_lit 63)) (nat_lit 0),.str s182 (nat_lit 532)]⟩,⟨[]⟩⟩
noncomputable def o166 (P : Params) : Obj := ⟨.type "function",none,.func (fd (sub (st 11) 5) s286 s323 (nat_lit 3) [] .none .none .none (.str s275 (nat_lit 371)) none (.ref (nat_lit 165)) .none (nat_lit 0)),⟨[]⟩⟩
noncomputable def o167 (P : Params) : Obj := ⟨.type "tuple",none,.seq ⟨[]⟩ (nat_lit 0),⟨[]⟩⟩
noncomputable def o168 (P : Params) : Obj := ⟨.none,none,.fields ⟨[]⟩,⟨[]⟩⟩
noncomputable def o169 (P : Params) : Obj := ⟨.type "tuple",none,.seq ⟨[.str s311 (nat_lit 537)]⟩ (nat_lit 0),⟨[]⟩⟩
noncomputable def o170 (P : Params) : Obj := ⟨.type "tuple",none,.seq ⟨[]⟩ (nat_lit 0),⟨[]⟩⟩
noncomputable def o171 (P : Params) : Obj := ⟨.none,none,.func (fd (sub (st 11) 6) s287 s324 (nat_lit 0) [] .none .none .none .none none .none .none (nat_lit 0)),⟨[]⟩⟩
noncomputable def o172 (P : Params) : Obj := ⟨.type "code",none,.fields ⟨[.str s287 (nat_lit 534),.str s324 (nat_lit 535),.str s182 (nat_lit 536),.int (.ofNat (nat_lit 66)) (nat_lit 0),.int (.ofNat (nat_lit 1)) (nat_lit 0),.int (.ofNat (nat_lit 0)) (nat_lit 0),.int (.ofNat (nat_lit 0)) (nat_lit 0),.int (.ofNat (nat_lit 3)) (nat_lit 0),.ref (nat_lit 167),.bool true,.int (.ofNat (nat_lit 318)) (nat_lit 0),.ref (nat_lit 168),.none,.ref (nat_lit 169),.ref (nat_lit 170),.ref (nat_lit 171),.int (.ofNat (nat_lit 538)) (nat_lit 0),.int (.ofNat (nat_lit 66)) (nat_lit 0),.str s182 (nat_lit 539)]⟩,⟨[]⟩⟩
noncomputable def o173 (P : Params) : Obj := ⟨.type "function",none,.func (fd (sub (st 11) 6) s287 s324 (nat_lit 3) [] .none .none .none (.str s275 (nat_lit 371)) none (.ref (nat_lit 172)) .none (nat_lit 0)),⟨[]⟩⟩
noncomputable def o174 (P : Params) : Obj := ⟨.type "tuple",none,.seq ⟨[]⟩ (nat_lit 0),⟨[]⟩⟩
noncomputable def o175 (P : Params) : Obj := ⟨.none,none,.fields ⟨[]⟩,⟨[]⟩⟩
noncomputable def o176 (P : Params) : Obj := ⟨.type "tuple",none,.seq ⟨[.str s311 (nat_lit 544),.str s279 (nat_lit 545)]⟩ (nat_lit 0),⟨[]⟩⟩
noncomputable def o177 (P : Params) : Obj := ⟨.type "tuple",none,.seq ⟨[]⟩ (nat_lit 0),⟨[]⟩⟩
noncomputable def o178 (P : Params) : Obj := ⟨.none,none,.func (fd (sub (st 11) 7) s288 s325 (nat_lit 0) [] .none .none .none .none none .none .none (nat_lit 0)),⟨[]⟩⟩
noncomputable def o179 (P : Params) : Obj := ⟨.type "code",none,.fields ⟨[.str s288 (nat_lit 541),.str s325 (nat_lit 542),.str s182 (nat_lit 543),.int (.ofNat (nat_lit 70)) (nat_lit 0),.int (.ofNat (nat_lit 1)) (nat_lit 0),.int (.ofNat (nat_lit 0)) (nat_lit 0),.int (.ofNat (nat_lit 0)) (nat_lit 0),.int (.ofNat (nat_lit 7)) (nat_lit 0),.ref (nat_lit 174),.bool true,.int (.ofNat (nat_lit 318)) (nat_lit 0),.ref (nat_lit 175),.none,.ref (nat_lit 176),.ref (nat_lit 177),.ref (nat_lit 178),.int (.ofNat (nat_lit 546)) (nat_lit 0),.int (.ofNat (nat_lit 70)) (nat_lit 0),.str s182 (nat_lit 547)]⟩,⟨[]⟩⟩
noncomputable def o180 (P : Params) : Obj := ⟨.type "function",none,.func (fd (sub (st 11) 7) s288 s325 (nat_lit 3) [] .none .none .none (.str s275 (nat_lit 371)) none (.ref (nat_lit 179)) .none (nat_lit 0)),⟨[]⟩⟩
noncomputable def o181 (P : Params) : Obj := ⟨.type "tuple",none,.seq ⟨[]⟩ (nat_lit 0),⟨[]⟩⟩
noncomputable def o182 (P : Params) : Obj := ⟨.none,none,.fields ⟨[]⟩,⟨[]⟩⟩
noncomputable def o183 (P : Params) : Obj := ⟨.type "tuple",none,.seq ⟨[.str s311 (nat_lit 552)]⟩ (nat_lit 0),⟨[]⟩⟩
noncomputable def o184 (P : Params) : Obj := ⟨.type "tuple",none,.seq ⟨[]⟩ (nat_lit 0),⟨[]⟩⟩
noncomputable def o185 (P : Params) : Obj := ⟨.none,none,.func (fd (sub (st 11) 8) s289 s326 (nat_lit 0) [] .none .none .none .none none .none .none (nat_lit 0)),⟨[]⟩⟩
noncomputable def o186 (P : Params) : Obj := ⟨.type "code",none,.fields ⟨[.str s289 (nat_lit 549),.str s326 (nat_lit 550),.str s182 (nat_lit 551),.int (.ofNat (nat_lit 73)) (nat_lit 0),.int (.ofNat (nat_lit 1)) (nat_lit 0),.int (.ofNat (nat_lit 0)) (nat_lit 0),.int (.ofNat (nat_lit 0)) (nat_lit 0),.int (.ofNat (nat_lit 3)) (nat_lit 0),.ref (nat_lit 181),.bool true,.int (.ofNat (nat_lit 318)) (nat_lit 0),.ref (nat_lit 182),.none,.ref (nat_lit 183),.ref (nat_lit 184),.ref (nat_lit 185),.int (.ofNat (nat_lit 553)) (nat_lit 0),.int (.ofNat (nat_lit 73)) (nat_lit 0),.str s182 (nat_lit 554)]⟩,⟨[]⟩⟩
noncomputable def o187 (P : Params) : Obj := ⟨.type "function",none,.func (fd (sub (st 11) 8) s289 s326 (nat_lit 3) [] .none .none .none (.str s275 (nat_lit 371)) none (.ref (nat_lit 186)) .none (nat_lit 0)),⟨[]⟩⟩
noncomputable def o188 (P : Params) : Obj := ⟨.type "tuple",none,.seq ⟨[]⟩ (nat_lit 0),⟨[]⟩⟩
noncomputable def o189 (P : Params) : Obj := ⟨.none,none,.fields ⟨[]⟩,⟨[]⟩⟩
noncomputable def o190 (P : Params) : Obj := ⟨.type "tuple",none,.seq ⟨[.str s311 (nat_lit 559)]⟩ (nat_lit 0),⟨[]⟩⟩
noncomputable def o191 (P : Params) : Obj := ⟨.type "tuple",none,.seq ⟨[]⟩ (nat_lit 0),⟨[]⟩⟩
noncomputable def o192 (P : Params) : Obj := ⟨.none,none,.func (fd (sub (st 11) 9) s290 s327 (nat_lit 0) [] .none .none .none .none none .none .none (nat_lit 0)),⟨[]⟩⟩
noncomputable def o193 (P : Params) : Obj := ⟨.type "code",none,.fields ⟨[.str s290 (nat_lit 556),.str s327 (nat_lit 557),.str s182 (nat_lit 558),.int (.ofNat (nat_lit 77)) (nat_lit 0),.int (.ofNat (nat_lit 1)) (nat_lit 0),.int (.ofNat (nat_lit 0)) (nat_lit 0),.int (.ofNat (nat_lit 0)) (nat_lit 0),.int (.ofNat (nat_lit 3)) (nat_lit 0),.ref (nat_lit 188),.bool true,.int (.ofNat (nat_lit 318)) (nat_lit 0),.ref (nat_lit 189),.none,.ref (nat_lit 190),.ref (nat_lit 191),.ref (nat_lit 192),.int (.ofNat (nat_lit 560)) (nat_lit 0),.int (.ofNat (nat_lit 77)) (nat_lit 0),.str s182 (nat_lit 561)]⟩,⟨[]⟩⟩
noncomputable def o194 (P : Params) : Obj := ⟨.type "function",none,.func (fd (sub (st 11) 9) s290 s327 (nat_lit 3) [] .none .none .none (.str s275 (nat_lit 371)) none (.ref (nat_lit 193)) .none (nat_lit 0)),⟨[]⟩⟩
noncomputable def o195 (P : Params) : Obj := ⟨.type "tuple",none,.seq ⟨[]⟩ (nat_lit 0),⟨[]⟩⟩
noncomputable def o196 (P : Params) : Obj := ⟨.none,none,.fields ⟨[]⟩,⟨[]⟩⟩
noncomputable def o197 (P : Params) : Obj := ⟨.type "tuple",none,.seq ⟨[.str s311 (nat_lit 566)]⟩ (nat_lit 0),⟨[]⟩⟩
noncomputable def o198 (P : Params) : Obj := ⟨.type "tuple",none,.seq ⟨[]⟩ (nat_lit 0),⟨[]⟩⟩
noncomputable def o199 (P : Params) : Obj := ⟨.none,none,.func (fd (sub (st 11) 10) s291 s328 (nat_lit 0) [] .none .none .none .none none .none .none (nat_lit 0)),⟨[]⟩⟩
noncomputable def o200 (P : Params) : Obj := ⟨.type "code",none,.fields ⟨[.str s291 (nat_lit 563),.str s328 (nat_lit 564),.str s182 (nat_lit 565),.int (.ofNat (nat_lit 81)) (nat_lit 0),.int (.ofNat (nat_lit 1)) (nat_lit 0),.int (.ofNat (nat_lit 0)) (nat_lit 0),.int (.ofNat (nat_lit 0)) (nat_lit 0),.int (.ofNat (nat_lit 3)) (nat_lit 0),.ref (nat_lit 195),.bool true,.int (.ofNat (nat_lit 318)) (nat_lit 0),.ref (nat_lit 196),.none,.ref (nat_lit 197),.ref (nat_lit 198),.ref (nat_lit 199),.int (.ofNat (nat_lit 567)) (nat_lit 0),.int (.ofNat (nat_lit 81)) (nat_lit 0),.str s182 (nat_lit 568)]⟩,⟨[]⟩⟩
noncomputable def o201 (P : Params) : Obj := ⟨.type "function",none,.func (fd (sub (st 11) 10) s291 s328 (nat_lit 3) [] .none .none .none (.str s275 (nat_lit 371)) none (.ref (nat_lit 200)) .none (nat_lit 0)),⟨[]⟩⟩
noncomputable def o202 (P : Params) : Obj := ⟨.type "tuple",none,.seq ⟨[]⟩ (nat_lit 0),⟨[]⟩⟩
noncomputable def o203 (P : Params) : Obj := ⟨.none,none,.fields ⟨[]⟩,⟨[]⟩⟩
noncomputable def o204 (P : Params) : Obj := ⟨.type "tuple",none,.seq ⟨[.str s311 (nat_lit 573)]⟩ (nat_lit 0),⟨[]⟩⟩
noncomputable def o205 (P : Params) : Obj := ⟨.type "tuple",none,.seq ⟨[]⟩ (nat_lit 0),⟨[]⟩⟩
noncomputable def o206 (P : Params) : Obj := ⟨.none,none,.func (fd (sub (st 11) 11) s292 s329 (nat_lit 0) [] .none .none .none .none none .none .none (nat_lit 0)),⟨[]⟩⟩
noncomputable def o207 (P : Params) : Obj := ⟨.type "code",none,.fields ⟨[.str s292 (nat_lit 570),.str s329 (nat_lit 571),.str s182 (nat_lit 572),.int (.ofNat (nat_lit 85)) (nat_lit 0),.int (.ofNat (nat_lit 1)) (nat_lit 0),.int (.ofNat (nat_lit 0)) (nat_lit 0),.int (.ofNat (nat_lit 0)) (nat_lit 0),.int (.ofNat (nat_lit 3)) (nat_lit 0),.ref (nat_lit 202),.bool true,.int (.ofNat (nat_lit 318)) (nat_lit 0),.ref (nat_lit 203),.none,.ref (nat_lit 204),.ref (nat_lit 205),.ref (nat_lit 206),.int (.ofNat (nat_lit 574)) (nat_lit 0),.int (.ofNat (nat_lit 85)) (nat_lit 0),.str s182 (nat_lit 575)]⟩,⟨[]⟩⟩
noncomputable def o208 (P : Params) : Obj := ⟨.type "function",none,.func (fd (sub (st 11) 11) s292 s329 (nat_lit 3) [] .none .none .none (.str s275 (nat_lit 371)) none (.ref (nat_lit 207)) .none (nat_lit 0)),⟨[]⟩⟩
noncomputable def o209 (P : Params) : Obj := ⟨.type "tuple",none,.seq ⟨[]⟩ (nat_lit 0),⟨[]⟩⟩
noncomputable def o210 (P : Params) : Obj := ⟨.none,none,.fields ⟨[]⟩,⟨[]⟩⟩
noncomputable def o211 (P : Params) : Obj := ⟨.type "tuple",none,.seq ⟨[.str s311 (nat_lit 580)]⟩ (nat_lit 0),⟨[]⟩⟩
noncomputable def o212 (P : Params) : Obj := ⟨.type "tuple",none,.seq ⟨[]⟩ (nat_lit 0),⟨[]⟩⟩
noncomputable def o213 (P : Params) : Obj := ⟨.none,none,.func (fd (sub (st 11) 12) s293 s330 (nat_lit 0) [] .none .none .none .none none .none .none (nat_lit 0)),⟨[]⟩⟩
noncomputable def o214 (P : Params) : Obj := ⟨.type "code",none,.fields ⟨[.str s293 (nat_lit 577),.str s330 (nat_lit 578),.str s182 (nat_lit 579),.int (.ofNat (nat_lit 89)) (nat_lit 0),.int (.ofNat (nat_lit 1)) (nat_lit 0),.int (.ofNat (nat_lit 0)) (nat_lit 0),.int (.ofNat (nat_lit 0)) (nat_lit 0),.int (.ofNat (nat_lit 3)) (nat_lit 0),.ref (nat_lit 209),.bool true,.int (.ofNat (nat_lit 318)) (nat_lit 0),.ref (nat_lit 210),.none,.ref (nat_lit 211),.ref (nat_lit 212),.ref (nat_lit 213),.int (.ofNat (nat_lit 581)) (nat_lit 0),.int (.ofNat (nat_lit 89)) (nat_lit 0),.str s182 (nat_lit 582)]⟩,⟨[]⟩⟩
noncomputable def o215 (P : Params) : Obj := ⟨.type "function",none,.func (fd (sub (st 11) 12) s293 s330 (nat_lit 3) [] .none .none .none (.str s275 (nat_lit 371)) none (.ref (nat_lit 214)) .none (nat_lit 0)),⟨[]⟩⟩
noncomputable def o216 (P : Params) : Obj := ⟨.type "tuple",none,.seq ⟨[]⟩ (nat_lit 0),⟨[]⟩⟩
noncomputable def o217 (P : Params) : Obj := ⟨.none,none,.fields ⟨[]⟩,⟨[]⟩⟩
noncomputable def o218 (P : Params) : Obj := ⟨.type "tuple",none,.seq ⟨[.str s311 (nat_lit 587)]⟩ (nat_lit 0),⟨[]⟩⟩
noncomputable def o219 (P : Params) : Obj := ⟨.type "tuple",none,.seq ⟨[]⟩ (nat_lit 0),⟨[]⟩⟩
noncomputable def o220 (P : Params) : Obj := ⟨.none,none,.func (fd (sub (st 11) 13) s294 s331 (nat_lit 0) [] .none .none .none .none none .none .none (nat_lit 0)),⟨[]⟩⟩
noncomputable def o221 (P : Params) : Obj := ⟨.type "code",none,.fields ⟨[.str s294 (nat_lit 584),.str s331 (nat_lit 585),.str s182 (nat_lit 586),.int (.ofNat (nat_lit 92)) (nat_lit 0),.int (.ofNat (nat_lit 1)) (nat_lit 0),.int (.ofNat (nat_lit 0)) (nat_lit 0),.int (.ofNat (nat_lit 0)) (nat_lit 0),.int (.ofNat (nat_lit 3)) (nat_lit 0),.ref (nat_lit 216),.bool true,.int (.ofNat (nat_lit 318)) (nat_lit 0),.ref (nat_lit 217),.none,.ref (nat_lit 218),.ref (nat_lit 219),.ref (nat_lit 220),.int (.ofNat (nat_lit 588)) (nat_lit 0),.int (.ofNat (nat_lit 92)) (nat_lit 0),.str s182 (nat_lit 589)]⟩,⟨[]⟩⟩
noncomputable def o222 (P : Params) : Obj := ⟨.type "function",none,.func (fd (sub (st 11) 13) s294 s331 (nat_lit 3) [] .none .none .none (.str s275 (nat_lit 371)) none (.ref (nat_lit 221)) .none (nat_lit 0)),⟨[]⟩⟩
noncomputable def o223 (P : Params) : Obj := ⟨.type "tuple",none,.seq ⟨[]⟩ (nat_lit 0),⟨[]⟩⟩
noncomputable def o224 (P : Params) : Obj := ⟨.none,none,.fields ⟨[]⟩,⟨[]⟩⟩
noncomputable def o225 (P : Params) : Obj := ⟨.type "tuple",none,.seq ⟨[.str s311 (nat_lit 594)]⟩ (nat_lit 0),⟨[]⟩⟩
noncomputable def o226 (P : Params) : Obj := ⟨.type "tuple",none,.seq ⟨[]⟩ (nat_lit 0),⟨[]⟩⟩
noncomputable def o227 (P : Params) : Obj := ⟨.none,none,.func (fd (sub (st 11) 14) s295 s332 (nat_lit 0) [] .none .none .none .none none .none .none (nat_lit 0)),⟨[]⟩⟩
noncomputable def o228 (P : Params) : Obj := ⟨.type "code",none,.fields ⟨[.str s295 (nat_lit 591),.str s332 (nat_lit 592),.str s182 (nat_lit 593),.int (.ofNat (nat_lit 95)) (nat_lit 0),.int (.ofNat (nat_lit 1)) (nat_lit 0),.int (.ofNat (nat_lit 0)) (nat_lit 0),.int (.ofNat (nat_lit 0)) (nat_lit 0),.int (.ofNat (nat_lit 3)) (nat_lit 0),.ref (nat_lit 223),.bool true,.int (.ofNat (nat_lit 318)) (nat_lit 0),.ref (nat_lit 224),.none,.ref (nat_lit 225),.ref (nat_lit 226),.ref (nat_lit 227),.int (.ofNat (nat_lit 595)) (nat_lit 0),.int (.ofNat (nat_lit 95)) (nat_lit 0),.str s182 (nat_lit 596)]⟩,⟨[]⟩⟩
noncomputable def o229 (P : Params) : Obj := ⟨.type "function",none,.func (fd (sub (st 11) 14) s295 s332 (nat_lit 3) [] .none .none .none (.str s275 (nat_lit 371)) none (.ref (nat_lit 228)) .none (nat_lit 0)),⟨[]⟩⟩
noncomputable def o230 (P : Params) : Obj := ⟨.type "tuple",none,.seq ⟨[]⟩ (nat_lit 0),⟨[]⟩⟩
noncomputable def o231 (P : Params) : Obj := ⟨.none,none,.fields ⟨[]⟩,⟨[]⟩⟩
noncomputable def o232 (P : Params) : Obj := ⟨.type "tuple",none,.seq ⟨[.str s311 (nat_lit 601)]⟩ (nat_lit 0),⟨[]⟩⟩
noncomputable def o233 (P : Params) : Obj := ⟨.type "tuple",none,.seq ⟨[]⟩ (nat_lit 0),⟨[]⟩⟩
noncomputable def o234 (P : Params) : Obj := ⟨.none,none,.func (fd (sub (st 11) 15) s296 s333 (nat_lit 0) [] .none .none .none .none none .none .none (nat_lit 0)),⟨[]⟩⟩
noncomputable def o235 (P : Params) : Obj := ⟨.type "code",none,.fields ⟨[.str s296 (nat_lit 598),.str s333 (nat_lit 599),.str s182 (nat_lit 600),.int (.ofNat (nat_lit 98)) (nat_lit 0),.int (.ofNat (nat_lit 1)) (nat_lit 0),.int (.ofNat (nat_lit 0)) (nat_lit 0),.int (.ofNat (nat_lit 0)) (nat_lit 0),.int (.ofNat (nat_lit 3)) (nat_lit 0),.ref (nat_lit 230),.bool true,.int (.ofNat (nat_lit 318)) (nat_lit 0),.ref (nat_lit 231),.none,.ref (nat_lit 232),.ref (nat_lit 233),.ref (nat_lit 234),.int (.ofNat (nat_lit 602)) (nat_lit 0),.int (.ofNat (nat_lit 98)) (nat_lit 0),.str s182 (nat_lit 603)]⟩,⟨[]⟩⟩
noncomputable def o236 (P : Params) : Obj := ⟨.type "function",none,.func (fd (sub (st 11) 15) s296 s333 (nat_lit 3) [] .none .none .none (.str s275 (nat_lit 371)) none (.ref (nat_lit 235)) .none (nat_lit 0)),⟨[]⟩⟩
noncomputable def o237 (P : Params) : Obj := ⟨.type "tuple",none,.seq ⟨[]⟩ (nat_lit 0),⟨[]⟩⟩
noncomputable def o238 (P : Params) : Obj := ⟨.none,none,.fields ⟨[]⟩,⟨[]⟩⟩
noncomputable def o239 (P : Params) : Obj := ⟨.type "tuple",none,.seq ⟨[.str s311 (nat_lit 608)]⟩ (nat_lit 0),⟨[]⟩⟩
noncomputable def o240 (P : Params) : Obj := ⟨.type "tuple",none,.seq ⟨[]⟩ (nat_lit 0),⟨[]⟩⟩
noncomputable def o241 (P : Params) : Obj := ⟨.none,none,.func (fd (sub (st 11) 16) s297 s334 (nat_lit 0) [] .none .none .none .none none .none .none (nat_lit 0)),⟨[]⟩⟩
noncomputable def o242 (P : Params) : Obj := ⟨.type "code",none,.fields ⟨[.str s297 (nat_lit 605),.str s334 (nat_lit 606),.str s182 (nat_lit 607),.int (.ofNat (nat_lit 101)) (nat_lit 0),.int (.ofNat (nat_lit 1)) (nat_lit 0),.int (.ofNat (nat_lit 0)) (nat_lit 0),.int (.ofNat (nat_lit 0)) (nat_lit 0),.int (.ofNat (nat_lit 3)) (nat_lit 0),.ref (nat_lit 237),.bool true,.int (.ofNat (nat_lit 318)) (nat_lit 0),.ref (nat_lit 238),.none,.ref (nat_lit 239),.ref (nat_lit 240),.ref (nat_lit 241),.int (.ofNat (nat_lit 609)) (nat_lit 0),.int (.ofNat (nat_lit 101)) (nat_lit 0),.str s182 (nat_lit 610)]⟩,⟨[]⟩⟩
noncomputable def o243 (P : Params) : Obj := ⟨.type "function",none,.func (fd (sub (st 11) 16) s297 s334 (nat_lit 3) [] .none .none .none (.str s275 (nat_lit 371)) none (.ref (nat_lit 242)) .none (nat_lit 0)),⟨[]⟩⟩
noncomputable def o244 (P : Params) : Obj := ⟨.type "tuple",none,.seq ⟨[]⟩ (nat_lit 0),⟨[]⟩⟩
noncomputable def o245 (P : Params) : Obj := ⟨.none,none,.fields ⟨[]⟩,⟨[]⟩⟩
noncomputable def o246 (P : Params) : Obj := ⟨.type "tuple",none,.seq ⟨[.str s311 (nat_lit 615)]⟩ (nat_lit 0),⟨[]⟩⟩
noncomputable def o247 (P : Params) : Obj := ⟨.type "tuple",none,.seq ⟨[]⟩ (nat_lit 0),⟨[]⟩⟩
noncomputable def o248 (P : Params) : Obj := ⟨.none,none,.func (fd (sub (st 11) 17) s298 s335 (nat_lit 0) [] .none .none .none .none none .none .none (nat_lit 0)),⟨[]⟩⟩
noncomputable def o249 (P : Params) : Obj := ⟨.type "code",none,.fields ⟨[.str s298 (nat_lit 612),.str s335 (nat_lit 613),.str s182 (nat_lit 614),.int (.ofNat (nat_lit 104)) (nat_lit 0),.int (.ofNat (nat_lit 1)) (nat_lit 0),.int (.ofNat (nat_lit 0)) (nat_lit 0),.int (.ofNat (nat_lit 0)) (nat_lit 0),.int (.ofNat (nat_lit 3)) (nat_lit 0),.ref (nat_lit 244),.bool true,.int (.ofNat (nat_lit 318)) (nat_lit 0),.ref (nat_lit 245),.none,.ref (nat_lit 246),.ref (nat_lit 247),.ref (nat_lit 248),.int (.ofNat (nat_lit 616)) (nat_lit 0),.int (.ofNat (nat_lit 104)) (nat_lit 0),.str s182 (nat_lit 617)]⟩,⟨[]⟩⟩
noncomputable def o250 (P : Params) : Obj := ⟨.type "function",none,.func (fd (sub (st 11) 17) s298 s335 (nat_lit 3) [] .none .none .none (.str s275 (nat_lit 371)) none (.ref (nat_lit 249)) .none (nat_lit 0)),⟨[]⟩⟩
noncomputable def o251 (P : Params) : Obj := ⟨.type "tuple",none,.seq ⟨[.int (.ofNat (nat_lit 0)) (nat_lit 619)]⟩ (nat_lit 0),⟨[]⟩⟩
noncomputable def o252 (P : Params) : Obj := ⟨.type "tuple",none,.seq ⟨[]⟩ (nat_lit 0),⟨[]⟩⟩
noncomputable def o253 (P : Params) : Obj := ⟨.none,none,.fields ⟨[]⟩,⟨[]⟩⟩
noncomputable def o254 (P : Params) : Obj := ⟨.type "tuple",none,.seq ⟨[.str s311 (nat_lit 623),.str s336 (nat_lit 624),.str s337 (nat_lit 625)]⟩ (nat_lit 0),⟨[]⟩⟩
noncomputable def o255 (P : Params) : Obj := ⟨.type "tuple",none,.seq ⟨[]⟩ (nat_lit 0),⟨[]⟩⟩
noncomputable def o256 (P : Params) : Obj := ⟨.none,none,.func (fd (sub (st 11) 18) s299 s338 (nat_lit 0) [] .none .none .none .none none .none .none (nat_lit 0)),⟨[]⟩⟩
noncomputable def o257 (P : Params) : Obj := ⟨.type "code",none,.fields ⟨[.str s299 (nat_lit 620),.str s338 (nat_lit 621),.str s182 (nat_lit 622),.int (.ofNat (nat_lit 108)) (nat_lit 0),.int (.ofNat (nat_lit 3)) (nat_lit 0),.int (.ofNat (nat_lit 3)) (nat_lit 0),.int (.ofNat (nat_lit 0)) (nat_lit 0),.int (.ofNat (nat_lit 3)) (nat_lit 0),.ref (nat_lit 252),.bool true,.int (.ofNat (nat_lit 318)) (nat_lit 0),.ref (nat_lit 253),.none,.ref (nat_lit 254),.ref (nat_lit 255),.ref (nat_lit 256),.int (.ofNat (nat_lit 626)) (nat_lit 0),.int (.ofNat (nat_lit 108)) (nat_lit 0),.str s182 (nat_lit 627)]⟩,⟨[]⟩⟩
noncomputable def o258 (P : Params) : Obj := ⟨.type "function",none,.func (fd (sub (st 11) 18) s299 s338 (nat_lit 3) [] (.ref (nat_lit 251)) .none .none (.str s275 (nat_lit 371)) none (.ref (nat_lit 257)) .none (nat_lit 0)),⟨[]⟩⟩
noncomputable def o259 (P : Params) : Obj := ⟨.type "tuple",none,.seq ⟨[.none]⟩ (nat_lit 0),⟨[]⟩⟩
noncomputable def o260 (P : Params) : Obj := ⟨.type "tuple",none,.seq ⟨[]⟩ (nat_lit 0),⟨[]⟩⟩
noncomputable def o261 (P : Params) : Obj := ⟨.none,none,.fields ⟨[]⟩,⟨[]⟩⟩
noncomputable def o262 (P : Params) : Obj := ⟨.type "tuple",none,.seq ⟨[.str s311 (nat_lit 632),.str s339 (nat_lit 633)]⟩ (nat_lit 0),⟨[]⟩⟩
noncomputable def o263 (P : Params) : Obj := ⟨.type "tuple",none,.seq ⟨[]⟩ (nat_lit 0),⟨[]⟩⟩
noncomputable def o264 (P : Params) : Obj := ⟨.none,none,.func (fd (sub (st 11) 19) s300 s340 (nat_lit 0) [] .none .none .none .none none .none .none (nat_lit 0)),⟨[]⟩⟩
noncomputable def o265 (P : Params) : Obj := ⟨.type "code",none,.fields ⟨[.str s300 (nat_lit 629),.str s340 (nat_lit 630),.str s182 (nat_lit 631),.int (.ofNat (nat_lit 125)) (nat_lit 0),.int (.ofNat (nat_lit 2)) (nat_lit 0),.int (.ofNat (nat_lit 2)) (nat_lit 0),.int (.ofNat (nat_lit 0)) (nat_lit 0),.int (.ofNat (nat_lit 3)) (nat_lit 0),.ref (nat_lit 260),.bool true,.int (.ofNat (nat_lit 318)) (nat_lit 0),.ref (nat_lit 261),.none,.ref (nat_lit 262),.ref (nat_lit 263),.ref (nat_lit 264),.int (.ofNat (nat_lit 634)) (nat_lit 0),.int (.ofNat (nat_lit 125)) (nat_lit 0),.str s182 (nat_lit 635)]⟩,⟨[]⟩⟩
noncomputable def o266 (P : Params) : Obj := ⟨.type "function",none,.func (fd (sub (st 11) 19) s300 s340 (nat_lit 3) [] (.ref (nat_lit 259)) .none .none (.str s275 (nat_lit 371)) none (.ref (nat_lit 265)) .none (nat_lit 0)),⟨[]⟩⟩
noncomputable def o267 (P : Params) : Obj := ⟨.type "tuple",none,.seq ⟨[.int (.negSucc (nat_lit 0)) (nat_lit 638)]⟩ (nat_lit 0),⟨[]⟩⟩
noncomputable def o268 (P : Params) : Obj := ⟨.type "tuple",none,.seq ⟨[]⟩ (nat_lit 0),⟨[]⟩⟩
noncomputable def o269 (P : Params) : Obj := ⟨.none,none,.fields ⟨[]⟩,⟨[]⟩⟩
noncomputable def o270 (P : Params) : Obj := ⟨.type "tuple",none,.seq ⟨[.str s311 (nat_lit 642),.str s339 (nat_lit 643),.str s317 (nat_lit 644),.str s318 (nat_lit 645)]⟩ (nat_lit 0),⟨[]⟩⟩
noncomputable def o271 (P : Params) : Obj := ⟨.type "tuple",none,.seq ⟨[]⟩ (nat_lit 0),⟨[]⟩⟩
noncomputable def o272 (P : Params) : Obj := ⟨.none,none,.func (fd (sub (st 11) 20) s301 s341 (nat_lit 0) [] .none .none .none .none none .none .none (nat_lit 0)),⟨[]⟩⟩
noncomputable def o273 (P : Params) : Obj := ⟨.type "code",none,.fields ⟨[.str s301 (nat_lit 639),.str s341 (nat_lit 640),.str s182 (nat_lit 641),.int (.ofNat (nat_lit 128)) (nat_lit 0),.int (.ofNat (nat_lit 2)) (nat_lit 0),.int (.ofNat (nat_lit 2)) (nat_lit 0),.int (.ofNat (nat_lit 0)) (nat_lit 0),.int (.ofNat (nat_lit 3)) (nat_lit 0),.ref (nat_lit 268),.bool true,.int (.ofNat (nat_lit 318)) (nat_lit 0),.ref (nat_lit 269),.none,.ref (nat_lit 270),.ref (nat_lit 271),.ref (nat_lit 272),.int (.ofNat (nat_lit 646)) (nat_lit 0),.int (.ofNat (nat_lit 128)) (nat_lit 0),.str s182 (nat_lit 647)]⟩,⟨[]⟩⟩
noncomputable def o274 (P : Params) : Obj := ⟨.type "function",none,.func (fd (sub (st 11) 20) s301 s341 (nat_lit 3) [] (.ref (nat_lit 267)) .none .none (.str s275 (nat_lit 371)) none (.ref (nat_lit 273)) .none (nat_lit 0)),⟨[]⟩⟩
noncomputable def o275 (P : Params) : Obj := ⟨.type "tuple",none,.seq ⟨[.int (.negSucc (nat_lit 0)) (nat_lit 650)]⟩ (nat_lit 0),⟨[]⟩⟩
noncomputable def o276 (P : Params) : Obj := ⟨.type "tuple",none,.seq ⟨[]⟩ (nat_lit 0),⟨[]⟩⟩
noncomputable def o277 (P : Params) : Obj := ⟨.none,none,.fields ⟨[]⟩,⟨[]⟩⟩
noncomputable def o278 (P : Params) : Obj := ⟨.type "tuple",none,.seq ⟨[.str s311 (nat_lit 654),.str s339 (nat_lit 655)]⟩ (nat_lit 0),⟨[]⟩⟩
noncomputable def o279 (P : Params) : Obj := ⟨.type "tuple",none,.seq ⟨[]⟩ (nat_lit 0),⟨[]⟩⟩
noncomputable def o280 (P : Params) : Obj := ⟨.none,none,.func (fd (sub (st 11) 21) s302 s342 (nat_lit 0) [] .none .none .none .none none .none .none (nat_lit 0)),⟨[]⟩⟩
noncomputable def o281 (P : Params) : Obj := ⟨.type "code",none,.fields ⟨[.str s302 (nat_lit 651),.str s342 (nat_lit 652),.str s182 (nat_lit 653),.int (.ofNat (nat_lit 142)) (nat_lit 0),.int (.ofNat (nat_lit 2)) (nat_lit 0),.int (.ofNat (nat_lit 2)) (nat_lit 0),.int (.ofNat (nat_lit 0)) (nat_lit 0),.int (.ofNat (nat_lit 3)) (nat_lit 0),.ref (nat_lit 276),.bool true,.int (.ofNat (nat_lit 318)) (nat_lit 0),.ref (nat_lit 277),.none,.ref (nat_lit 278),.ref (nat_lit 279),.ref (nat_lit 280),.int (.ofNat (nat_lit 656)) (nat_lit 0),.int (.ofNat (nat_lit 142)) (nat_lit 0),.str s182 (nat_lit 657)]⟩,⟨[]⟩⟩
noncomputable def o282 (P : Params) : Obj := ⟨.type "function",none,.func (fd (sub (st 11) 21) s302 s342 (nat_lit 3) [] (.ref (nat_lit 275)) .none .none (.str s275 (nat_lit 371)) none (.ref (nat_lit 281)) .none (nat_lit 0)),⟨[]⟩⟩
noncomputable def o283 (P : Params) : Obj := ⟨.type "tuple",none,.seq ⟨[]⟩ (nat_lit 0),⟨[]⟩⟩
noncomputable def o284 (P : Params) : Obj := ⟨.none,none,.fields ⟨[]⟩,⟨[]⟩⟩
noncomputable def o285 (P : Params) : Obj := ⟨.type "tuple",none,.seq ⟨[.str s311 (nat_lit 662),.str s343 (nat_lit 663),.str s317 (nat_lit 664),.str s273 (nat_lit 665)]⟩ (nat_lit 0),⟨[]⟩⟩
noncomputable def o286 (P : Params) : Obj := ⟨.type "tuple",none,.seq ⟨[]⟩ (nat_lit 0),⟨[]⟩⟩
noncomputable def o287 (P : Params) : Obj := ⟨.none,none,.func (fd (sub (st 11) 22) s303 s344 (nat_lit 0) [] .none .none .none .none none .none .none (nat_lit 0)),⟨[]⟩⟩
noncomputable def o288 (P : Params) : Obj := ⟨.type "code",none,.fields ⟨[.str s303 (nat_lit 659),.str s344 (nat_lit 660),.str s182 (nat_lit 661),.int (.ofNat (nat_lit 145)) (nat_lit 0),.int (.ofNat (nat_lit 2)) (nat_lit 0),.int (.ofNat (nat_lit 2)) (nat_lit 0),.int (.ofNat (nat_lit 0)) (nat_lit 0),.int (.ofNat (nat_lit 3)) (nat_lit 0),.ref (nat_lit 283),.bool true,.int (.ofNat (nat_lit 318)) (nat_lit 0),.ref (nat_lit 284),.none,.ref (nat_lit 285),.ref (nat_lit 286),.ref (nat_lit 287),.int (.ofNat (nat_lit 666)) (nat_lit 0),.int (.ofNat (nat_lit 145)) (nat_lit 0),.str s182 (nat_lit 667)]⟩,⟨[]⟩⟩
noncomputable def o289 (P : Params) : Obj := ⟨.type "function",none,.func (fd (sub (st 11) 22) s303 s344 (nat_lit 3) [] .none .none .none (.str s275 (nat_lit 371)) none (.ref (nat_lit 288)) .none (nat_lit 0)),⟨[]⟩⟩
noncomputable def o290 (P : Params) : Obj := ⟨.type "tuple",none,.seq ⟨[]⟩ (nat_lit 0),⟨[]⟩⟩
noncomputable def o291 (P : Params) : Obj := ⟨.none,none,.fields ⟨[]⟩,⟨[]⟩⟩
noncomputable def o292 (P : Params) : Obj := ⟨.type "tuple",none,.seq ⟨[.str s311 (nat_lit 672),.str s343 (nat_lit 673)]⟩ (nat_lit 0),⟨[]⟩⟩
noncomputable def o293 (P : Params) : Obj := ⟨.type "tuple",none,.seq ⟨[]⟩ (nat_lit 0),⟨[]⟩⟩
noncomputable def o294 (P : Params) : Obj := ⟨.none,none,.func (fd (sub (st 11) 23) s304 s345 (nat_lit 0) [] .none .none .none .none none .none .none (nat_lit 0)),⟨[]⟩⟩
noncomputable def o295 (P : Params) : Obj := ⟨.type "code",none,.fields ⟨[.str s304 (nat_lit 669),.str s345 (nat_lit 670),.str s182 (nat_lit 671),.int (.ofNat (nat_lit 159)) (nat_lit 0),.int (.ofNat (nat_lit 2)) (nat_lit 0),.int (.ofNat (nat_lit 2)) (nat_lit 0),.int (.ofNat (nat_lit 0)) (nat_lit 0),.int (.ofNat (nat_lit 3)) (nat_lit 0),.ref (nat_lit 290),.bool true,.int (.ofNat (nat_lit 318)) (nat_lit 0),.ref (nat_lit 291),.none,.ref (nat_lit 292),.ref (nat_lit 293),.ref (nat_lit 294),.int (.ofNat (nat_lit 674)) (nat_lit 0),.int (.ofNat (nat_lit 159)) (nat_lit 0),.str s182 (nat_lit 675)]⟩,⟨[]⟩⟩
noncomputable def o296 (P : Params) : Obj := ⟨.type "function",none,.func (fd (sub (st 11) 23) s304 s345 (nat_lit 3) [] .none .none .none (.str s275 (nat_lit 371)) none (.ref (nat_lit 295)) .none (nat_lit 0)),⟨[]⟩⟩
noncomputable def o297 (P : Params) : Obj := ⟨.type "tuple",none,.seq ⟨[.int (.negSucc (nat_lit 0)) (nat_lit 678)]⟩ (nat_lit 0),⟨[]⟩⟩
noncomputable def o298 (P : Params) : Obj := ⟨.type "tuple",none,.seq ⟨[]⟩ (nat_lit 0),⟨[]⟩⟩
noncomputable def o299 (P : Params) : Obj := ⟨.none,none,.fields ⟨[]⟩,⟨[]⟩⟩
noncomputable def o300 (P : Params) : Obj := ⟨.type "tuple",none,.seq ⟨[.str s311 (nat_lit 682),.str s339 (nat_lit 683)]⟩ (nat_lit 0),⟨[]⟩⟩
noncomputable def o301 (P : Params) : Obj := ⟨.type "tuple",none,.seq ⟨[]⟩ (nat_lit 0),⟨[]⟩⟩
noncomputable def o302 (P : Params) : Obj := ⟨.none,none,.func (fd (sub (st 11) 24) s305 s346 (nat_lit 0) [] .none .none .none .none none .none .none (nat_lit 0)),⟨[]⟩⟩
noncomputable def o303 (P : Params) : Obj := ⟨.type "code",none,.fields ⟨[.str s305 (nat_lit 679),.str s346 (nat_lit 680),.str s182 (nat_lit 681),.int (.ofNat (nat_lit 162)) (nat_lit 0),.int (.ofNat (nat_lit 2)) (nat_lit 0),.int (.ofNat (nat_lit 2)) (nat_lit 0),.int (.ofNat (nat_lit 0)) (nat_lit 0),.int (.ofNat (nat_lit 3)) (nat_lit 0),.ref (nat_lit 298),.bool true,.int (.ofNat (nat_lit 318)) (nat_lit 0),.ref (nat_lit 299),.none,.ref (nat_lit 300),.ref (nat_lit 301),.ref (nat_lit 302),.int (.ofNat (nat_lit 684)) (nat_lit 0),.int (.ofNat (nat_lit 162)) (nat_lit 0),.str s182 (nat_lit 685)]⟩,⟨[]⟩⟩
noncomputable def o304 (P : Params) : Obj := ⟨.type "function",none,.func (fd (sub (st 11) 24) s305 s346 (nat_lit 3) [] (.ref (nat_lit 297)) .none .none (.str s275 (nat_lit 371)) none (.ref (nat_lit 303)) .none (nat_lit 0)),⟨[]⟩⟩
noncomputable def o305 (P : Params) : Obj := ⟨.type "tuple",none,.seq ⟨[.none]⟩ (nat_lit 0),⟨[]⟩⟩
noncomputable def o306 (P : Params) : Obj := ⟨.type "tuple",none,.seq ⟨[]⟩ (nat_lit 0),⟨[]⟩⟩
noncomputable def o307 (P : Params) : Obj := ⟨.none,none,.fields ⟨[]⟩,⟨[]⟩⟩
noncomputable def o308 (P : Params) : Obj := ⟨.type "tuple",none,.seq ⟨[.str s311 (nat_lit 690),.str s339 (nat_lit 691)]⟩ (nat_lit 0),⟨[]⟩⟩
noncomputable def o309 (P : Params) : Obj := ⟨.type "tuple",none,.seq ⟨[]⟩ (nat_lit 0),⟨[]⟩⟩
noncomputable def o310 (P : Params) : Obj := ⟨.none,none,.func (fd (sub (st 11) 25) s306 s347 (nat_lit 0) [] .none .none .none .none none .none .none (nat_lit 0)),⟨[]⟩⟩
noncomputable def o311 (P : Params) : Obj := ⟨.type "code",none,.fields ⟨[.str s306 (nat_lit 687),.str s347 (nat_lit 688),.str s182 (nat_lit 689),.int (.ofNat (nat_lit 169)) (nat_lit 0),.int (.ofNat (nat_lit 2)) (nat_lit 0),.int (.ofNat (nat_lit 2)) (nat_lit 0),.int (.ofNat (nat_lit 0)) (nat_lit 0),.int (.ofNat (nat_lit 3)) (nat_lit 0),.ref (nat_lit 306),.bool true,.int (.ofNat (nat_lit 318)) (nat_lit 0),.ref (nat_lit 307),.none,.ref (nat_lit 308),.ref (nat_lit 309),.ref (nat_lit 310),.int (.ofNat (nat_lit 692)) (nat_lit 0),.int (.ofNat (nat_lit 169)) (nat_lit 0),.str s182 (nat_lit 693)]⟩,⟨[]⟩⟩
noncomputable def o312 (P : Params) : Obj := ⟨.type "function",none,.func (fd (sub (st 11) 25) s306 s347 (nat_lit 3) [] (.ref (nat_lit 305)) .none .none (.str s275 (nat_lit 371)) none (.ref (nat_lit 311)) .none (nat_lit 0)),⟨[]⟩⟩
noncomputable def o313 (P : Params) : Obj := ⟨.type "tuple",none,.seq ⟨[]⟩ (nat_lit 0),⟨[]⟩⟩
noncomputable def o314 (P : Params) : Obj := ⟨.none,none,.fields ⟨[]⟩,⟨[]⟩⟩
noncomputable def o315 (P : Params) : Obj := ⟨.type "tuple",none,.seq ⟨[.str s311 (nat_lit 698)]⟩ (nat_lit 0),⟨[]⟩⟩
noncomputable def o316 (P : Params) : Obj := ⟨.type "tuple",none,.seq ⟨[]⟩ (nat_lit 0),⟨[]⟩⟩
noncomputable def o317 (P : Params) : Obj := ⟨.none,none,.func (fd (sub (st 11) 26) s307 s348 (nat_lit 0) [] .none .none .none .none none .none .none (nat_lit 0)),⟨[]⟩⟩
noncomputable def o318 (P : Params) : Obj := ⟨.type "code",none,.fields ⟨[.str s307 (nat_lit 695),.str s348 (nat_lit 696),.str s182 (nat_lit 697),.int (.ofNat (nat_lit 172)) (nat_lit 0),.int (.ofNat (nat_lit 1)) (nat_lit 0),.int (.ofNat (nat_lit 0)) (nat_lit 0),.int (.ofNat (nat_lit 0)) (nat_lit 0),.int (.ofNat (nat_lit 3)) (nat_lit 0),.ref (nat_lit 313),.bool true,.int (.ofNat (nat_lit 318)) (nat_lit 0),.ref (nat_lit 314),.none,.ref (nat_lit 315),.ref (nat_lit 316),.ref (nat_lit 317),.int (.ofNat (nat_lit 699)) (nat_lit 0),.int (.ofNat (nat_lit 172)) (nat_lit 0),.str s182 (nat_lit 700)]⟩,⟨[]⟩⟩
noncomputable def o319 (P : Params) : Obj := ⟨.type "function",none,.func (fd (sub (st 11) 26) s307 s348 (nat_lit 3) [] .none .none .none (.str s275 (nat_lit 371)) none (.ref (nat_lit 318)) .none (nat_lit 0)),⟨[]⟩⟩
noncomputable def o320 (P : Params) : Obj := ⟨.type "tuple",none,.seq ⟨[]⟩ (nat_lit 0),⟨[]⟩⟩
noncomputable def o321 (P : Params) : Obj := ⟨.none,none,.fields ⟨[]⟩,⟨[]⟩⟩
noncomputable def o322 (P : Params) : Obj := ⟨.type "tuple",none,.seq ⟨[.str s311 (nat_lit 705),.str s349 (nat_lit 706)]⟩ (nat_lit 0),⟨[]⟩⟩
noncomputable def o323 (P : Params) : Obj := ⟨.type "tuple",none,.seq ⟨[]⟩ (nat_lit 0),⟨[]⟩⟩
noncomputable def o324 (P : Params) : Obj := ⟨.none,none,.func (fd (sub (st 11) 27) s308 s350 (nat_lit 0) [] .none .none .none .none none .none .none (nat_lit 0)),⟨[]⟩⟩
noncomputable def o325 (P : Params) : Obj := ⟨.type "code",none,.fields ⟨[.str s308 (nat_lit 702),.str s350 (nat_lit 703),.str s182 (nat_lit 704),.int (.ofNat (nat_lit 175)) (nat_lit 0),.int (.ofNat (nat_lit 1)) (nat_lit 0),.int (.ofNat (nat_lit 0)) (nat_lit 0),.int (.ofNat (nat_lit 0)) (nat_lit 0),.int (.ofNat (nat_lit 3)) (nat_lit 0),.ref (nat_lit 320),.bool true,.int (.ofNat (nat_lit 318)) (nat_lit 0),.ref (nat_lit 321),.none,.ref (nat_lit 322),.ref (nat_lit 323),.ref (nat_lit 324),.int (.ofNat (nat_lit 707)) (nat_lit 0),.int (.ofNat (nat_lit 175)) (nat_lit 0),.str s182 (nat_lit 708)]⟩,⟨[]⟩⟩
noncomputable def o326 (P : Params) : Obj := ⟨.type "function",none,.func (fd (sub (st 11) 27) s308 s350 (nat_lit 3) [] .none .none .none (.str s275 (nat_lit 371)) none (.ref (nat_lit 325)) .none (nat_lit 0)),⟨[]⟩⟩
noncomputable def o327 (P : Params) : Obj := ⟨.type "tuple",none,.seq ⟨[]⟩ (nat_lit 0),⟨[]⟩⟩
noncomputable def o328 (P : Params) : Obj := ⟨.none,none,.fields ⟨[]⟩,⟨[]⟩⟩
noncomputable def o329 (P : Params) : Obj := ⟨.type "tuple",none,.seq ⟨[.str s311 (nat_lit 713),.str s351 (nat_lit 714),.str s273 (nat_lit 715),.str s317 (nat_lit 716)]⟩ (nat_lit 0),⟨[]⟩⟩
noncomputable def o330 (P : Params) : Obj := ⟨.type "tuple",none,.seq ⟨[]⟩ (nat_lit 0),⟨[]⟩⟩
noncomputable def o331 (P : Params) : Obj := ⟨.none,none,.func (fd (sub (st 11) 28) s309 s352 (nat_lit 0) [] .none .none .none .none none .none .none (nat_lit 0)),⟨[]⟩⟩
noncomputable def o332 (P : Params) : Obj := ⟨.type "code",none,.fields ⟨[.str s309 (nat_lit 710),.str s352 (nat_lit 711),.str s182 (nat_lit 712),.int (.ofNat (nat_lit 182)) (nat_lit 0),.int (.ofNat (nat_lit 2)) (nat_lit 0),.int (.ofNat (nat_lit 2)) (nat_lit 0),.int (.ofNat (nat_lit 0)) (nat_lit 0),.int (.ofNat (nat_lit 3)) (nat_lit 0),.ref (nat_lit 327),.bool true,.int (.ofNat (nat_lit 318)) (nat_lit 0),.ref (nat_lit 328),.none,.ref (nat_lit 329),.ref (nat_lit 330),.ref (nat_lit 331),.int (.ofNat (nat_lit 717)) (nat_lit 0),.int (.ofNat (nat_lit 182)) (nat_lit 0),.str s182 (nat_lit 718)]⟩,⟨[]⟩⟩
noncomputable def o333 (P : Params) : Obj := ⟨.type "function",none,.func (fd (sub (st 11) 28) s309 s352 (nat_lit 3) [] .none .none .none (.str s275 (nat_lit 371)) none (.ref (nat_lit 332)) .none (nat_lit 0)),⟨[]⟩⟩
noncomputable def o334 (P : Params) : Obj := ⟨.type "tuple",none,.seq ⟨[]⟩ (nat_lit 0),⟨[]⟩⟩
noncomputable def o335 (P : Params) : Obj := ⟨.none,none,.fields ⟨[]⟩,⟨[]⟩⟩
noncomputable def o336 (P : Params) : Obj := ⟨.type "tuple",none,.seq ⟨[.str s311 (nat_lit 723),.str s353 (nat_lit 724)]⟩ (nat_lit 0),⟨[]⟩⟩
noncomputable def o337 (P : Params) : Obj := ⟨.type "tuple",none,.seq ⟨[]⟩ (nat_lit 0),⟨[]⟩⟩
noncomputable def o338 (P : Params) : Obj := ⟨.none,none,.func (fd (sub (st 11) 29) s310 s354 (nat_lit 0) [] .none .none .none .none none .none .none (nat_lit 0)),⟨[]⟩⟩
noncomputable def o339 (P : Params) : Obj := ⟨.type "code",none,.fields ⟨[.str s310 (nat_lit 720),.str s354 (nat_lit 721),.str s182 (nat_lit 722),.int (.ofNat (nat_lit 198)) (nat_lit 0),.int (.ofNat (nat_lit 2)) (nat_lit 0),.int (.ofNat (nat_lit 2)) (nat_lit 0),.int (.ofNat (nat_lit 0)) (nat_lit 0),.int (.ofNat (nat_lit 3)) (nat_lit 0),.ref (nat_lit 334),.bool true,.int (.ofNat (nat_lit 318)) (nat_lit 0),.ref (nat_lit 335),.none,.ref (nat_lit 336),.ref (nat_lit 337),.ref (nat_lit 338),.int (.ofNat (nat_lit 725)) (nat_lit 0),.int (.ofNat (nat_lit 198)) (nat_lit 0),.str s182 (nat_lit 726)]⟩,⟨[]⟩⟩
noncomputable def o340 (P : Params) : Obj := ⟨.type "function",none,.func (fd (sub (st 11) 29) s310 s354 (nat_lit 3) [] .none .none .none (.str s275 (nat_lit 371)) none (.ref (nat_lit 339)) .none (nat_lit 0)),⟨[]⟩⟩
noncomputable def o341 (P : Params) : Obj := ⟨.type "tuple",none,.seq ⟨[]⟩ (nat_lit 0),⟨[]⟩⟩
noncomputable def o342 (P : Params) : Obj := ⟨.none,none,.fields ⟨[]⟩,⟨[]⟩⟩
noncomputable def o343 (P : Params) : Obj := ⟨.type "tuple",none,.seq ⟨[.str s311 (nat_lit 731)]⟩ (nat_lit 0),⟨[]⟩⟩
noncomputable def o344 (P : Params) : Obj := ⟨.type "tuple",none,.seq ⟨[]⟩ (nat_lit 0),⟨[]⟩⟩
noncomputable def o345 (P : Params) : Obj := ⟨.none,none,.func (fd (sub (st 11) 30) s226 s355 (nat_lit 0) [] .none .none .none .none none .none .none (nat_lit 0)),⟨[]⟩⟩
noncomputable def o346 (P : Params) : Obj := ⟨.type "code",none,.fields ⟨[.str s226 (nat_lit 728),.str s355 (nat_lit 729),.str s182 (nat_lit 730),.int (.ofNat (nat_lit 201)) (nat_lit 0),.int (.ofNat (nat_lit 1)) (nat_lit 0),.int (.ofNat (nat_lit 0)) (nat_lit 0),.int (.ofNat (nat_lit 0)) (nat_lit 0),.int (.ofNat (nat_lit 3)) (nat_lit 0),.ref (nat_lit 341),.bool true,.int (.ofNat (nat_lit 318)) (nat_lit 0),.ref (nat_lit 342),.none,.ref (nat_lit 343),.ref (nat_lit 344),.ref (nat_lit 345),.int (.ofNat (nat_lit 732)) (nat_lit 0),.int (.ofNat (nat_lit 201)) (nat_lit 0),.str s182 (nat_lit 733)]⟩,⟨[]⟩⟩
noncomputable def o347 (P : Params) : Obj := ⟨.type "function",none,.func (fd (sub (st 11) 30) s226 s355 (nat_lit 3) [] .none .none .none (.str s275 (nat_lit 371)) none (.ref (nat_lit 346)) .none (nat_lit 0)),⟨[]⟩⟩
noncomputable def o348 (P : Params) : Obj := ⟨.type "tuple",none,.seq ⟨[.str s356 (nat_lit 735),.str s357 (nat_lit 736)]⟩ (nat_lit 0),⟨[]⟩⟩
noncomputable def o349 (P : Params) : Obj := ⟨.type "dict",none,.dict ⟨[⟨kh P s198,.str s198 (nat_lit 486),.str s282 (nat_lit 491)⟩,⟨kh P s200,.str s200 (nat_lit 490),.int (.ofNat (nat_lit 33)) (nat_lit 489)⟩,⟨kh P s225,.str s225 (nat_lit 500),.ref (nat_lit 137)⟩,⟨kh P s283,.str s283 (nat_lit 507),.ref (nat_lit 144)⟩,⟨kh P s284,.str s284 (nat_lit 518),.ref (nat_lit 151)⟩,⟨kh P s285,.str s285 (nat_lit 526),.ref (nat_lit 159)⟩,⟨kh P s286,.str s286 (nat_lit 533),.ref (nat_lit 166)⟩,⟨kh P s287,.str s287 (nat_lit 540),.ref (nat_lit 173)⟩,⟨kh P s288,.str s288 (nat_lit 548),.ref (nat_lit 180)⟩,⟨kh P s289,.str s289 (nat_lit 555),.ref (nat_lit 187)⟩,⟨kh P s290,.str s290 (nat_lit 562),.ref (nat_lit 194)⟩,⟨kh P s291,.str s291 (nat_lit 569),.ref (nat_lit 201)⟩,⟨kh P s292,.str s292 (nat_lit 576),.ref (nat_lit 208)⟩,⟨kh P s293,.str s293 (nat_lit 583),.ref (nat_lit 215)⟩,⟨kh P s294,.str s294 (nat_lit 590),.ref (nat_lit 222)⟩,⟨kh P s295,.str s295 (nat_lit 597),.ref (nat_lit 229)⟩,⟨kh P s296,.str s296 (nat_lit 604),.ref (nat_lit 236)⟩,⟨kh P s297,.str s297 (nat_lit 611),.ref (nat_lit 243)⟩,⟨kh P s298,.str s298 (nat_lit 618),.ref (nat_lit 250)⟩,⟨kh P s299,.str s299 (nat_lit 628),.ref (nat_lit 258)⟩,⟨kh P s300,.str s300 (nat_lit 636),.ref (nat_lit 266)⟩,⟨kh P s301,.str s301 (nat_lit 648),.ref (nat_lit 274)⟩,⟨kh P s302,.str s302 (nat_lit 658),.ref (nat_lit 282)⟩,⟨kh P s303,.str s303 (nat_lit 668),.ref (nat_lit 289)⟩,⟨kh P s304,.str s304 (nat_lit 676),.ref (nat_lit 296)⟩,⟨kh P s305,.str s305 (nat_lit 686),.ref (nat_lit 304)⟩,⟨kh P s306,.str s306 (nat_lit 694),.ref (nat_lit 312)⟩,⟨kh P s307,.str s307 (nat_lit 701),.ref (nat_lit 319)⟩,⟨kh P s308,.str s308 (nat_lit 709),.ref (nat_lit 326)⟩,⟨kh P s309,.str s309 (nat_lit 719),.ref (nat_lit 333)⟩,⟨kh P s310,.str s310 (nat_lit 727),.ref (nat_lit 340)⟩,⟨kh P s226,.str s226 (nat_lit 734),.ref (nat_lit 347)⟩,⟨kh P s210,.str s210 (nat_lit 737),.ref (nat_lit 348)⟩,⟨kh P s2,.str s2 (nat_lit 738),.none⟩]⟩ (nat_lit 2),⟨[]⟩⟩
noncomputable def o350 (P : Params) : Obj := ⟨.type "type",none,.cls ⟨s252,[.ref (nat_lit 108)],[.ref (nat_lit 350),.ref (nat_lit 108),.ref (nat_lit 93),.type "object"],nat_lit 349,s252,true,[],[],false,none,false⟩,⟨[some (.ref (nat_lit 123)),none,some (.str s252 (nat_lit 479)),some (.str s252 (nat_lit 487)),some .none,some (.bool true)]⟩⟩
noncomputable def o351 (P : Params) : Obj := ⟨.type "super",none,.fields ⟨[.ref (nat_lit 350),.ref (nat_lit 350),.ref (nat_lit 350)]⟩,⟨[]⟩⟩
noncomputable def o352 (P : Params) : Obj := ⟨.type "builtin_function_or_method",none,.fields ⟨[.builtin "object.__init_subclass__",.ref (nat_lit 350)]⟩,⟨[]⟩⟩
noncomputable def o353 (P : Params) : Obj := ⟨.type "tuple",none,.seq ⟨[.ref (nat_lit 120)]⟩ (nat_lit 0),⟨[]⟩⟩
noncomputable def o354 (P : Params) : Obj := ⟨.type "builtin_function_or_method",none,.fields ⟨[.builtin "type.__prepare__",.type "type"]⟩,⟨[]⟩⟩
noncomputable def o355 (P : Params) : Obj := ⟨.type "dict",none,.dict ⟨[⟨kh P s198,.str s198 (nat_lit 748),.str s282 (nat_lit 753)⟩,⟨kh P s276,.str s276 (nat_lit 750),.str s253 (nat_lit 749)⟩,⟨kh P s200,.str s200 (nat_lit 752),.int (.ofNat (nat_lit 203)) (nat_lit 751)⟩,⟨kh P s225,.str s225 (nat_lit 765),.ref (nat_lit 367)⟩,⟨kh P s358,.str s358 (nat_lit 774),.ref (nat_lit 374)⟩,⟨kh P s359,.str s359 (nat_lit 781),.ref (nat_lit 381)⟩,⟨kh P s360,.str s360 (nat_lit 788),.ref (nat_lit 388)⟩,⟨kh P s361,.str s361 (nat_lit 803),.ref (nat_lit 395)⟩,⟨kh P s285,.str s285 (nat_lit 811),.ref (nat_lit 403)⟩,⟨kh P s362,.str s362 (nat_lit 819),.ref (nat_lit 411)⟩,⟨kh P s363,.str s363 (nat_lit 827),.ref (nat_lit 419)⟩,⟨kh P s364,.str s364 (nat_lit 835),.ref (nat_lit 427)⟩,⟨kh P s365,.str s365 (nat_lit 843),.ref (nat_lit 435)⟩,⟨kh P s286,.str s286 (nat_lit 850),.ref (nat_lit 442)⟩,⟨kh P s287,.str s287 (nat_lit 857),.ref (nat_lit 449)⟩,⟨kh P s288,.str s288 (nat_lit 865),.ref (nat_lit 456)⟩,⟨kh P s289,.str s289 (nat_lit 872),.ref (nat_lit 463)⟩,⟨kh P s290,.str s290 (nat_lit 879),.ref (nat_lit 470)⟩,⟨kh P s291,.str s291 (nat_lit 886),.ref (nat_lit 477)⟩,⟨kh P s292,.str s292 (nat_lit 893),.ref (nat_lit 484)⟩,⟨kh P s293,.str s293 (nat_lit 900),.ref (nat_lit 491)⟩,⟨kh P s294,.str s294 (nat_lit 907),.ref (nat_lit 498)⟩,⟨kh P s295,.str s295 (nat_lit 914),.ref (nat_lit 505)⟩,⟨kh P s296,.str s296 (nat_lit 921),.ref (nat_lit 512)⟩,⟨kh P s298,.str s298 (nat_lit 928),.ref (nat_lit 519)⟩,⟨kh P s299,.str s299 (nat_lit 938),.ref (nat_lit 527)⟩,⟨kh P s300,.str s300 (nat_lit 946),.ref (nat_lit 535)⟩,⟨kh P s301,.str s301 (nat_lit 958),.ref (nat_lit 543)⟩,⟨kh P s305,.str s305 (nat_lit 968),.ref (nat_lit 551)⟩,⟨kh P s306,.str s306 (nat_lit 978),.ref (nat_lit 559)⟩,⟨kh P s307,.str s307 (nat_lit 985),.ref (nat_lit 566)⟩,⟨kh P s308,.str s308 (nat_lit 993),.ref (nat_lit 573)⟩,⟨kh P s309,.str s309 (nat_lit 1005),.ref (nat_lit 580)⟩,⟨kh P s310,.str s310 (nat_lit 1013),.ref (nat_lit 587)⟩,⟨kh P s226,.str s226 (nat_lit 1020),.ref (nat_lit 594)⟩,⟨kh P s210,.str s210 (nat_lit 1024),.ref (nat_lit 595)⟩]⟩ (nat_lit 36),⟨[]⟩⟩
noncomputable def o356 (P : Params) : Obj := ⟨.type "tuple",none,.seq ⟨[]⟩ (nat_lit 0),⟨[]⟩⟩
noncomputable def o357 (P : Params) : Obj := ⟨.none,none,.fields ⟨[.int (.ofNat (nat_lit 206)) (nat_lit 0),.int (.ofNat (nat_lit 4)) (nat_lit 0),.ref (nat_lit 366),.int (.ofNat (nat_lit 219)) (nat_lit 0),.int (.ofNat (nat_lit 4)) (nat_lit 0),.ref (nat_lit 373),.int (.ofNat (nat_lit 227)) (nat_lit 0),.int (.ofNat (nat_lit 4)) (nat_lit 0),.ref (nat_lit 380),.int (.ofNat (nat_lit 231)) (nat_lit 0),.int (.ofNat (nat_lit 4)) (nat_lit 0),.ref (nat_lit 387),.int (.ofNat (nat_lit 235)) (nat_lit 0),.int (.ofNat (nat_lit 4)) (nat_lit 0),.ref (nat_lit 394),.int (.ofNat (nat_lit 268)) (nat_lit 0),.int (.ofNat (nat_lit 4)) (nat_lit 0),.ref (nat_lit 401),.int (.ofNat (nat_lit 272)) (nat_lit 0),.int (.ofNat (nat_lit 4)) (nat_lit 0),.ref (nat_lit 409),.int (.ofNat (nat_lit 276)) (nat_lit 0),.int (.ofNat (nat_lit 4)) (nat_lit 0),.ref (nat_lit 417),.int (.ofNat (nat_lit 280)) (nat_lit 0),.int (.ofNat (nat_lit 4)) (nat_lit 0),.ref (nat_lit 425),.int (.ofNat (nat_lit 284)) (nat_lit 0),.int (.ofNat (nat_lit 4)) (nat_lit 0),.ref (nat_lit 433),.int (.ofNat (nat_lit 287)) (nat_lit 0),.int (.ofNat (nat_lit 4)) (nat_lit 0),.ref (nat_lit 441),.int (.ofNat (nat_lit 290)) (nat_lit 0),.int (.ofNat (nat_lit 4)) (nat_lit 0),.ref (nat_lit 448),.int (.ofNat (nat_lit 294)) (nat_lit 0),.int (.ofNat (nat_lit 4)) (nat_lit 0),.ref (nat_lit 455),.int (.ofNat (nat_lit 297)) (nat_lit 0),.int (.ofNat (nat_lit 4)) (nat_lit 0),.ref (nat_lit 462),.int (.ofNat (nat_lit 301)) (nat_lit 0),.int (.ofNat (nat_lit 4)) (nat_lit 0),.ref (nat_lit 469),.int (.ofNat (nat_lit 305)) (nat_lit 0),.int (.ofNat (nat_lit 4)) (nat_lit 0),.ref (nat_lit 476),.int (.ofNat (nat_lit 309)) (nat_lit 0),.int (.ofNat (nat_lit 4)) (nat_lit 0),.ref (nat_lit 483),.int (.ofNat (nat_lit 313)) (nat_lit 0),.int (.ofNat (nat_lit 4)) (nat_lit 0),.ref (nat_lit 490),.int (.ofNat (nat_lit 316)) (nat_lit 0),.int (.ofNat (nat_lit 4)) (nat_lit 0),.ref (nat_lit 497),.int (.ofNat (nat_lit 319)) (nat_lit 0),.int (.ofNat (nat_lit 4)) (nat_lit 0),.ref (nat_lit 504),.int (.ofNat (nat_lit 322)) (nat_lit 0),.int (.ofNat (nat_lit 4)) (nat_lit 0),.ref (nat_lit 511),.int (.ofNat (nat_lit 325)) (nat_lit 0),.int (.ofNat (nat_lit 4)) (nat_lit 0),.ref (nat_lit 518),.int (.ofNat (nat_lit 329)) (nat_lit 0),.int (.ofNat (nat_lit 4)) (nat_lit 0),.ref (nat_lit 526),.int (.ofNat (nat_lit 346)) (nat_lit 0),.int (.ofNat (nat_lit 4)) (nat_lit 0),.ref (nat_lit 534),.int (.ofNat (nat_lit 349)) (nat_lit 0),.int (.ofNat (nat_lit 4)) (nat_lit 0),.ref (nat_lit 542),.int (.ofNat (nat_lit 363)) (nat_lit 0),.int (.ofNat (nat_lit 4)) (nat_lit 0),.ref (nat_lit 550),.int (.ofNat (nat_lit 370)) (nat_lit 0),.int (.ofNat (nat_lit 4)) (nat_lit 0),.ref (nat_lit 558),.int (.ofNat (nat_lit 373)) (nat_lit 0),.int (.ofNat (nat_lit 4)) (nat_lit 0),.ref (nat_lit 565),.int (.ofNat (nat_lit 377)) (nat_lit 0),.int (.ofNat (nat_lit 4)) (nat_lit 0),.ref (nat_lit 572),.int (.ofNat (nat_lit 384)) (nat_lit 0),.int (.ofNat (nat_lit 4)) (nat_lit 0),.ref (nat_lit 579),.int (.ofNat (nat_lit 403)) (nat_lit 0),.int (.ofNat (nat_lit 4)) (nat_lit 0),.ref (nat_lit 586),.int (.ofNat (nat_lit 406)) (nat_lit 0),.int (.ofNat (nat_lit 4)) (nat_lit 0),.ref (nat_lit 593)]⟩,⟨[]⟩⟩
noncomputable def o358 (P : Params) : Obj := ⟨.type "code",none,.fields ⟨[.str s253 (nat_lit 743),.str s253 (nat_lit 744),.str s182 (nat_lit 745),.int (.ofNat (nat_lit 203)) (nat_lit 0),.int (.ofNat (nat_lit 0)) (nat_lit 0),.int (.ofNat (nat_lit 0)) (nat_lit 0),.int (.ofNat (nat_lit 0)) (nat_lit 0),.int (.ofNat (nat_lit 0)) (nat_lit 0),.ref (nat_lit 356),.bool false,.int (.ofNat (nat_lit 318)) (nat_lit 0),.ref (nat_lit 357),.none,.none,.none,.none,.int (.ofNat (nat_lit 746)) (nat_lit 0),.int (.ofNat (nat_lit 203)) (nat_lit 0),.str s182 (nat_lit 747)]⟩,⟨[]⟩⟩
noncomputable def o359 (P : Params) : Obj := ⟨.type "frame",none,.plain,⟨[some (.ref (nat_lit 358)),some (.ref (nat_lit 3)),some (.ref (nat_lit 355)),none,some (.str s275 (nat_lit 371)),none,some (.ref (nat_lit 0))]⟩⟩
noncomputable def o360 (P : Params) : Obj := ⟨.type "tuple",none,.seq ⟨[.str s186 (nat_lit 755),.str s270 (nat_lit 756)]⟩ (nat_lit 0),⟨[]⟩⟩
noncomputable def o361 (P : Params) : Obj := ⟨.type "tuple",none,.seq ⟨[]⟩ (nat_lit 0),⟨[]⟩⟩
noncomputable def o362 (P : Params) : Obj := ⟨.none,none,.fields ⟨[]⟩,⟨[]⟩⟩
noncomputable def o363 (P : Params) : Obj := ⟨.type "tuple",none,.seq ⟨[.str s311 (nat_lit 760),.str s366 (nat_lit 761),.str s367 (nat_lit 762)]⟩ (nat_lit 0),⟨[]⟩⟩
noncomputable def o364 (P : Params) : Obj := ⟨.type "tuple",none,.seq ⟨[]⟩ (nat_lit 0),⟨[]⟩⟩
noncomputable def o365 (P : Params) : Obj := ⟨.none,none,.func (fd (sub (st 12) 1) s225 s368 (nat_lit 0) [] .none .none .none .none none .none .none (nat_lit 0)),⟨[]⟩⟩
noncomputable def o366 (P : Params) : Obj := ⟨.type "code",none,.fields ⟨[.str s225 (nat_lit 757),.str s368 (nat_lit 758),.str s182 (nat_lit 759),.int (.ofNat (nat_lit 206)) (nat_lit 0),.int (.ofNat (nat_lit 3)) (nat_lit 0),.int (.ofNat (nat_lit 0)) (nat_lit 0),.int (.ofNat (nat_lit 0)) (nat_lit 0),.int (.ofNat (nat_lit 3)) (nat_lit 0),.ref (nat_lit 361),.bool true,.int (.ofNat (nat_lit 318)) (nat_lit 0),.ref (nat_lit 362),.none,.ref (nat_lit 363),.ref (nat_lit 364),.ref (nat_lit 365),.int (.ofNat (nat_lit 763)) (nat_lit 0),.int (.ofNat (nat_lit 206)) (nat_lit 0),.str s182 (nat_lit 764)]⟩,⟨[]⟩⟩
noncomputable def o367 (P : Params) : Obj := ⟨.type "function",none,.func (fd (sub (st 12) 1) s225 s368 (nat_lit 3) [] (.ref (nat_lit 360)) .none .none (.str s275 (nat_lit 371)) none (.ref (nat_lit 366)) .none (nat_lit 0)),⟨[]⟩⟩
noncomputable def o368 (P : Params) : Obj := ⟨.type "tuple",none,.seq ⟨[]⟩ (nat_lit 0),⟨[]⟩⟩
noncomputable def o369 (P : Params) : Obj := ⟨.none,none,.fields ⟨[]⟩,⟨[]⟩⟩
noncomputable def o370 (P : Params) : Obj := ⟨.type "tuple",none,.seq ⟨[.str s311 (nat_lit 769),.str s369 (nat_lit 770),.str s367 (nat_lit 771)]⟩ (nat_lit 0),⟨[]⟩⟩
noncomputable def o371 (P : Params) : Obj := ⟨.type "tuple",none,.seq ⟨[]⟩ (nat_lit 0),⟨[]⟩⟩
noncomputable def o372 (P : Params) : Obj := ⟨.none,none,.func (fd (sub (st 12) 2) s370 s371 (nat_lit 0) [] .none .none .none .none none .none .none (nat_lit 0)),⟨[]⟩⟩
noncomputable def o373 (P : Params) : Obj := ⟨.type "code",none,.fields ⟨[.str s370 (nat_lit 766),.str s371 (nat_lit 767),.str s182 (nat_lit 768),.int (.ofNat (nat_lit 219)) (nat_lit 0),.int (.ofNat (nat_lit 2)) (nat_lit 0),.int (.ofNat (nat_lit 0)) (nat_lit 0),.int (.ofNat (nat_lit 0)) (nat_lit 0),.int (.ofNat (nat_lit 3)) (nat_lit 0),.ref (nat_lit 368),.bool true,.int (.ofNat (nat_lit 318)) (nat_lit 0),.ref (nat_lit 369),.none,.ref (nat_lit 370),.ref (nat_lit 371),.ref (nat_lit 372),.int (.ofNat (nat_lit 772)) (nat_lit 0),.int (.ofNat (nat_lit 219)) (nat_lit 0),.str s182 (nat_lit 773)]⟩,⟨[]⟩⟩
noncomputable def o374 (P : Params) : Obj := ⟨.type "function",none,.func (fd (sub (st 12) 2) s370 s371 (nat_lit 3) [] .none .none .none (.str s275 (nat_lit 371)) none (.ref (nat_lit 373)) .none (nat_lit 0)),⟨[]⟩⟩
noncomputable def o375 (P : Params) : Obj := ⟨.type "tuple",none,.seq ⟨[]⟩ (nat_lit 0),⟨[]⟩⟩
noncomputable def o376 (P : Params) : Obj := ⟨.none,none,.fields ⟨[]⟩,⟨[]⟩⟩
noncomputable def o377 (P : Params) : Obj := ⟨.type "tuple",none,.seq ⟨[.str s311 (nat_lit 778)]⟩ (nat_lit 0),⟨[]⟩⟩
noncomputable def o378 (P : Params) : Obj := ⟨.type "tuple",none,.seq ⟨[]⟩ (nat_lit 0),⟨[]⟩⟩
noncomputable def o379 (P : Params) : Obj := ⟨.none,none,.func (fd (sub (st 12) 3) s314 s372 (nat_lit 0) [] .none .none .none .none none .none .none (nat_lit 0)),⟨[]⟩⟩
noncomputable def o380 (P : Params) : Obj := ⟨.type "code",none,.fields ⟨[.str s314 (nat_lit 775),.str s372 (nat_lit 776),.str s182 (nat_lit 777),.int (.ofNat (nat_lit 227)) (nat_lit 0),.int (.ofNat (nat_lit 1)) (nat_lit 0),.int (.ofNat (nat_lit 0)) (nat_lit 0),.int (.ofNat (nat_lit 0)) (nat_lit 0),.int (.ofNat (nat_lit 3)) (nat_lit 0),.ref (nat_lit 375),.bool true,.int (.ofNat (nat_lit 318)) (nat_lit 0),.ref (nat_lit 376),.none,.ref (nat_lit 377),.ref (nat_lit 378),.ref (nat_lit 379),.int (.ofNat (nat_lit 779)) (nat_lit 0),.int (.ofNat (nat_lit 227)) (nat_lit 0),.str s182 (nat_lit 780)]⟩,⟨[]⟩⟩
noncomputable def o381 (P : Params) : Obj := ⟨.type "function",none,.func (fd (sub (st 12) 3) s314 s372 (nat_lit 3) [] .none .none .none (.str s275 (nat_lit 371)) none (.ref (nat_lit 380)) .none (nat_lit 0)),⟨[]⟩⟩
noncomputable def o382 (P : Params) : Obj := ⟨.type "tuple",none,.seq ⟨[]⟩ (nat_lit 0),⟨[]⟩⟩
noncomputable def o383 (P : Params) : Obj := ⟨.none,none,.fields ⟨[]⟩,⟨[]⟩⟩
noncomputable def o384 (P : Params) : Obj := ⟨.type "tuple",none,.seq ⟨[.str s311 (nat_lit 785)]⟩ (nat_lit 0),⟨[]⟩⟩
noncomputable def o385 (P : Params) : Obj := ⟨.type "tuple",none,.seq ⟨[]⟩ (nat_lit 0),⟨[]⟩⟩
noncomputable def o386 (P : Params) : Obj := ⟨.none,none,.func (fd (sub (st 12) 4) s373 s374 (nat_lit 0) [] .none .none .none .none none .none .none (nat_lit 0)),⟨[]⟩⟩
noncomputable def o387 (P : Params) : Obj := ⟨.type "code",none,.fields ⟨[.str s373 (nat_lit 782),.str s374 (nat_lit 783),.str s182 (nat_lit 784),.int (.ofNat (nat_lit 231)) (nat_lit 0),.int (.ofNat (nat_lit 1)) (nat_lit 0),.int (.ofNat (nat_lit 0)) (nat_lit 0),.int (.ofNat (nat_lit 0)) (nat_lit 0),.int (.ofNat (nat_lit 3)) (nat_lit 0),.ref (nat_lit 382),.bool true,.int (.ofNat (nat_lit 318)) (nat_lit 0),.ref (nat_lit 383),.none,.ref (nat_lit 384),.ref (nat_lit 385),.ref (nat_lit 386),.int (.ofNat (nat_lit 786)) (nat_lit 0),.int (.ofNat (nat_lit 231)) (nat_lit 0),.str s182 (nat_lit 787)]⟩,⟨[]⟩⟩
noncomputable def o388 (P : Params) : Obj := ⟨.type "function",none,.func (fd (sub (st 12) 4) s373 s374 (nat_lit 3) [] .none .none .none (.str s275 (nat_lit 371)) none (.ref (nat_lit 387)) .none (nat_lit 0)),⟨[]⟩⟩
noncomputable def o389 (P : Params) : Obj := ⟨.type "tuple",none,.seq ⟨[]⟩ (nat_lit 0),⟨[]⟩⟩
noncomputable def o390 (P : Params) : Obj := ⟨.none,none,.fields ⟨[]⟩,⟨[]⟩⟩
noncomputable def o391 (P : Params) : Obj := ⟨.type "tuple",none,.seq ⟨[.str s311 (nat_lit 792),.str s316 (nat_lit 793),.str s317 (nat_lit 794),.str s318 (nat_lit 795),.str s375 (nat_lit 796),.str s367 (nat_lit 797),.str s319 (nat_lit 798),.str s376 (nat_lit 799),.str s377 (nat_lit 800)]⟩ (nat_lit 0),⟨[]⟩⟩
noncomputable def o392 (P : Params) : Obj := ⟨.type "tuple",none,.seq ⟨[]⟩ (nat_lit 0),⟨[]⟩⟩
noncomputable def o393 (P : Params) : Obj := ⟨.none,none,.func (fd (sub (st 12) 5) s320 s378 (nat_lit 0) [] .none .none .none .none none .none .none (nat_lit 0)),⟨[]⟩⟩
noncomputable def o394 (P : Params) : Obj := ⟨.type "code",none,.fields ⟨[.str s320 (nat_lit 789),.str s378 (nat_lit 790),.str s182 (nat_lit 791),.int (.ofNat (nat_lit 235)) (nat_lit 0),.int (.ofNat (nat_lit 2)) (nat_lit 0),.int (.ofNat (nat_lit 0)) (nat_lit 0),.int (.ofNat (nat_lit 0)) (nat_lit 0),.int (.ofNat (nat_lit 3)) (nat_lit 0),.ref (nat_lit 389),.bool true,.int (.ofNat (nat_lit 318)) (nat_lit 0),.ref (nat_lit 390),.none,.ref (nat_lit 391),.ref (nat_lit 392),.ref (nat_lit 393),.int (.ofNat (nat_lit 801)) (nat_lit 0),.int (.ofNat (nat_lit 235)) (nat_lit 0),.str s182 (nat_lit 802)]⟩,⟨[]⟩⟩
noncomputable def o395 (P : Params) : Obj := ⟨.type "function",none,.func (fd (sub (st 12) 5) s320 s378 (nat_lit 3) [] .none .none .none (.str s275 (nat_lit 371)) none (.ref (nat_lit 394)) .none (nat_lit 0)),⟨[]⟩⟩
noncomputable def o396 (P : Params) : Obj := ⟨.type "tuple",none,.seq ⟨[]⟩ (nat_lit 0),⟨[]⟩⟩
noncomputable def o397 (P : Params) : Obj := ⟨.none,none,.fields ⟨[]⟩,⟨[]⟩⟩
noncomputable def o398 (P : Params) : Obj := ⟨.type "tuple",none,.seq ⟨[.str s311 (nat_lit 807)]⟩ (nat_lit 0),⟨[]⟩⟩
noncomputable def o399 (P : Params) : Obj := ⟨.type "tuple",none,.seq ⟨[]⟩ (nat_lit 0),⟨[]⟩⟩
noncomputable def o400 (P : Params) : Obj := ⟨.none,none,.func (fd (sub (st 12) 6) s285 s379 (nat_lit 0) [] .none .none .none .none none .none .none (nat_lit 0)),⟨[]⟩⟩
noncomputable def o401 (P : Params) : Obj := ⟨.type "code",none,.fields ⟨[.str s285 (nat_lit 804),.str s379 (nat_lit 805),.str s182 (nat_lit 806),.int (.ofNat (nat_lit 267)) (nat_lit 0),.int (.ofNat (nat_lit 1)) (nat_lit 0),.int (.ofNat (nat_lit 0)) (nat_lit 0),.int (.ofNat (nat_lit 0)) (nat_lit 0),.int (.ofNat (nat_lit 3)) (nat_lit 0),.ref (nat_lit 396),.bool true,.int (.ofNat (nat_lit 318)) (nat_lit 0),.ref (nat_lit 397),.none,.ref (nat_lit 398),.ref (nat_lit 399),.ref (nat_lit 400),.int (.ofNat (nat_lit 808)) (nat_lit 0),.int (.ofNat (nat_lit 267)) (nat_lit 0),.str s182 (nat_lit 809)]⟩,⟨[]⟩⟩
noncomputable def o402 (P : Params) : Obj := ⟨.type "function",none,.func (fd (sub (st 12) 6) s285 s379 (nat_lit 3) [] .none .none .none (.str s275 (nat_lit 371)) none (.ref (nat_lit 401)) .none (nat_lit 0)),⟨[]⟩⟩
noncomputable def o403 (P : Params) : Obj := ⟨.type "property",none,.fields ⟨[.ref (nat_lit 402),.none,.none,.none,.str s285 (nat_lit 811),.bool false]⟩,⟨[]⟩⟩
noncomputable def o404 (P : Params) : Obj := ⟨.type "tuple",none,.seq ⟨[]⟩ (nat_lit 0),⟨[]⟩⟩
noncomputable def o405 (P : Params) : Obj := ⟨.none,none,.fields ⟨[]⟩,⟨[]⟩⟩
noncomputable def o406 (P : Params) : Obj := ⟨.type "tuple",none,.seq ⟨[.str s311 (nat_lit 815)]⟩ (nat_lit 0),⟨[]⟩⟩
noncomputable def o407 (P : Params) : Obj := ⟨.type "tuple",none,.seq ⟨[]⟩ (nat_lit 0),⟨[]⟩⟩
noncomputable def o408 (P : Params) : Obj := ⟨.none,none,.func (fd (sub (st 12) 7) s362 s380 (nat_lit 0) [] .none .none .none .none none .none .none (nat_lit 0)),⟨[]⟩⟩
noncomputable def o409 (P : Params) : Obj := ⟨.type "code",none,.fields ⟨[.str s362 (nat_lit 812),.str s380 (nat_lit 813),.str s182 (nat_lit 814),.int (.ofNat (nat_lit 271)) (nat_lit 0),.int (.ofNat (nat_lit 1)) (nat_lit 0),.int (.ofNat (nat_lit 0)) (nat_lit 0),.int (.ofNat (nat_lit 0)) (nat_lit 0),.int (.ofNat (nat_lit 3)) (nat_lit 0),.ref (nat_lit 404),.bool true,.int (.ofNat (nat_lit 318)) (nat_lit 0),.ref (nat_lit 405),.none,.ref (nat_lit 406),.ref (nat_lit 407),.ref (nat_lit 408),.int (.ofNat (nat_lit 816)) (nat_lit 0),.int (.ofNat (nat_lit 271)) (nat_lit 0),.str s182 (nat_lit 817)]⟩,⟨[]⟩⟩
noncomputable def o410 (P : Params) : Obj := ⟨.type "function",none,.func (fd (sub (st 12) 7) s362 s380 (nat_lit 3) [] .none .none .none (.str s275 (nat_lit 371)) none (.ref (nat_lit 409)) .none (nat_lit 0)),⟨[]⟩⟩
noncomputable def o411 (P : Params) : Obj := ⟨.type "property",none,.fields ⟨[.ref (nat_lit 410),.none,.none,.none,.str s362 (nat_lit 819),.bool false]⟩,⟨[]⟩⟩
noncomputable def o412 (P : Params) : Obj := ⟨.type "tuple",none,.seq ⟨[]⟩ (nat_lit 0),⟨[]⟩⟩
noncomputable def o413 (P : Params) : Obj := ⟨.none,none,.fields ⟨[]⟩,⟨[]⟩⟩
noncomputable def o414 (P : Params) : Obj := ⟨.type "tuple",none,.seq ⟨[.str s311 (nat_lit 823)]⟩ (nat_lit 0),⟨[]⟩⟩
noncomputable def o415 (P : Params) : Obj := ⟨.type "tuple",none,.seq ⟨[]⟩ (nat_lit 0),⟨[]⟩⟩
noncomputable def o416 (P : Params) : Obj := ⟨.none,none,.func (fd (sub (st 12) 8) s363 s381 (nat_lit 0) [] .none .none .none .none none .none .none (nat_lit 0)),⟨[]⟩⟩
noncomputable def o417 (P : Params) : Obj := ⟨.type "code",none,.fields ⟨[.str s363 (nat_lit 820),.str s381 (nat_lit 821),.str s182 (nat_lit 822),.int (.ofNat (nat_lit 275)) (nat_lit 0),.int (.ofNat (nat_lit 1)) (nat_lit 0),.int (.ofNat (nat_lit 0)) (nat_lit 0),.int (.ofNat (nat_lit 0)) (nat_lit 0),.int (.ofNat (nat_lit 3)) (nat_lit 0),.ref (nat_lit 412),.bool true,.int (.ofNat (nat_lit 318)) (nat_lit 0),.ref (nat_lit 413),.none,.ref (nat_lit 414),.ref (nat_lit 415),.ref (nat_lit 416),.int (.ofNat (nat_lit 824)) (nat_lit 0),.int (.ofNat (nat_lit 275)) (nat_lit 0),.str s182 (nat_lit 825)]⟩,⟨[]⟩⟩
noncomputable def o418 (P : Params) : Obj := ⟨.type "function",none,.func (fd (sub (st 12) 8) s363 s381 (nat_lit 3) [] .none .none .none (.str s275 (nat_lit 371)) none (.ref (nat_lit 417)) .none (nat_lit 0)),⟨[]⟩⟩
noncomputable def o419 (P : Params) : Obj := ⟨.type "property",none,.fields ⟨[.ref (nat_lit 418),.none,.none,.none,.str s363 (nat_lit 827),.bool false]⟩,⟨[]⟩⟩
noncomputable def o420 (P : Params) : Obj := ⟨.type "tuple",none,.seq ⟨[]⟩ (nat_lit 0),⟨[]⟩⟩
noncomputable def o421 (P : Params) : Obj := ⟨.none,none,.fields ⟨[]⟩,⟨[]⟩⟩
noncomputable def o422 (P : Params) : Obj := ⟨.type "tuple",none,.seq ⟨[.str s311 (nat_lit 831)]⟩ (nat_lit 0),⟨[]⟩⟩
noncomputable def o423 (P : Params) : Obj := ⟨.type "tuple",none,.seq ⟨[]⟩ (nat_lit 0),⟨[]⟩⟩
noncomputable def o424 (P : Params) : Obj := ⟨.none,none,.func (fd (sub (st 12) 9) s364 s382 (nat_lit 0) [] .none .none .none .none none .none .none (nat_lit 0)),⟨[]⟩⟩
noncomputable def o425 (P : Params) : Obj := ⟨.type "code",none,.fields ⟨[.str s364 (nat_lit 828),.str s382 (nat_lit 829),.str s182 (nat_lit 830),.int (.ofNat (nat_lit 279)) (nat_lit 0),.int (.ofNat (nat_lit 1)) (nat_lit 0),.int (.ofNat (nat_lit 0)) (nat_lit 0),.int (.ofNat (nat_lit 0)) (nat_lit 0),.int (.ofNat (nat_lit 3)) (nat_lit 0),.ref (nat_lit 420),.bool true,.int (.ofNat (nat_lit 318)) (nat_lit 0),.ref (nat_lit 421),.none,.ref (nat_lit 422),.ref (nat_lit 423),.ref (nat_lit 424),.int (.ofNat (nat_lit 832)) (nat_lit 0),.int (.ofNat (nat_lit 279)) (nat_lit 0),.str s182 (nat_lit 833)]⟩,⟨[]⟩⟩
noncomputable def o426 (P : Params) : Obj := ⟨.type "function",none,.func (fd (sub (st 12) 9) s364 s382 (nat_lit 3) [] .none .none .none (.str s275 (nat_lit 371)) none (.ref (nat_lit 425)) .none (nat_lit 0)),⟨[]⟩⟩
noncomputable def o427 (P : Params) : Obj := ⟨.type "property",none,.fields ⟨[.ref (nat_lit 426),.none,.none,.none,.str s364 (nat_lit 835),.bool false]⟩,⟨[]⟩⟩
noncomputable def o428 (P : Params) : Obj := ⟨.type "tuple",none,.seq ⟨[]⟩ (nat_lit 0),⟨[]⟩⟩
noncomputable def o429 (P : Params) : Obj := ⟨.none,none,.fields ⟨[]⟩,⟨[]⟩⟩
noncomputable def o430 (P : Params) : Obj := ⟨.type "tuple",none,.seq ⟨[.str s311 (nat_lit 839)]⟩ (nat_lit 0),⟨[]⟩⟩
noncomputable def o431 (P : Params) : Obj := ⟨.type "tuple",none,.seq ⟨[]⟩ (nat_lit 0),⟨[]⟩⟩
noncomputable def o432 (P : Params) : Obj := ⟨.none,none,.func (fd (sub (st 12) 10) s365 s383 (nat_lit 0) [] .none .none .none .none none .none .none (nat_lit 0)),⟨[]⟩⟩
noncomputable def o433 (P : Params) : Obj := ⟨.type "code",none,.fields ⟨[.str s365 (nat_lit 836),.str s383 (nat_lit 837),.str s182 (nat_lit 838),.int (.ofNat (nat_lit 283)) (nat_lit 0),.int (.ofNat (nat_lit 1)) (nat_lit 0),.int (.ofNat (nat_lit 0)) (nat_lit 0),.int (.ofNat (nat_lit 0)) (nat_lit 0),.int (.ofNat (nat_lit 3)) (nat_lit 0),.ref (nat_lit 428),.bool true,.int (.ofNat (nat_lit 318)) (nat_lit 0),.ref (nat_lit 429),.none,.ref (nat_lit 430),.ref (nat_lit 431),.ref (nat_lit 432),.int (.ofNat (nat_lit 840)) (nat_lit 0),.int (.ofNat (nat_lit 283)) (nat_lit 0),.str s182 (nat_lit 841)]⟩,⟨[]⟩⟩
noncomputable def o434 (P : Params) : Obj := ⟨.type "function",none,.func (fd (sub (st 12) 10) s365 s383 (nat_lit 3) [] .none .none .none (.str s275 (nat_lit 371)) none (.ref (nat_lit 433)) .none (nat_lit 0)),⟨[]⟩⟩
noncomputable def o435 (P : Params) : Obj := ⟨.type "property",none,.fields ⟨[.ref (nat_lit 434),.none,.none,.none,.str s365 (nat_lit 843),.bool false]⟩,⟨[]⟩⟩
noncomputable def o436 (P : Params) : Obj := ⟨.type "tuple",none,.seq ⟨[]⟩ (nat_lit 0),⟨[]⟩⟩
noncomputable def o437 (P : Params) : Obj := ⟨.none,none,.fields ⟨[]⟩,⟨[]⟩⟩
noncomputable def o438 (P : Params) : Obj := ⟨.type "tuple",none,.seq ⟨[.str s311 (nat_lit 847)]⟩ (nat_lit 0),⟨[]⟩⟩
noncomputable def o439 (P : Params) : Obj := ⟨.type "tuple",none,.seq ⟨[]⟩ (nat_lit 0),⟨[]⟩⟩
noncomputable def o440 (P : Params) : Obj := ⟨.none,none,.func (fd (sub (st 12) 11) s286 s384 (nat_lit 0) [] .none .none .none .none none .none .none (nat_lit 0)),⟨[]⟩⟩
noncomputable def o441 (P : Params) : Obj := ⟨.type "code",none,.fields ⟨[.str s286 (nat_lit 844),.str s384 (nat_lit 845),.str s182 (nat_lit 846),.int (.ofNat (nat_lit 287)) (nat_lit 0),.int (.ofNat (nat_lit 1)) (nat_lit 0),.int (.ofNat (nat_lit 0)) (nat_lit 0),.int (.ofNat (nat_lit 0)) (nat_lit 0),.int (.ofNat (nat_lit 3)) (nat_lit 0),.ref (nat_lit 436),.bool true,.int (.ofNat (nat_lit 318)) (nat_lit 0),.ref (nat_lit 437),.none,.ref (nat_lit 438),.ref (nat_lit 439),.ref (nat_lit 440),.int (.ofNat (nat_lit 848)) (nat_lit 0),.int (.ofNat (nat_lit 287)) (nat_lit 0),.str s182 (nat_lit 849)]⟩,⟨[]⟩⟩
noncomputable def o442 (P : Params) : Obj := ⟨.type "function",none,.func (fd (sub (st 12) 11) s286 s384 (nat_lit 3) [] .none .none .none (.str s275 (nat_lit 371)) none (.ref (nat_lit 441)) .none (nat_lit 0)),⟨[]⟩⟩
noncomputable def o443 (P : Params) : Obj := ⟨.type "tuple",none,.seq ⟨[]⟩ (nat_lit 0),⟨[]⟩⟩
noncomputable def o444 (P : Params) : Obj := ⟨.none,none,.fields ⟨[]⟩,⟨[]⟩⟩
noncomputable def o445 (P : Params) : Obj := ⟨.type "tuple",none,.seq ⟨[.str s311 (nat_lit 854)]⟩ (nat_lit 0),⟨[]⟩⟩
noncomputable def o446 (P : Params) : Obj := ⟨.type "tuple",none,.seq ⟨[]⟩ (nat_lit 0),⟨[]⟩⟩
noncomputable def o447 (P : Params) : Obj := ⟨.none,none,.func (fd (sub (st 12) 12) s287 s385 (nat_lit 0) [] .none .none .none .none none .none .none (nat_lit 0)),⟨[]⟩⟩
noncomputable def o448 (P : Params) : Obj := ⟨.type "code",none,.fields ⟨[.str s287 (nat_lit 851),.str s385 (nat_lit 852),.str s182 (nat_lit 853),.int (.ofNat (nat_lit 290)) (nat_lit 0),.int (.ofNat (nat_lit 1)) (nat_lit 0),.int (.ofNat (nat_lit 0)) (nat_lit 0),.int (.ofNat (nat_lit 0)) (nat_lit 0),.int (.ofNat (nat_lit 3)) (nat_lit 0),.ref (nat_lit 443),.bool true,.int (.ofNat (nat_lit 318)) (nat_lit 0),.ref (nat_lit 444),.none,.ref (nat_lit 445),.ref (nat_lit 446),.ref (nat_lit 447),.int (.ofNat (nat_lit 855)) (nat_lit 0),.int (.ofNat (nat_lit 290)) (nat_lit 0),.str s182 (nat_lit 856)]⟩,⟨[]⟩⟩
noncomputable def o449 (P : Params) : Obj := ⟨.type "function",none,.func (fd (sub (st 12) 12) s287 s385 (nat_lit 3) [] .none .none .none (.str s275 (nat_lit 371)) none (.ref (nat_lit 448)) .none (nat_lit 0)),⟨[]⟩⟩
noncomputable def o450 (P : Params) : Obj := ⟨.type "tuple",none,.seq ⟨[]⟩ (nat_lit 0),⟨[]⟩⟩
noncomputable def o451 (P : Params) : Obj := ⟨.none,none,.fields ⟨[]⟩,⟨[]⟩⟩
noncomputable def o452 (P : Params) : Obj := ⟨.type "tuple",none,.seq ⟨[.str s311 (nat_lit 861),.str s279 (nat_lit 862)]⟩ (nat_lit 0),⟨[]⟩⟩
noncomputable def o453 (P : Params) : Obj := ⟨.type "tuple",none,.seq ⟨[]⟩ (nat_lit 0),⟨[]⟩⟩
noncomputable def o454 (P : Params) : Obj := ⟨.none,none,.func (fd (sub (st 12) 13) s288 s386 (nat_lit 0) [] .none .none .none .none none .none .none (nat_lit 0)),⟨[]⟩⟩
noncomputable def o455 (P : Params) : Obj := ⟨.type "code",none,.fields ⟨[.str s288 (nat_lit 858),.str s386 (nat_lit 859),.str s182 (nat_lit 860),.int (.ofNat (nat_lit 294)) (nat_lit 0),.int (.ofNat (nat_lit 1)) (nat_lit 0),.int (.ofNat (nat_lit 0)) (nat_lit 0),.int (.ofNat (nat_lit 0)) (nat_lit 0),.int (.ofNat (nat_lit 7)) (nat_lit 0),.ref (nat_lit 450),.bool true,.int (.ofNat (nat_lit 318)) (nat_lit 0),.ref (nat_lit 451),.none,.ref (nat_lit 452),.ref (nat_lit 453),.ref (nat_lit 454),.int (.ofNat (nat_lit 863)) (nat_lit 0),.int (.ofNat (nat_lit 294)) (nat_lit 0),.str s182 (nat_lit 864)]⟩,⟨[]⟩⟩
noncomputable def o456 (P : Params) : Obj := ⟨.type "function",none,.func (fd (sub (st 12) 13) s288 s386 (nat_lit 3) [] .none .none .none (.str s275 (nat_lit 371)) none (.ref (nat_lit 455)) .none (nat_lit 0)),⟨[]⟩⟩
noncomputable def o457 (P : Params) : Obj := ⟨.type "tuple",none,.seq ⟨[]⟩ (nat_lit 0),⟨[]⟩⟩
noncomputable def o458 (P : Params) : Obj := ⟨.none,none,.fields ⟨[]⟩,⟨[]⟩⟩
noncomputable def o459 (P : Params) : Obj := ⟨.type "tuple",none,.seq ⟨[.str s311 (nat_lit 869)]⟩ (nat_lit 0),⟨[]⟩⟩
noncomputable def o460 (P : Params) : Obj := ⟨.type "tuple",none,.seq ⟨[]⟩ (nat_lit 0),⟨[]⟩⟩
noncomputable def o461 (P : Params) : Obj := ⟨.none,none,.func (fd (sub (st 12) 14) s289 s387 (nat_lit 0) [] .none .none .none .none none .none .none (nat_lit 0)),⟨[]⟩⟩
noncomputable def o462 (P : Params) : Obj := ⟨.type "code",none,.fields ⟨[.str s289 (nat_lit 866),.str s387 (nat_lit 867),.str s182 (nat_lit 868),.int (.ofNat (nat_lit 297)) (nat_lit 0),.int (.ofNat (nat_lit 1)) (nat_lit 0),.int (.ofNat (nat_lit 0)) (nat_lit 0),.int (.ofNat (nat_lit 0)) (nat_lit 0),.int (.ofNat (nat_lit 3)) (nat_lit 0),.ref (nat_lit 457),.bool true,.int (.ofNat (nat_lit 318)) (nat_lit 0),.ref (nat_lit 458),.none,.ref (nat_lit 459),.ref (nat_lit 460),.ref (nat_lit 461),.int (.ofNat (nat_lit 870)) (nat_lit 0),.int (.ofNat (nat_lit 297)) (nat_lit 0),.str s182 (nat_lit 871)]⟩,⟨[]⟩⟩
noncomputable def o463 (P : Params) : Obj := ⟨.type "function",none,.func (fd (sub (st 12) 14) s289 s387 (nat_lit 3) [] .none .none .none (.str s275 (nat_lit 371)) none (.ref (nat_lit 462)) .none (nat_lit 0)),⟨[]⟩⟩
noncomputable def o464 (P : Params) : Obj := ⟨.type "tuple",none,.seq ⟨[]⟩ (nat_lit 0),⟨[]⟩⟩
noncomputable def o465 (P : Params) : Obj := ⟨.none,none,.fields ⟨[]⟩,⟨[]⟩⟩
noncomputable def o466 (P : Params) : Obj := ⟨.type "tuple",none,.seq ⟨[.str s311 (nat_lit 876)]⟩ (nat_lit 0),⟨[]⟩⟩
noncomputable def o467 (P : Params) : Obj := ⟨.type "tuple",none,.seq ⟨[]⟩ (nat_lit 0),⟨[]⟩⟩
noncomputable def o468 (P : Params) : Obj := ⟨.none,none,.func (fd (sub (st 12) 15) s290 s388 (nat_lit 0) [] .none .none .none .none none .none .none (nat_lit 0)),⟨[]⟩⟩
noncomputable def o469 (P : Params) : Obj := ⟨.type "code",none,.fields ⟨[.str s290 (nat_lit 873),.str s388 (nat_lit 874),.str s182 (nat_lit 875),.int (.ofNat (nat_lit 301)) (nat_lit 0),.int (.ofNat (nat_lit 1)) (nat_lit 0),.int (.ofNat (nat_lit 0)) (nat_lit 0),.int (.ofNat (nat_lit 0)) (nat_lit 0),.int (.ofNat (nat_lit 3)) (nat_lit 0),.ref (nat_lit 464),.bool true,.int (.ofNat (nat_lit 318)) (nat_lit 0),.ref (nat_lit 465),.none,.ref (nat_lit 466),.ref (nat_lit 467),.ref (nat_lit 468),.int (.ofNat (nat_lit 877)) (nat_lit 0),.int (.ofNat (nat_lit 301)) (nat_lit 0),.str s182 (nat_lit 878)]⟩,⟨[]⟩⟩
noncomputable def o470 (P : Params) : Obj := ⟨.type "function",none,.func (fd (sub (st 12) 15) s290 s388 (nat_lit 3) [] .none .none .none (.str s275 (nat_lit 371)) none (.ref (nat_lit 469)) .none (nat_lit 0)),⟨[]⟩⟩
noncomputable def o471 (P : Params) : Obj := ⟨.type "tuple",none,.seq ⟨[]⟩ (nat_lit 0),⟨[]⟩⟩
noncomputable def o472 (P : Params) : Obj := ⟨.none,none,.fields ⟨[]⟩,⟨[]⟩⟩
noncomputable def o473 (P : Params) : Obj := ⟨.type "tuple",none,.seq ⟨[.str s311 (nat_lit 883)]⟩ (nat_lit 0),⟨[]⟩⟩
noncomputable def o474 (P : Params) : Obj := ⟨.type "tuple",none,.seq ⟨[]⟩ (nat_lit 0),⟨[]⟩⟩
noncomputable def o475 (P : Params) : Obj := ⟨.none,none,.func (fd (sub (st 12) 16) s291 s389 (nat_lit 0) [] .none .none .none .none none .none .none (nat_lit 0)),⟨[]⟩⟩
noncomputable def o476 (P : Params) : Obj := ⟨.type "code",none,.fields ⟨[.str s291 (nat_lit 880),.str s389 (nat_lit 881),.str s182 (nat_lit 882),.int (.ofNat (nat_lit 305)) (nat_lit 0),.int (.ofNat (nat_lit 1)) (nat_lit 0),.int (.ofNat (nat_lit 0)) (nat_lit 0),.int (.ofNat (nat_lit 0)) (nat_lit 0),.int (.ofNat (nat_lit 3)) (nat_lit 0),.ref (nat_lit 471),.bool true,.int (.ofNat (nat_lit 318)) (nat_lit 0),.ref (nat_lit 472),.none,.ref (nat_lit 473),.ref (nat_lit 474),.ref (nat_lit 475),.int (.ofNat (nat_lit 884)) (nat_lit 0),.int (.ofNat (nat_lit 305)) (nat_lit 0),.str s182 (nat_lit 885)]⟩,⟨[]⟩⟩
noncomputable def o477 (P : Params) : Obj := ⟨.type "function",none,.func (fd (sub (st 12) 16) s291 s389 (nat_lit 3) [] .none .none .none (.str s275 (nat_lit 371)) none (.ref (nat_lit 476)) .none (nat_lit 0)),⟨[]⟩⟩
noncomputable def o478 (P : Params) : Obj := ⟨.type "tuple",none,.seq ⟨[]⟩ (nat_lit 0),⟨[]⟩⟩
noncomputable def o479 (P : Params) : Obj := ⟨.none,none,.fields ⟨[]⟩,⟨[]⟩⟩
noncomputable def o480 (P : Params) : Obj := ⟨.type "tuple",none,.seq ⟨[.str s311 (nat_lit 890)]⟩ (nat_lit 0),⟨[]⟩⟩
noncomputable def o481 (P : Params) : Obj := ⟨.type "tuple",none,.seq ⟨[]⟩ (nat_lit 0),⟨[]⟩⟩
noncomputable def o482 (P : Params) : Obj := ⟨.none,none,.func (fd (sub (st 12) 17) s292 s390 (nat_lit 0) [] .none .none .none .none none .none .none (nat_lit 0)),⟨[]⟩⟩
noncomputable def o483 (P : Params) : Obj := ⟨.type "code",none,.fields ⟨[.str s292 (nat_lit 887),.str s390 (nat_lit 888),.str s182 (nat_lit 889),.int (.ofNat (nat_lit 309)) (nat_lit 0),.int (.ofNat (nat_lit 1)) (nat_lit 0),.int (.ofNat (nat_lit 0)) (nat_lit 0),.int (.ofNat (nat_lit 0)) (nat_lit 0),.int (.ofNat (nat_lit 3)) (nat_lit 0),.ref (nat_lit 478),.bool true,.int (.ofNat (nat_lit 318)) (nat_lit 0),.ref (nat_lit 479),.none,.ref (nat_lit 480),.ref (nat_lit 481),.ref (nat_lit 482),.int (.ofNat (nat_lit 891)) (nat_lit 0),.int (.ofNat (nat_lit 309)) (nat_lit 0),.str s182 (nat_lit 892)]⟩,⟨[]⟩⟩
noncomputable def o484 (P : Params) : Obj := ⟨.type "function",none,.func (fd (sub (st 12) 17) s292 s390 (nat_lit 3) [] .none .none .none (.str s275 (nat_lit 371)) none (.ref (nat_lit 483)) .none (nat_lit 0)),⟨[]⟩⟩
noncomputable def o485 (P : Params) : Obj := ⟨.type "tuple",none,.seq ⟨[]⟩ (nat_lit 0),⟨[]⟩⟩
noncomputable def o486 (P : Params) : Obj := ⟨.none,none,.fields ⟨[]⟩,⟨[]⟩⟩
noncomputable def o487 (P : Params) : Obj := ⟨.type "tuple",none,.seq ⟨[.str s311 (nat_lit 897)]⟩ (nat_lit 0),⟨[]⟩⟩
noncomputable def o488 (P : Params) : Obj := ⟨.type "tuple",none,.seq ⟨[]⟩ (nat_lit 0),⟨[]⟩⟩
noncomputable def o489 (P : Params) : Obj := ⟨.none,none,.func (fd (sub (st 12) 18) s293 s391 (nat_lit 0) [] .none .none .none .none none .none .none (nat_lit 0)),⟨[]⟩⟩
noncomputable def o490 (P : Params) : Obj := ⟨.type "code",none,.fields ⟨[.str s293 (nat_lit 894),.str s391 (nat_lit 895),.str s182 (nat_lit 896),.int (.ofNat (nat_lit 313)) (nat_lit 0),.int (.ofNat (nat_lit 1)) (nat_lit 0),.int (.ofNat (nat_lit 0)) (nat_lit 0),.int (.ofNat (nat_lit 0)) (nat_lit 0),.int (.ofNat (nat_lit 3)) (nat_lit 0),.ref (nat_lit 485),.bool true,.int (.ofNat (nat_lit 318)) (nat_lit 0),.ref (nat_lit 486),.none,.ref (nat_lit 487),.ref (nat_lit 488),.ref (nat_lit 489),.int (.ofNat (nat_lit 898)) (nat_lit 0),.int (.ofNat (nat_lit 313)) (nat_lit 0),.str s182 (nat_lit 899)]⟩,⟨[]⟩⟩
noncomputable def o491 (P : Params) : Obj := ⟨.type "function",none,.func (fd (sub (st 12) 18) s293 s391 (nat_lit 3) [] .none .none .none (.str s275 (nat_lit 371)) none (.ref (nat_lit 490)) .none (nat_lit 0)),⟨[]⟩⟩
noncomputable def o492 (P : Params) : Obj := ⟨.type "tuple",none,.seq ⟨[]⟩ (nat_lit 0),⟨[]⟩⟩
noncomputable def o493 (P : Params) : Obj := ⟨.none,none,.fields ⟨[]⟩,⟨[]⟩⟩
noncomputable def o494 (P : Params) : Obj := ⟨.type "tuple",none,.seq ⟨[.str s311 (nat_lit 904)]⟩ (nat_lit 0),⟨[]⟩⟩
noncomputable def o495 (P : Params) : Obj := ⟨.type "tuple",none,.seq ⟨[]⟩ (nat_lit 0),⟨[]⟩⟩
noncomputable def o496 (P : Params) : Obj := ⟨.none,none,.func (fd (sub (st 12) 19) s294 s392 (nat_lit 0) [] .none .none .none .none none .none .none (nat_lit 0)),⟨[]⟩⟩
noncomputable def o497 (P : Params) : Obj := ⟨.type "code",none,.fields ⟨[.str s294 (nat_lit 901),.str s392 (nat_lit 902),.str s182 (nat_lit 903),.int (.ofNat (nat_lit 316)) (nat_lit 0),.int (.ofNat (nat_lit 1)) (nat_lit 0),.int (.ofNat (nat_lit 0)) (nat_lit 0),.int (.ofNat (nat_lit 0)) (nat_lit 0),.int (.ofNat (nat_lit 3)) (nat_lit 0),.ref (nat_lit 492),.bool true,.int (.ofNat (nat_lit 318)) (nat_lit 0),.ref (nat_lit 493),.none,.ref (nat_lit 494),.ref (nat_lit 495),.ref (nat_lit 496),.int (.ofNat (nat_lit 905)) (nat_lit 0),.int (.ofNat (nat_lit 316)) (nat_lit 0),.str s182 (nat_lit 906)]⟩,⟨[]⟩⟩
noncomputable def o498 (P : Params) : Obj := ⟨.type "function",none,.func (fd (sub (st 12) 19) s294 s392 (nat_lit 3) [] .none .none .none (.str s275 (nat_lit 371)) none (.ref (nat_lit 497)) .none (nat_lit 0)),⟨[]⟩⟩
noncomputable def o499 (P : Params) : Obj := ⟨.type "tuple",none,.seq ⟨[]⟩ (nat_lit 0),⟨[]⟩⟩
noncomputable def o500 (P : Params) : Obj := ⟨.none,none,.fields ⟨[]⟩,⟨[]⟩⟩
noncomputable def o501 (P : Params) : Obj := ⟨.type "tuple",none,.seq ⟨[.str s311 (nat_lit 911)]⟩ (nat_lit 0),⟨[]⟩⟩
noncomputable def o502 (P : Params) : Obj := ⟨.type "tuple",none,.seq ⟨[]⟩ (nat_lit 0),⟨[]⟩⟩
noncomputable def o503 (P : Params) : Obj := ⟨.none,none,.func (fd (sub (st 12) 20) s295 s393 (nat_lit 0) [] .none .none .none .none none .none .none (nat_lit 0)),⟨[]⟩⟩
noncomputable def o504 (P : Params) : Obj := ⟨.type "code",none,.fields ⟨[.str s295 (nat_lit 908),.str s393 (nat_lit 909),.str s182 (nat_lit 910),.int (.ofNat (nat_lit 319)) (nat_lit 0),.int (.ofNat (nat_lit 1)) (nat_lit 0),.int (.ofNat (nat_lit 0)) (nat_lit 0),.int (.ofNat (nat_lit 0)) (nat_lit 0),.int (.ofNat (nat_lit 3)) (nat_lit 0),.ref (nat_lit 499),.bool true,.int (.ofNat (nat_lit 318)) (nat_lit 0),.ref (nat_lit 500),.none,.ref (nat_lit 501),.ref (nat_lit 502),.ref (nat_lit 503),.int (.ofNat (nat_lit 912)) (nat_lit 0),.int (.ofNat (nat_lit 319)) (nat_lit 0),.str s182 (nat_lit 913)]⟩,⟨[]⟩⟩
noncomputable def o505 (P : Params) : Obj := ⟨.type "function",none,.func (fd (sub (st 12) 20) s295 s393 (nat_lit 3) [] .none .none .none (.str s275 (nat_lit 371)) none (.ref (nat_lit 504)) .none (nat_lit 0)),⟨[]⟩⟩
noncomputable def o506 (P : Params) : Obj := ⟨.type "tuple",none,.seq ⟨[]⟩ (nat_lit 0),⟨[]⟩⟩
noncomputable def o507 (P : Params) : Obj := ⟨.none,none,.fields ⟨[]⟩,⟨[]⟩⟩
noncomputable def o508 (P : Params) : Obj := ⟨.type "tuple",none,.seq ⟨[.str s311 (nat_lit 918)]⟩ (nat_lit 0),⟨[]⟩⟩
noncomputable def o509 (P : Params) : Obj := ⟨.type "tuple",none,.seq ⟨[]⟩ (nat_lit 0),⟨[]⟩⟩
noncomputable def o510 (P : Params) : Obj := ⟨.none,none,.func (fd (sub (st 12) 21) s296 s394 (nat_lit 0) [] .none .none .none .none none .none .none (nat_lit 0)),⟨[]⟩⟩
noncomputable def o511 (P : Params) : Obj := ⟨.type "code",none,.fields ⟨[.str s296 (nat_lit 915),.str s394 (nat_lit 916),.str s182 (nat_lit 917),.int (.ofNat (nat_lit 322)) (nat_lit 0),.int (.ofNat (nat_lit 1)) (nat_lit 0),.int (.ofNat (nat_lit 0)) (nat_lit 0),.int (.ofNat (nat_lit 0)) (nat_lit 0),.int (.ofNat (nat_lit 3)) (nat_lit 0),.ref (nat_lit 506),.bool true,.int (.ofNat (nat_lit 318)) (nat_lit 0),.ref (nat_lit 507),.none,.ref (nat_lit 508),.ref (nat_lit 509),.ref (nat_lit 510),.int (.ofNat (nat_lit 919)) (nat_lit 0),.int (.ofNat (nat_lit 322)) (nat_lit 0),.str s182 (nat_lit 920)]⟩,⟨[]⟩⟩
noncomputable def o512 (P : Params) : Obj := ⟨.type "function",none,.func (fd (sub (st 12) 21) s296 s394 (nat_lit 3) [] .none .none .none (.str s275 (nat_lit 371)) none (.ref (nat_lit 511)) .none (nat_lit 0)),⟨[]⟩⟩
noncomputable def o513 (P : Params) : Obj := ⟨.type "tuple",none,.seq ⟨[]⟩ (nat_lit 0),⟨[]⟩⟩
noncomputable def o514 (P : Params) : Obj := ⟨.none,none,.fields ⟨[]⟩,⟨[]⟩⟩
noncomputable def o515 (P : Params) : Obj := ⟨.type "tuple",none,.seq ⟨[.str s311 (nat_lit 925)]⟩ (nat_lit 0),⟨[]⟩⟩
noncomputable def o516 (P : Params) : Obj := ⟨.type "tuple",none,.seq ⟨[]⟩ (nat_lit 0),⟨[]⟩⟩
noncomputable def o517 (P : Params) : Obj := ⟨.none,none,.func (fd (sub (st 12) 22) s298 s395 (nat_lit 0) [] .none .none .none .none none .none .none (nat_lit 0)),⟨[]⟩⟩
noncomputable def o518 (P : Params) : Obj := ⟨.type "code",none,.fields ⟨[.str s298 (nat_lit 922),.str s395 (nat_lit 923),.str s182 (nat_lit 924),.int (.ofNat (nat_lit 325)) (nat_lit 0),.int (.ofNat (nat_lit 1)) (nat_lit 0),.int (.ofNat (nat_lit 0)) (nat_lit 0),.int (.ofNat (nat_lit 0)) (nat_lit 0),.int (.ofNat (nat_lit 3)) (nat_lit 0),.ref (nat_lit 513),.bool true,.int (.ofNat (nat_lit 318)) (nat_lit 0),.ref (nat_lit 514),.none,.ref (nat_lit 515),.ref (nat_lit 516),.ref (nat_lit 517),.int (.ofNat (nat_lit 926)) (nat_lit 0),.int (.ofNat (nat_lit 325)) (nat_lit 0),.str s182 (nat_lit 927)]⟩,⟨[]⟩⟩
noncomputable def o519 (P : Params) : Obj := ⟨.type "function",none,.func (fd (sub (st 12) 22) s298 s395 (nat_lit 3) [] .none .none .none (.str s275 (nat_lit 371)) none (.ref (nat_lit 518)) .none (nat_lit 0)),⟨[]⟩⟩
noncomputable def o520 (P : Params) : Obj := ⟨.type "tuple",none,.seq ⟨[.int (.ofNat (nat_lit 0)) (nat_lit 929)]⟩ (nat_lit 0),⟨[]⟩⟩
noncomputable def o521 (P : Params) : Obj := ⟨.type "tuple",none,.seq ⟨[]⟩ (nat_lit 0),⟨[]⟩⟩
noncomputable def o522 (P : Params) : Obj := ⟨.none,none,.fields ⟨[]⟩,⟨[]⟩⟩
noncomputable def o523 (P : Params) : Obj := ⟨.type "tuple",none,.seq ⟨[.str s311 (nat_lit 933),.str s336 (nat_lit 934),.str s337 (nat_lit 935)]⟩ (nat_lit 0),⟨[]⟩⟩
noncomputable def o524 (P : Params) : Obj := ⟨.type "tuple",none,.seq ⟨[]⟩ (nat_lit 0),⟨[]⟩⟩
noncomputable def o525 (P : Params) : Obj := ⟨.none,none,.func (fd (sub (st 12) 23) s299 s396 (nat_lit 0) [] .none .none .none .none none .none .none (nat_lit 0)),⟨[]⟩⟩
noncomputable def o526 (P : Params) : Obj := ⟨.type "code",none,.fields ⟨[.str s299 (nat_lit 930),.str s396 (nat_lit 931),.str s182 (nat_lit 932),.int (.ofNat (nat_lit 329)) (nat_lit 0),.int (.ofNat (nat_lit 3)) (nat_lit 0),.int (.ofNat (nat_lit 3)) (nat_lit 0),.int (.ofNat (nat_lit 0)) (nat_lit 0),.int (.ofNat (nat_lit 3)) (nat_lit 0),.ref (nat_lit 521),.bool true,.int (.ofNat (nat_lit 318)) (nat_lit 0),.ref (nat_lit 522),.none,.ref (nat_lit 523),.ref (nat_lit 524),.ref (nat_lit 525),.int (.ofNat (nat_lit 936)) (nat_lit 0),.int (.ofNat (nat_lit 329)) (nat_lit 0),.str s182 (nat_lit 937)]⟩,⟨[]⟩⟩
noncomputable def o527 (P : Params) : Obj := ⟨.type "function",none,.func (fd (sub (st 12) 23) s299 s396 (nat_lit 3) [] (.ref (nat_lit 520)) .none .none (.str s275 (nat_lit 371)) none (.ref (nat_lit 526)) .none (nat_lit 0)),⟨[]⟩⟩
noncomputable def o528 (P : Params) : Obj := ⟨.type "tuple",none,.seq ⟨[.none]⟩ (nat_lit 0),⟨[]⟩⟩
noncomputable def o529 (P : Params) : Obj := ⟨.type "tuple",none,.seq ⟨[]⟩ (nat_lit 0),⟨[]⟩⟩
noncomputable def o530 (P : Params) : Obj := ⟨.none,none,.fields ⟨[]⟩,⟨[]⟩⟩
noncomputable def o531 (P : Params) : Obj := ⟨.type "tuple",none,.seq ⟨[.str s311 (nat_lit 942),.str s336 (nat_lit 943)]⟩ (nat_lit 0),⟨[]⟩⟩
noncomputable def o532 (P : Params) : Obj := ⟨.type "tuple",none,.seq ⟨[]⟩ (nat_lit 0),⟨[]⟩⟩
noncomputable def o533 (P : Params) : Obj := ⟨.none,none,.func (fd (sub (st 12) 24) s300 s397 (nat_lit 0) [] .none .none .none .none none .none .none (nat_lit 0)),⟨[]⟩⟩
noncomputable def o534 (P : Params) : Obj := ⟨.type "code",none,.fields ⟨[.str s300 (nat_lit 939),.str s397 (nat_lit 940),.str s182 (nat_lit 941),.int (.ofNat (nat_lit 346)) (nat_lit 0),.int (.ofNat (nat_lit 2)) (nat_lit 0),.int (.ofNat (nat_lit 2)) (nat_lit 0),.int (.ofNat (nat_lit 0)) (nat_lit 0),.int (.ofNat (nat_lit 3)) (nat_lit 0),.ref (nat_lit 529),.bool true,.int (.ofNat (nat_lit 318)) (nat_lit 0),.ref (nat_lit 530),.none,.ref (nat_lit 531),.ref (nat_lit 532),.ref (nat_lit 533),.int (.ofNat (nat_lit 944)) (nat_lit 0),.int (.ofNat (nat_lit 346)) (nat_lit 0),.str s182 (nat_lit 945)]⟩,⟨[]⟩⟩
noncomputable def o535 (P : Params) : Obj := ⟨.type "function",none,.func (fd (sub (st 12) 24) s300 s397 (nat_lit 3) [] (.ref (nat_lit 528)) .none .none (.str s275 (nat_lit 371)) none (.ref (nat_lit 534)) .none (nat_lit 0)),⟨[]⟩⟩
noncomputable def o536 (P : Params) : Obj := ⟨.type "tuple",none,.seq ⟨[.int (.negSucc (nat_lit 0)) (nat_lit 948)]⟩ (nat_lit 0),⟨[]⟩⟩
noncomputable def o537 (P : Params) : Obj := ⟨.type "tuple",none,.seq ⟨[]⟩ (nat_lit 0),⟨[]⟩⟩
noncomputable def o538 (P : Params) : Obj := ⟨.none,none,.fields ⟨[]⟩,⟨[]⟩⟩
noncomputable def o539 (P : Params) : Obj := ⟨.type "tuple",none,.seq ⟨[.str s311 (nat_lit 952),.str s339 (nat_lit 953),.str s317 (nat_lit 954),.str s318 (nat_lit 955)]⟩ (nat_lit 0),⟨[]⟩⟩
noncomputable def o540 (P : Params) : Obj := ⟨.type "tuple",none,.seq ⟨[]⟩ (nat_lit 0),⟨[]⟩⟩
noncomputable def o541 (P : Params) : Obj := ⟨.none,none,.func (fd (sub (st 12) 25) s301 s398 (nat_lit 0) [] .none .none .none .none none .none .none (nat_lit 0)),⟨[]⟩⟩
noncomputable def o542 (P : Params) : Obj := ⟨.type "code",none,.fields ⟨[.str s301 (nat_lit 949),.str s398 (nat_lit 950),.str s182 (nat_lit 951),.int (.ofNat (nat_lit 349)) (nat_lit 0),.int (.ofNat (nat_lit 2)) (nat_lit 0),.int (.ofNat (nat_lit 2)) (nat_lit 0),.int (.ofNat (nat_lit 0)) (nat_lit 0),.int (.ofNat (nat_lit 3)) (nat_lit 0),.ref (nat_lit 537),.bool true,.int (.ofNat (nat_lit 318)) (nat_lit 0),.ref (nat_lit 538),.none,.ref (nat_lit 539),.ref (nat_lit 540),.ref (nat_lit 541),.int (.ofNat (nat_lit 956)) (nat_lit 0),.int (.ofNat (nat_lit 349)) (nat_lit 0),.str s182 (nat_lit 957)]⟩,⟨[]⟩⟩
noncomputable def o543 (P : Params) : Obj := ⟨.type "function",none,.func (fd (sub (st 12) 25) s301 s398 (nat_lit 3) [] (.ref (nat_lit 536)) .none .none (.str s275 (nat_lit 371)) none (.ref (nat_lit 542)) .none (nat_lit 0)),⟨[]⟩⟩
noncomputable def o544 (P : Params) : Obj := ⟨.type "tuple",none,.seq ⟨[.int (.negSucc (nat_lit 0)) (nat_lit 960)]⟩ (nat_lit 0),⟨[]⟩⟩
noncomputable def o545 (P : Params) : Obj := ⟨.type "tuple",none,.seq ⟨[]⟩ (nat_lit 0),⟨[]⟩⟩
noncomputable def o546 (P : Params) : Obj := ⟨.none,none,.fields ⟨[]⟩,⟨[]⟩⟩
noncomputable def o547 (P : Params) : Obj := ⟨.type "tuple",none,.seq ⟨[.str s311 (nat_lit 964),.str s339 (nat_lit 965)]⟩ (nat_lit 0),⟨[]⟩⟩
noncomputable def o548 (P : Params) : Obj := ⟨.type "tuple",none,.seq ⟨[]⟩ (nat_lit 0),⟨[]⟩⟩
noncomputable def o549 (P : Params) : Obj := ⟨.none,none,.func (fd (sub (st 12) 26) s305 s399 (nat_lit 0) [] .none .none .none .none none .none .none (nat_lit 0)),⟨[]⟩⟩
noncomputable def o550 (P : Params) : Obj := ⟨.type "code",none,.fields ⟨[.str s305 (nat_lit 961),.str s399 (nat_lit 962),.str s182 (nat_lit 963),.int (.ofNat (nat_lit 363)) (nat_lit 0),.int (.ofNat (nat_lit 2)) (nat_lit 0),.int (.ofNat (nat_lit 2)) (nat_lit 0),.int (.ofNat (nat_lit 0)) (nat_lit 0),.int (.ofNat (nat_lit 3)) (nat_lit 0),.ref (nat_lit 545),.bool true,.int (.ofNat (nat_lit 318)) (nat_lit 0),.ref (nat_lit 546),.none,.ref (nat_lit 547),.ref (nat_lit 548),.ref (nat_lit 549),.int (.ofNat (nat_lit 966)) (nat_lit 0),.int (.ofNat (nat_lit 363)) (nat_lit 0),.str s182 (nat_lit 967)]⟩,⟨[]⟩⟩
noncomputable def o551 (P : Params) : Obj := ⟨.type "function",none,.func (fd (sub (st 12) 26) s305 s399 (nat_lit 3) [] (.ref (nat_lit 544)) .none .none (.str s275 (nat_lit 371)) none (.ref (nat_lit 550)) .none (nat_lit 0)),⟨[]⟩⟩
noncomputable def o552 (P : Params) : Obj := ⟨.type "tuple",none,.seq ⟨[.int (.negSucc (nat_lit 0)) (nat_lit 970)]⟩ (nat_lit 0),⟨[]⟩⟩
noncomputable def o553 (P : Params) : Obj := ⟨.type "tuple",none,.seq ⟨[]⟩ (nat_lit 0),⟨[]⟩⟩
noncomputable def o554 (P : Params) : Obj := ⟨.none,none,.fields ⟨[]⟩,⟨[]⟩⟩
noncomputable def o555 (P : Params) : Obj := ⟨.type "tuple",none,.seq ⟨[.str s311 (nat_lit 974),.str s400 (nat_lit 975)]⟩ (nat_lit 0),⟨[]⟩⟩
noncomputable def o556 (P : Params) : Obj := ⟨.type "tuple",none,.seq ⟨[]⟩ (nat_lit 0),⟨[]⟩⟩
noncomputable def o557 (P : Params) : Obj := ⟨.none,none,.func (fd (sub (st 12) 27) s306 s401 (nat_lit 0) [] .none .none .none .none none .none .none (nat_lit 0)),⟨[]⟩⟩
noncomputable def o558 (P : Params) : Obj := ⟨.type "code",none,.fields ⟨[.str s306 (nat_lit 971),.str s401 (nat_lit 972),.str s182 (nat_lit 973),.int (.ofNat (nat_lit 370)) (nat_lit 0),.int (.ofNat (nat_lit 2)) (nat_lit 0),.int (.ofNat (nat_lit 2)) (nat_lit 0),.int (.ofNat (nat_lit 0)) (nat_lit 0),.int (.ofNat (nat_lit 3)) (nat_lit 0),.ref (nat_lit 553),.bool true,.int (.ofNat (nat_lit 318)) (nat_lit 0),.ref (nat_lit 554),.none,.ref (nat_lit 555),.ref (nat_lit 556),.ref (nat_lit 557),.int (.ofNat (nat_lit 976)) (nat_lit 0),.int (.ofNat (nat_lit 370)) (nat_lit 0),.str s182 (nat_lit 977)]⟩,⟨[]⟩⟩
noncomputable def o559 (P : Params) : Obj := ⟨.type "function",none,.func (fd (sub (st 12) 27) s306 s401 (nat_lit 3) [] (.ref (nat_lit 552)) .none .none (.str s275 (nat_lit 371)) none (.ref (nat_lit 558)) .none (nat_lit 0)),⟨[]⟩⟩
noncomputable def o560 (P : Params) : Obj := ⟨.type "tuple",none,.seq ⟨[]⟩ (nat_lit 0),⟨[]⟩⟩
noncomputable def o561 (P : Params) : Obj := ⟨.none,none,.fields ⟨[]⟩,⟨[]⟩⟩
noncomputable def o562 (P : Params) : Obj := ⟨.type "tuple",none,.seq ⟨[.str s311 (nat_lit 982)]⟩ (nat_lit 0),⟨[]⟩⟩
noncomputable def o563 (P : Params) : Obj := ⟨.type "tuple",none,.seq ⟨[]⟩ (nat_lit 0),⟨[]⟩⟩
noncomputable def o564 (P : Params) : Obj := ⟨.none,none,.func (fd (sub (st 12) 28) s307 s402 (nat_lit 0) [] .none .none .none .none none .none .none (nat_lit 0)),⟨[]⟩⟩
noncomputable def o565 (P : Params) : Obj := ⟨.type "code",none,.fields ⟨[.str s307 (nat_lit 979),.str s402 (nat_lit 980),.str s182 (nat_lit 981),.int (.ofNat (nat_lit 373)) (nat_lit 0),.int (.ofNat (nat_lit 1)) (nat_lit 0),.int (.ofNat (nat_lit 0)) (nat_lit 0),.int (.ofNat (nat_lit 0)) (nat_lit 0),.int (.ofNat (nat_lit 3)) (nat_lit 0),.ref (nat_lit 560),.bool true,.int (.ofNat (nat_lit 318)) (nat_lit 0),.ref (nat_lit 561),.none,.ref (nat_lit 562),.ref (nat_lit 563),.ref (nat_lit 564),.int (.ofNat (nat_lit 983)) (nat_lit 0),.int (.ofNat (nat_lit 373)) (nat_lit 0),.str s182 (nat_lit 984)]⟩,⟨[]⟩⟩
noncomputable def o566 (P : Params) : Obj := ⟨.type "function",none,.func (fd (sub (st 12) 28) s307 s402 (nat_lit 3) [] .none .none .none (.str s275 (nat_lit 371)) none (.ref (nat_lit 565)) .none (nat_lit 0)),⟨[]⟩⟩
noncomputable def o567 (P : Params) : Obj := ⟨.type "tuple",none,.seq ⟨[]⟩ (nat_lit 0),⟨[]⟩⟩
noncomputable def o568 (P : Params) : Obj := ⟨.none,none,.fields ⟨[]⟩,⟨[]⟩⟩
noncomputable def o569 (P : Params) : Obj := ⟨.type "tuple",none,.seq ⟨[.str s311 (nat_lit 989),.str s349 (nat_lit 990)]⟩ (nat_lit 0),⟨[]⟩⟩
noncomputable def o570 (P : Params) : Obj := ⟨.type "tuple",none,.seq ⟨[]⟩ (nat_lit 0),⟨[]⟩⟩
noncomputable def o571 (P : Params) : Obj := ⟨.none,none,.func (fd (sub (st 12) 29) s308 s403 (nat_lit 0) [] .none .none .none .none none .none .none (nat_lit 0)),⟨[]⟩⟩
noncomputable def o572 (P : Params) : Obj := ⟨.type "code",none,.fields ⟨[.str s308 (nat_lit 986),.str s403 (nat_lit 987),.str s182 (nat_lit 988),.int (.ofNat (nat_lit 377)) (nat_lit 0),.int (.ofNat (nat_lit 1)) (nat_lit 0),.int (.ofNat (nat_lit 0)) (nat_lit 0),.int (.ofNat (nat_lit 0)) (nat_lit 0),.int (.ofNat (nat_lit 3)) (nat_lit 0),.ref (nat_lit 567),.bool true,.int (.ofNat (nat_lit 318)) (nat_lit 0),.ref (nat_lit 568),.none,.ref (nat_lit 569),.ref (nat_lit 570),.ref (nat_lit 571),.int (.ofNat (nat_lit 991)) (nat_lit 0),.int (.ofNat (nat_lit 377)) (nat_lit 0),.str s182 (nat_lit 992)]⟩,⟨[]⟩⟩
noncomputable def o573 (P : Params) : Obj := ⟨.type "function",none,.func (fd (sub (st 12) 29) s308 s403 (nat_lit 3) [] .none .none .none (.str s275 (nat_lit 371)) none (.ref (nat_lit 572)) .none (nat_lit 0)),⟨[]⟩⟩
noncomputable def o574 (P : Params) : Obj := ⟨.type "tuple",none,.seq ⟨[]⟩ (nat_lit 0),⟨[]⟩⟩
noncomputable def o575 (P : Params) : Obj := ⟨.none,none,.fields ⟨[]⟩,⟨[]⟩⟩
noncomputable def o576 (P : Params) : Obj := ⟨.type "tuple",none,.seq ⟨[.str s311 (nat_lit 997),.str s369 (nat_lit 998),.str s273 (nat_lit 999),.str s404 (nat_lit 1000),.str s317 (nat_lit 1001),.str s405 (nat_lit 1002)]⟩ (nat_lit 0),⟨[]⟩⟩
noncomputable def o577 (P : Params) : Obj := ⟨.type "tuple",none,.seq ⟨[]⟩ (nat_lit 0),⟨[]⟩⟩
noncomputable def o578 (P : Params) : Obj := ⟨.none,none,.func (fd (sub (st 12) 30) s309 s406 (nat_lit 0) [] .none .none .none .none none .none .none (nat_lit 0)),⟨[]⟩⟩
noncomputable def o579 (P : Params) : Obj := ⟨.type "code",none,.fields ⟨[.str s309 (nat_lit 994),.str s406 (nat_lit 995),.str s182 (nat_lit 996),.int (.ofNat (nat_lit 384)) (nat_lit 0),.int (.ofNat (nat_lit 2)) (nat_lit 0),.int (.ofNat (nat_lit 2)) (nat_lit 0),.int (.ofNat (nat_lit 0)) (nat_lit 0),.int (.ofNat (nat_lit 3)) (nat_lit 0),.ref (nat_lit 574),.bool true,.int (.ofNat (nat_lit 318)) (nat_lit 0),.ref (nat_lit 575),.none,.ref (nat_lit 576),.ref (nat_lit 577),.ref (nat_lit 578),.int (.ofNat (nat_lit 1003)) (nat_lit 0),.int (.ofNat (nat_lit 384)) (nat_lit 0),.str s182 (nat_lit 1004)]⟩,⟨[]⟩⟩
noncomputable def o580 (P : Params) : Obj := ⟨.type "function",none,.func (fd (sub (st 12) 30) s309 s406 (nat_lit 3) [] .none .none .none (.str s275 (nat_lit 371)) none (.ref (nat_lit 579)) .none (nat_lit 0)),⟨[]⟩⟩
noncomputable def o581 (P : Params) : Obj := ⟨.type "tuple",none,.seq ⟨[]⟩ (nat_lit 0),⟨[]⟩⟩
noncomputable def o582 (P : Params) : Obj := ⟨.none,none,.fields ⟨[]⟩,⟨[]⟩⟩
noncomputable def o583 (P : Params) : Obj := ⟨.type "tuple",none,.seq ⟨[.str s311 (nat_lit 1009),.str s353 (nat_lit 1010)]⟩ (nat_lit 0),⟨[]⟩⟩
noncomputable def o584 (P : Params) : Obj := ⟨.type "tuple",none,.seq ⟨[]⟩ (nat_lit 0),⟨[]⟩⟩
noncomputable def o585 (P : Params) : Obj := ⟨.none,none,.func (fd (sub (st 12) 31) s310 s407 (nat_lit 0) [] .none .none .none .none none .none .none (nat_lit 0)),⟨[]⟩⟩
noncomputable def o586 (P : Params) : Obj := ⟨.type "code",none,.fields ⟨[.str s310 (nat_lit 1006),.str s407 (nat_lit 1007),.str s182 (nat_lit 1008),.int (.ofNat (nat_lit 403)) (nat_lit 0),.int (.ofNat (nat_lit 2)) (nat_lit 0),.int (.ofNat (nat_lit 2)) (nat_lit 0),.int (.ofNat (nat_lit 0)) (nat_lit 0),.int (.ofNat (nat_lit 3)) (nat_lit 0),.ref (nat_lit 581),.bool true,.int (.ofNat (nat_lit 318)) (nat_lit 0),.ref (nat_lit 582),.none,.ref (nat_lit 583),.ref (nat_lit 584),.ref (nat_lit 585),.int (.ofNat (nat_lit 1011)) (nat_lit 0),.int (.ofNat (nat_lit 403)) (nat_lit 0),.str s182 (nat_lit 1012)]⟩,⟨[]⟩⟩
noncomputable def o587 (P : Params) : Obj := ⟨.type "function",none,.func (fd (sub (st 12) 31) s310 s407 (nat_lit 3) [] .none .none .none (.str s275 (nat_lit 371)) none (.ref (nat_lit 586)) .none (nat_lit 0)),⟨[]⟩⟩
noncomputable def o588 (P : Params) : Obj := ⟨.type "tuple",none,.seq ⟨[]⟩ (nat_lit 0),⟨[]⟩⟩
noncomputable def o589 (P : Params) : Obj := ⟨.none,none,.fields ⟨[]⟩,⟨[]⟩⟩
noncomputable def o590 (P : Params) : Obj := ⟨.type "tuple",none,.seq ⟨[.str s311 (nat_lit 1017)]⟩ (nat_lit 0),⟨[]⟩⟩
noncomputable def o591 (P : Params) : Obj := ⟨.type "tuple",none,.seq ⟨[]⟩ (nat_lit 0),⟨[]⟩⟩
noncomputable def o592 (P : Params) : Obj := ⟨.none,none,.func (fd (sub (st 12) 32) s226 s408 (nat_lit 0) [] .none .none .none .none none .none .none (nat_lit 0)),⟨[]⟩⟩
noncomputable def o593 (P : Params) : Obj := ⟨.type "code",none,.fields ⟨[.str s226 (nat_lit 1014),.str s408 (nat_lit 1015),.str s182 (nat_lit 1016),.int (.ofNat (nat_lit 406)) (nat_lit 0),.int (.ofNat (nat_lit 1)) (nat_lit 0),.int (.ofNat (nat_lit 0)) (nat_lit 0),.int (.ofNat (nat_lit 0)) (nat_lit 0),.int (.ofNat (nat_lit 3)) (nat_lit 0),.ref (nat_lit 588),.bool true,.int (.ofNat (nat_lit 318)) (nat_lit 0),.ref (nat_lit 589),.none,.ref (nat_lit 590),.ref (nat_lit 591),.ref (nat_lit 592),.int (.ofNat (nat_lit 1018)) (nat_lit 0),.int (.ofNat (nat_lit 406)) (nat_lit 0),.str s182 (nat_lit 1019)]⟩,⟨[]⟩⟩
noncomputable def o594 (P : Params) : Obj := ⟨.type "function",none,.func (fd (sub (st 12) 32) s226 s408 (nat_lit 3) [] .none .none .none (.str s275 (nat_lit 371)) none (.ref (nat_lit 593)) .none (nat_lit 0)),⟨[]⟩⟩
noncomputable def o595 (P : Params) : Obj := ⟨.type "tuple",none,.seq ⟨[.str s356 (nat_lit 1021),.str s409 (nat_lit 1022),.str s357 (nat_lit 1023)]⟩ (nat_lit 0),⟨[]⟩⟩
noncomputable def o596 (P : Params) : Obj := ⟨.type "dict",none,.dict ⟨[⟨kh P s198,.str s198 (nat_lit 748),.str s282 (nat_lit 753)⟩,⟨kh P s200,.str s200 (nat_lit 752),.int (.ofNat (nat_lit 203)) (nat_lit 751)⟩,⟨kh P s225,.str s225 (nat_lit 765),.ref (nat_lit 367)⟩,⟨kh P s358,.str s358 (nat_lit 774),.ref (nat_lit 374)⟩,⟨kh P s359,.str s359 (nat_lit 781),.ref (nat_lit 381)⟩,⟨kh P s360,.str s360 (nat_lit 788),.ref (nat_lit 388)⟩,⟨kh P s361,.str s361 (nat_lit 803),.ref (nat_lit 395)⟩,⟨kh P s285,.str s285 (nat_lit 811),.ref (nat_lit 403)⟩,⟨kh P s362,.str s362 (nat_lit 819),.ref (nat_lit 411)⟩,⟨kh P s363,.str s363 (nat_lit 827),.ref (nat_lit 419)⟩,⟨kh P s364,.str s364 (nat_lit 835),.ref (nat_lit 427)⟩,⟨kh P s365,.str s365 (nat_lit 843),.ref (nat_lit 435)⟩,⟨kh P s286,.str s286 (nat_lit 850),.ref (nat_lit 442)⟩,⟨kh P s287,.str s287 (nat_lit 857),.ref (nat_lit 449)⟩,⟨kh P s288,.str s288 (nat_lit 865),.ref (nat_lit 456)⟩,⟨kh P s289,.str s289 (nat_lit 872),.ref (nat_lit 463)⟩,⟨kh P s290,.str s290 (nat_lit 879),.ref (nat_lit 470)⟩,⟨kh P s291,.str s291 (nat_lit 886),.ref (nat_lit 477)⟩,⟨kh P s292,.str s292 (nat_lit 893),.ref (nat_lit 484)⟩,⟨kh P s293,.str s293 (nat_lit 900),.ref (nat_lit 491)⟩,⟨kh P s294,.str s294 (nat_lit 907),.ref (nat_lit 498)⟩,⟨kh P s295,.str s295 (nat_lit 914),.ref (nat_lit 505)⟩,⟨kh P s296,.str s296 (nat_lit 921),.ref (nat_lit 512)⟩,⟨kh P s298,.str s298 (nat_lit 928),.ref (nat_lit 519)⟩,⟨kh P s299,.str s299 (nat_lit 938),.ref (nat_lit 527)⟩,⟨kh P s300,.str s300 (nat_lit 946),.ref (nat_lit 535)⟩,⟨kh P s301,.str s301 (nat_lit 958),.ref (nat_lit 543)⟩,⟨kh P s305,.str s305 (nat_lit 968),.ref (nat_lit 551)⟩,⟨kh P s306,.str s306 (nat_lit 978),.ref (nat_lit 559)⟩,⟨kh P s307,.str s307 (nat_lit 985),.ref (nat_lit 566)⟩,⟨kh P s308,.str s308 (nat_lit 993),.ref (nat_lit 573)⟩,⟨kh P s309,.str s309 (nat_lit 1005),.ref (nat_lit 580)⟩,⟨kh P s310,.str s310 (nat_lit 1013),.ref (nat_lit 587)⟩,⟨kh P s226,.str s226 (nat_lit 1020),.ref (nat_lit 594)⟩,⟨kh P s210,.str s210 (nat_lit 1024),.ref (nat_lit 595)⟩,⟨kh P s2,.str s2 (nat_lit 1025),.none⟩]⟩ (nat_lit 2),⟨[]⟩⟩
noncomputable def o597 (P : Params) : Obj := ⟨.type "type",none,.cls ⟨s253,[.ref (nat_lit 120)],[.ref (nat_lit 597),.ref (nat_lit 120),.ref (nat_lit 93),.type "object"],nat_lit 596,s253,true,[],[],false,none,false⟩,⟨[some (.ref (nat_lit 353)),none,some (.str s253 (nat_lit 741)),some (.str s253 (nat_lit 749)),some .none,some (.bool true)]⟩⟩
noncomputable def o598 (P : Params) : Obj := ⟨.type "super",none,.fields ⟨[.ref (nat_lit 597),.ref (nat_lit 597),.ref (nat_lit 597)]⟩,⟨[]⟩⟩
noncomputable def o599 (P : Params) : Obj := ⟨.type "builtin_function_or_method",none,.fields ⟨[.builtin "object.__init_subclass__",.ref (nat_lit 597)]⟩,⟨[]⟩⟩
noncomputable def o600 (P : Params) : Obj := ⟨.type "tuple",none,.seq ⟨[]⟩ (nat_lit 0),⟨[]⟩⟩
noncomputable def o601 (P : Params) : Obj := ⟨.none,none,.fields ⟨[]⟩,⟨[]⟩⟩
noncomputable def o602 (P : Params) : Obj := ⟨.type "tuple",none,.seq ⟨[.str s216 (nat_lit 1033),.str s410 (nat_lit 1034),.str s411 (nat_lit 1035)]⟩ (nat_lit 0),⟨[]⟩⟩
noncomputable def o603 (P : Params) : Obj := ⟨.type "tuple",none,.seq ⟨[]⟩ (nat_lit 0),⟨[]⟩⟩
noncomputable def o604 (P : Params) : Obj := ⟨.none,none,.func (fd (st 14) s254 s254 (nat_lit 0) [] .none .none .none .none none .none .none (nat_lit 0)),⟨[]⟩⟩
noncomputable def o605 (P : Params) : Obj := ⟨.type "code",none,.fields ⟨[.str s254 (nat_lit 1030),.str s254 (nat_lit 1031),.str s182 (nat_lit 1032),.int (.ofNat (nat_lit 409)) (nat_lit 0),.int (.ofNat (nat_lit 2)) (nat_lit 0),.int (.ofNat (nat_lit 0)) (nat_lit 0),.int (.ofNat (nat_lit 0)) (nat_lit 0),.int (.ofNat (nat_lit 3)) (nat_lit 0),.ref (nat_lit 600),.bool true,.int (.ofNat (nat_lit 318)) (nat_lit 0),.ref (nat_lit 601),.none,.ref (nat_lit 602),.ref (nat_lit 603),.ref (nat_lit 604),.int (.ofNat (nat_lit 1036)) (nat_lit 0),.int (.ofNat (nat_lit 409)) (nat_lit 0),.str s182 (nat_lit 1037)]⟩,⟨[]⟩⟩
noncomputable def o606 (P : Params) : Obj := ⟨.type "function",none,.func (fd (st 14) s254 s254 (nat_lit 3) [] .none .none .none (.str s412 (nat_lit 1028)) none (.ref (nat_lit 605)) .none (nat_lit 0)),⟨[]⟩⟩
noncomputable def o607 (P : Params) : Obj := ⟨.type "tuple",none,.seq ⟨[]⟩ (nat_lit 0),⟨[]⟩⟩
noncomputable def o608 (P : Params) : Obj := ⟨.none,none,.fields ⟨[]⟩,⟨[]⟩⟩
noncomputable def o609 (P : Params) : Obj := ⟨.type "tuple",none,.seq ⟨[.str s216 (nat_lit 1042),.str s410 (nat_lit 1043),.str s271 (nat_lit 1044)]⟩ (nat_lit 0),⟨[]⟩⟩
noncomputable def o610 (P : Params) : Obj := ⟨.type "tuple",none,.seq ⟨[]⟩ (nat_lit 0),⟨[]⟩⟩
noncomputable def o611 (P : Params) : Obj := ⟨.none,none,.func (fd (st 15) s255 s255 (nat_lit 0) [] .none .none .none .none none .none .none (nat_lit 0)),⟨[]⟩⟩
noncomputable def o612 (P : Params) : Obj := ⟨.type "code",none,.fields ⟨[.str s255 (nat_lit 1039),.str s255 (nat_lit 1040),.str s182 (nat_lit 1041),.int (.ofNat (nat_lit 430)) (nat_lit 0),.int (.ofNat (nat_lit 2)) (nat_lit 0),.int (.ofNat (nat_lit 0)) (nat_lit 0),.int (.ofNat (nat_lit 0)) (nat_lit 0),.int (.ofNat (nat_lit 3)) (nat_lit 0),.ref (nat_lit 607),.bool true,.int (.ofNat (nat_lit 318)) (nat_lit 0),.ref (nat_lit 608),.none,.ref (nat_lit 609),.ref (nat_lit 610),.ref (nat_lit 611),.int (.ofNat (nat_lit 1045)) (nat_lit 0),.int (.ofNat (nat_lit 430)) (nat_lit 0),.str s182 (nat_lit 1046)]⟩,⟨[]⟩⟩
noncomputable def o613 (P : Params) : Obj := ⟨.type "function",none,.func (fd (st 15) s255 s255 (nat_lit 3) [] .none .none .none (.str s412 (nat_lit 1028)) none (.ref (nat_lit 612)) .none (nat_lit 0)),⟨[]⟩⟩
noncomputable def o614 (P : Params) : Obj := ⟨.type "tuple",none,.seq ⟨[]⟩ (nat_lit 0),⟨[]⟩⟩
noncomputable def o615 (P : Params) : Obj := ⟨.none,none,.fields ⟨[]⟩,⟨[]⟩⟩
noncomputable def o616 (P : Params) : Obj := ⟨.type "tuple",none,.seq ⟨[.str s413 (nat_lit 1051),.str s279 (nat_lit 1052),.str s369 (nat_lit 1053),.str s271 (nat_lit 1054)]⟩ (nat_lit 0),⟨[]⟩⟩
noncomputable def o617 (P : Params) : Obj := ⟨.type "tuple",none,.seq ⟨[]⟩ (nat_lit 0),⟨[]⟩⟩
noncomputable def o618 (P : Params) : Obj := ⟨.none,none,.func (fd (st 16) s256 s256 (nat_lit 0) [] .none .none .none .none none .none .none (nat_lit 0)),⟨[]⟩⟩
noncomputable def o619 (P : Params) : Obj := ⟨.type "code",none,.fields ⟨[.str s256 (nat_lit 1048),.str s256 (nat_lit 1049),.str s182 (nat_lit 1050),.int (.ofNat (nat_lit 435)) (nat_lit 0),.int (.ofNat (nat_lit 1)) (nat_lit 0),.int (.ofNat (nat_lit 0)) (nat_lit 0),.int (.ofNat (nat_lit 0)) (nat_lit 0),.int (.ofNat (nat_lit 7)) (nat_lit 0),.ref (nat_lit 614),.bool true,.int (.ofNat (nat_lit 318)) (nat_lit 0),.ref (nat_lit 615),.none,.ref (nat_lit 616),.ref (nat_lit 617),.ref (nat_lit 618),.int (.ofNat (nat_lit 1055)) (nat_lit 0),.int (.ofNat (nat_lit 435)) (nat_lit 0),.str s182 (nat_lit 1056)]⟩,⟨[]⟩⟩
noncomputable def o620 (P : Params) : Obj := ⟨.type "function",none,.func (fd (st 16) s256 s256 (nat_lit 3) [] .none .none .none (.str s412 (nat_lit 1028)) none (.ref (nat_lit 619)) .none (nat_lit 0)),⟨[]⟩⟩
noncomputable def o621 (P : Params) : Obj := ⟨.type "tuple",none,.seq ⟨[]⟩ (nat_lit 0),⟨[]⟩⟩
noncomputable def o622 (P : Params) : Obj := ⟨.none,none,.fields ⟨[]⟩,⟨[]⟩⟩
noncomputable def o623 (P : Params) : Obj := ⟨.type "tuple",none,.seq ⟨[.str s369 (nat_lit 1061)]⟩ (nat_lit 0),⟨[]⟩⟩
noncomputable def o624 (P : Params) : Obj := ⟨.type "tuple",none,.seq ⟨[]⟩ (nat_lit 0),⟨[]⟩⟩
noncomputable def o625 (P : Params) : Obj := ⟨.none,none,.func (fd (st 17) s257 s257 (nat_lit 0) [] .none .none .none .none none .none .none (nat_lit 0)),⟨[]⟩⟩
noncomputable def o626 (P : Params) : Obj := ⟨.type "code",none,.fields ⟨[.str s257 (nat_lit 1058),.str s257 (nat_lit 1059),.str s182 (nat_lit 1060),.int (.ofNat (nat_lit 440)) (nat_lit 0),.int (.ofNat (nat_lit 1)) (nat_lit 0),.int (.ofNat (nat_lit 0)) (nat_lit 0),.int (.ofNat (nat_lit 0)) (nat_lit 0),.int (.ofNat (nat_lit 3)) (nat_lit 0),.ref (nat_lit 621),.bool true,.int (.ofNat (nat_lit 318)) (nat_lit 0),.ref (nat_lit 622),.none,.ref (nat_lit 623),.ref (nat_lit 624),.ref (nat_lit 625),.int (.ofNat (nat_lit 1062)) (nat_lit 0),.int (.ofNat (nat_lit 440)) (nat_lit 0),.str s182 (nat_lit 1063)]⟩,⟨[]⟩⟩
noncomputable def o627 (P : Params) : Obj := ⟨.type "function",none,.func (fd (st 17) s257 s257 (nat_lit 3) [] .none .none .none (.str s412 (nat_lit 1028)) none (.ref (nat_lit 626)) .none (nat_lit 0)),⟨[]⟩⟩
noncomputable def o628 (P : Params) : Obj := ⟨.type "tuple",none,.seq ⟨[]⟩ (nat_lit 0),⟨[]⟩⟩
noncomputable def o629 (P : Params) : Obj := ⟨.none,none,.fields ⟨[]⟩,⟨[]⟩⟩
noncomputable def o630 (P : Params) : Obj := ⟨.type "tuple",none,.seq ⟨[.str s414 (nat_lit 1068),.str s415 (nat_lit 1069),.str s351 (nat_lit 1070),.str s416 (nat_lit 1071),.str s417 (nat_lit 1072)]⟩ (nat_lit 0),⟨[]⟩⟩
noncomputable def o631 (P : Params) : Obj := ⟨.type "tuple",none,.seq ⟨[]⟩ (nat_lit 0),⟨[]⟩⟩
noncomputable def o632 (P : Params) : Obj := ⟨.none,none,.func (fd (st 18) s258 s258 (nat_lit 0) [] .none .none .none .none none .none .none (nat_lit 0)),⟨[]⟩⟩
noncomputable def o633 (P : Params) : Obj := ⟨.type "code",none,.fields ⟨[.str s258 (nat_lit 1065),.str s258 (nat_lit 1066),.str s182 (nat_lit 1067),.int (.ofNat (nat_lit 443)) (nat_lit 0),.int (.ofNat (nat_lit 1)) (nat_lit 0),.int (.ofNat (nat_lit 0)) (nat_lit 0),.int (.ofNat (nat_lit 0)) (nat_lit 0),.int (.ofNat (nat_lit 7)) (nat_lit 0),.ref (nat_lit 628),.bool true,.int (.ofNat (nat_lit 318)) (nat_lit 0),.ref (nat_lit 629),.none,.ref (nat_lit 630),.ref (nat_lit 631),.ref (nat_lit 632),.int (.ofNat (nat_lit 1073)) (nat_lit 0),.int (.ofNat (nat_lit 443)) (nat_lit 0),.str s182 (nat_lit 1074)]⟩,⟨[]⟩⟩
noncomputable def o634 (P : Params) : Obj := ⟨.type "function",none,.func (fd (st 18) s258 s258 (nat_lit 3) [] .none .none .none (.str s412 (nat_lit 1028)) none (.ref (nat_lit 633)) .none (nat_lit 0)),⟨[]⟩⟩
noncomputable def o635 (P : Params) : Obj := ⟨.type "tuple",none,.seq ⟨[]⟩ (nat_lit 0),⟨[]⟩⟩
noncomputable def o636 (P : Params) : Obj := ⟨.none,none,.fields ⟨[]⟩,⟨[]⟩⟩
noncomputable def o637 (P : Params) : Obj := ⟨.type "tuple",none,.seq ⟨[.str s415 (nat_lit 1080),.str s416 (nat_lit 1081),.str s319 (nat_lit 1082),.str s418 (nat_lit 1083)]⟩ (nat_lit 0),⟨[]⟩⟩
noncomputable def o638 (P : Params) : Obj := ⟨.type "tuple",none,.seq ⟨[]⟩ (nat_lit 0),⟨[]⟩⟩
noncomputable def o639 (P : Params) : Obj := ⟨.none,none,.func (fd (st 20) s260 s260 (nat_lit 0) [] .none .none .none .none none .none .none (nat_lit 0)),⟨[]⟩⟩
noncomputable def o640 (P : Params) : Obj := ⟨.type "code",none,.fields ⟨[.str s260 (nat_lit 1077),.str s260 (nat_lit 1078),.str s182 (nat_lit 1079),.int (.ofNat (nat_lit 464)) (nat_lit 0),.int (.ofNat (nat_lit 1)) (nat_lit 0),.int (.ofNat (nat_lit 0)) (nat_lit 0),.int (.ofNat (nat_lit 0)) (nat_lit 0),.int (.ofNat (nat_lit 3)) (nat_lit 0),.ref (nat_lit 635),.bool true,.int (.ofNat (nat_lit 318)) (nat_lit 0),.ref (nat_lit 636),.none,.ref (nat_lit 637),.ref (nat_lit 638),.ref (nat_lit 639),.int (.ofNat (nat_lit 1084)) (nat_lit 0),.int (.ofNat (nat_lit 464)) (nat_lit 0),.str s182 (nat_lit 1085)]⟩,⟨[]⟩⟩
noncomputable def o641 (P : Params) : Obj := ⟨.type "function",none,.func (fd (st 20) s260 s260 (nat_lit 3) [] .none .none .none (.str s412 (nat_lit 1028)) none (.ref (nat_lit 640)) .none (nat_lit 0)),⟨[]⟩⟩
noncomputable def o642 (P : Params) : Obj := ⟨.type "tuple",none,.seq ⟨[]⟩ (nat_lit 0),⟨[]⟩⟩
noncomputable def o643 (P : Params) : Obj := ⟨.type "builtin_function_or_method",none,.fields ⟨[.builtin "type.__prepare__",.type "type"]⟩,⟨[]⟩⟩
noncomputable def o644 (P : Params) : Obj := ⟨.type "dict",none,.dict ⟨[⟨kh P s198,.str s198 (nat_lit 1096),.str s243 (nat_lit 1087)⟩,⟨kh P s276,.str s276 (nat_lit 1098),.str s261 (nat_lit 1097)⟩,⟨kh P s200,.str s200 (nat_lit 1100),.int (.ofNat (nat_lit 473)) (nat_lit 1099)⟩,⟨kh P s225,.str s225 (nat_lit 1112),.ref (nat_lit 656)⟩,⟨kh P s419,.str s419 (nat_lit 1120),.ref (nat_lit 664)⟩,⟨kh P s420,.str s420 (nat_lit 1128),.ref (nat_lit 671)⟩,⟨kh P s421,.str s421 (nat_lit 1137),.ref (nat_lit 679)⟩,⟨kh P s422,.str s422 (nat_lit 1144),.ref (nat_lit 686)⟩,⟨kh P s423,.str s423 (nat_lit 1156),.ref (nat_lit 693)⟩,⟨kh P s424,.str s424 (nat_lit 1167),.ref (nat_lit 700)⟩,⟨kh P s425,.str s425 (nat_lit 1175),.ref (nat_lit 707)⟩,⟨kh P s426,.str s426 (nat_lit 1184),.ref (nat_lit 715)⟩,⟨kh P s307,.str s307 (nat_lit 1191),.ref (nat_lit 722)⟩,⟨kh P s308,.str s308 (nat_lit 1199),.ref (nat_lit 729)⟩,⟨kh P s210,.str s210 (nat_lit 1220),.ref (nat_lit 730)⟩]⟩ (nat_lit 15),⟨[]⟩⟩
noncomputable def o645 (P : Params) : Obj := ⟨.type "tuple",none,.seq ⟨[]⟩ (nat_lit 0),⟨[]⟩⟩
noncomputable def o646 (P : Params) : Obj := ⟨.none,none,.fields ⟨[.int (.ofNat (nat_lit 475)) (nat_lit 0),.int (.ofNat (nat_lit 4)) (nat_lit 0),.ref (nat_lit 655),.int (.ofNat (nat_lit 517)) (nat_lit 0),.int (.ofNat (nat_lit 4)) (nat_lit 0),.ref (nat_lit 662),.int (.ofNat (nat_lit 520)) (nat_lit 0),.int (.ofNat (nat_lit 4)) (nat_lit 0),.ref (nat_lit 670),.int (.ofNat (nat_lit 523)) (nat_lit 0),.int (.ofNat (nat_lit 4)) (nat_lit 0),.ref (nat_lit 678),.int (.ofNat (nat_lit 536)) (nat_lit 0),.int (.ofNat (nat_lit 4)) (nat_lit 0),.ref (nat_lit 685),.int (.ofNat (nat_lit 543)) (nat_lit 0),.int (.ofNat (nat_lit 4)) (nat_lit 0),.ref (nat_lit 692),.int (.ofNat (nat_lit 570)) (nat_lit 0),.int (.ofNat (nat_lit 4)) (nat_lit 0),.ref (nat_lit 699),.int (.ofNat (nat_lit 707)) (nat_lit 0),.int (.ofNat (nat_lit 4)) (nat_lit 0),.ref (nat_lit 706),.int (.ofNat (nat_lit 714)) (nat_lit 0),.int (.ofNat (nat_lit 4)) (nat_lit 0),.ref (nat_lit 714),.int (.ofNat (nat_lit 717)) (nat_lit 0),.int (.ofNat (nat_lit 4)) (nat_lit 0),.ref (nat_lit 721),.int (.ofNat (nat_lit 720)) (nat_lit 0),.int (.ofNat (nat_lit 4)) (nat_lit 0),.ref (nat_lit 728)]⟩,⟨[]⟩⟩
noncomputable def o647 (P : Params) : Obj := ⟨.type "code",none,.fields ⟨[.str s261 (nat_lit 1091),.str s261 (nat_lit 1092),.str s182 (nat_lit 1093),.int (.ofNat (nat_lit 473)) (nat_lit 0),.int (.ofNat (nat_lit 0)) (nat_lit 0),.int (.ofNat (nat_lit 0)) (nat_lit 0),.int (.ofNat (nat_lit 0)) (nat_lit 0),.int (.ofNat (nat_lit 0)) (nat_lit 0),.ref (nat_lit 645),.bool false,.int (.ofNat (nat_lit 318)) (nat_lit 0),.ref (nat_lit 646),.none,.none,.none,.none,.int (.ofNat (nat_lit 1094)) (nat_lit 0),.int (.ofNat (nat_lit 473)) (nat_lit 0),.str s182 (nat_lit 1095)]⟩,⟨[]⟩⟩
noncomputable def o648 (P : Params) : Obj := ⟨.type "frame",none,.plain,⟨[some (.ref (nat_lit 647)),some (.ref (nat_lit 3)),some (.ref (nat_lit 644)),none,some (.str s243 (nat_lit 1087)),none,some (.ref (nat_lit 0))]⟩⟩
noncomputable def o649 (P : Params) : Obj := ⟨.type "tuple",none,.seq ⟨[.none,.none,.bool false,.bool false]⟩ (nat_lit 0),⟨[]⟩⟩
noncomputable def o650 (P : Params) : Obj := ⟨.type "tuple",none,.seq ⟨[]⟩ (nat_lit 0),⟨[]⟩⟩
noncomputable def o651 (P : Params) : Obj := ⟨.none,none,.fields ⟨[]⟩,⟨[]⟩⟩
noncomputable def o652 (P : Params) : Obj := ⟨.type "tuple",none,.seq ⟨[.str s311 (nat_lit 1104),.str s427 (nat_lit 1105),.str s428 (nat_lit 1106),.str s429 (nat_lit 1107),.str s419 (nat_lit 1108),.str s411 (nat_lit 1109)]⟩ (nat_lit 0),⟨[]⟩⟩
noncomputable def o653 (P : Params) : Obj := ⟨.type "tuple",none,.seq ⟨[]⟩ (nat_lit 0),⟨[]⟩⟩
noncomputable def o654 (P : Params) : Obj := ⟨.none,none,.func (fd (sub (st 22) 0) s225 s430 (nat_lit 0) [] .none .none .none .none none .none .none (nat_lit 0)),⟨[]⟩⟩
noncomputable def o655 (P : Params) : Obj := ⟨.type "code",none,.fields ⟨[.str s225 (nat_lit 1101),.str s430 (nat_lit 1102),.str s182 (nat_lit 1103),.int (.ofNat (nat_lit 475)) (nat_lit 0),.int (.ofNat (nat_lit 5)) (nat_lit 0),.int (.ofNat (nat_lit 0)) (nat_lit 0),.int (.ofNat (nat_lit 0)) (nat_lit 0),.int (.ofNat (nat_lit 3)) (nat_lit 0),.ref (nat_lit 650),.bool true,.int (.ofNat (nat_lit 318)) (nat_lit 0),.ref (nat_lit 651),.none,.ref (nat_lit 652),.ref (nat_lit 653),.ref (nat_lit 654),.int (.ofNat (nat_lit 1110)) (nat_lit 0),.int (.ofNat (nat_lit 475)) (nat_lit 0),.str s182 (nat_lit 1111)]⟩,⟨[]⟩⟩
noncomputable def o656 (P : Params) : Obj := ⟨.type "function",none,.func (fd (sub (st 22) 0) s225 s430 (nat_lit 3) [] (.ref (nat_lit 649)) .none .none (.str s243 (nat_lit 1087)) none (.ref (nat_lit 655)) .none (nat_lit 0)),⟨[]⟩⟩
noncomputable def o657 (P : Params) : Obj := ⟨.type "tuple",none,.seq ⟨[]⟩ (nat_lit 0),⟨[]⟩⟩
noncomputable def o658 (P : Params) : Obj := ⟨.none,none,.fields ⟨[]⟩,⟨[]⟩⟩
noncomputable def o659 (P : Params) : Obj := ⟨.type "tuple",none,.seq ⟨[.str s311 (nat_lit 1116)]⟩ (nat_lit 0),⟨[]⟩⟩
noncomputable def o660 (P : Params) : Obj := ⟨.type "tuple",none,.seq ⟨[]⟩ (nat_lit 0),⟨[]⟩⟩
noncomputable def o661 (P : Params) : Obj := ⟨.none,none,.func (fd (sub (st 22) 1) s419 s431 (nat_lit 0) [] .none .none .none .none none .none .none (nat_lit 0)),⟨[]⟩⟩
noncomputable def o662 (P : Params) : Obj := ⟨.type "code",none,.fields ⟨[.str s419 (nat_lit 1113),.str s431 (nat_lit 1114),.str s182 (nat_lit 1115),.int (.ofNat (nat_lit 516)) (nat_lit 0),.int (.ofNat (nat_lit 1)) (nat_lit 0),.int (.ofNat (nat_lit 0)) (nat_lit 0),.int (.ofNat (nat_lit 0)) (nat_lit 0),.int (.ofNat (nat_lit 3)) (nat_lit 0),.ref (nat_lit 657),.bool true,.int (.ofNat (nat_lit 318)) (nat_lit 0),.ref (nat_lit 658),.none,.ref (nat_lit 659),.ref (nat_lit 660),.ref (nat_lit 661),.int (.ofNat (nat_lit 1117)) (nat_lit 0),.int (.ofNat (nat_lit 516)) (nat_lit 0),.str s182 (nat_lit 1118)]⟩,⟨[]⟩⟩
noncomputable def o663 (P : Params) : Obj := ⟨.type "function",none,.func (fd (sub (st 22) 1) s419 s431 (nat_lit 3) [] .none .none .none (.str s243 (nat_lit 1087)) none (.ref (nat_lit 662)) .none (nat_lit 0)),⟨[]⟩⟩
noncomputable def o664 (P : Params) : Obj := ⟨.type "property",none,.fields ⟨[.ref (nat_lit 663),.none,.none,.none,.str s419 (nat_lit 1120),.bool false]⟩,⟨[]⟩⟩
noncomputable def o665 (P : Params) : Obj := ⟨.type "tuple",none,.seq ⟨[]⟩ (nat_lit 0),⟨[]⟩⟩
noncomputable def o666 (P : Params) : Obj := ⟨.none,none,.fields ⟨[]⟩,⟨[]⟩⟩
noncomputable def o667 (P : Params) : Obj := ⟨.type "tuple",none,.seq ⟨[.str s311 (nat_lit 1124),.str s432 (nat_lit 1125)]⟩ (nat_lit 0),⟨[]⟩⟩
noncomputable def o668 (P : Params) : Obj := ⟨.type "tuple",none,.seq ⟨[]⟩ (nat_lit 0),⟨[]⟩⟩
noncomputable def o669 (P : Params) : Obj := ⟨.none,none,.func (fd (sub (st 22) 2) s420 s433 (nat_lit 0) [] .none .none .none .none none .none .none (nat_lit 0)),⟨[]⟩⟩
noncomputable def o670 (P : Params) : Obj := ⟨.type "code",none,.fields ⟨[.str s420 (nat_lit 1121),.str s433 (nat_lit 1122),.str s182 (nat_lit 1123),.int (.ofNat (nat_lit 520)) (nat_lit 0),.int (.ofNat (nat_lit 2)) (nat_lit 0),.int (.ofNat (nat_lit 0)) (nat_lit 0),.int (.ofNat (nat_lit 0)) (nat_lit 0),.int (.ofNat (nat_lit 3)) (nat_lit 0),.ref (nat_lit 665),.bool true,.int (.ofNat (nat_lit 318)) (nat_lit 0),.ref (nat_lit 666),.none,.ref (nat_lit 667),.ref (nat_lit 668),.ref (nat_lit 669),.int (.ofNat (nat_lit 1126)) (nat_lit 0),.int (.ofNat (nat_lit 520)) (nat_lit 0),.str s182 (nat_lit 1127)]⟩,⟨[]⟩⟩
noncomputable def o671 (P : Params) : Obj := ⟨.type "function",none,.func (fd (sub (st 22) 2) s420 s433 (nat_lit 3) [] .none .none .none (.str s243 (nat_lit 1087)) none (.ref (nat_lit 670)) .none (nat_lit 0)),⟨[]⟩⟩
noncomputable def o672 (P : Params) : Obj := ⟨.type "tuple",none,.seq ⟨[.none]⟩ (nat_lit 0),⟨[]⟩⟩
noncomputable def o673 (P : Params) : Obj := ⟨.type "tuple",none,.seq ⟨[]⟩ (nat_lit 0),⟨[]⟩⟩
noncomputable def o674 (P : Params) : Obj := ⟨.none,none,.fields ⟨[]⟩,⟨[]⟩⟩
noncomputable def o675 (P : Params) : Obj := ⟨.type "tuple",none,.seq ⟨[.str s311 (nat_lit 1132),.str s434 (nat_lit 1133),.str s435 (nat_lit 1134)]⟩ (nat_lit 0),⟨[]⟩⟩
noncomputable def o676 (P : Params) : Obj := ⟨.type "tuple",none,.seq ⟨[]⟩ (nat_lit 0),⟨[]⟩⟩
noncomputable def o677 (P : Params) : Obj := ⟨.none,none,.func (fd (sub (st 22) 3) s421 s436 (nat_lit 0) [] .none .none .none .none none .none .none (nat_lit 0)),⟨[]⟩⟩
noncomputable def o678 (P : Params) : Obj := ⟨.type "code",none,.fields ⟨[.str s421 (nat_lit 1129),.str s436 (nat_lit 1130),.str s182 (nat_lit 1131),.int (.ofNat (nat_lit 523)) (nat_lit 0),.int (.ofNat (nat_lit 3)) (nat_lit 0),.int (.ofNat (nat_lit 0)) (nat_lit 0),.int (.ofNat (nat_lit 0)) (nat_lit 0),.int (.ofNat (nat_lit 3)) (nat_lit 0),.ref (nat_lit 673),.bool true,.int (.ofNat (nat_lit 318)) (nat_lit 0),.ref (nat_lit 674),.none,.ref (nat_lit 675),.ref (nat_lit 676),.ref (nat_lit 677),.int (.ofNat (nat_lit 1135)) (nat_lit 0),.int (.ofNat (nat_lit 523)) (nat_lit 0),.str s182 (nat_lit 1136)]⟩,⟨[]⟩⟩
noncomputable def o679 (P : Params) : Obj := ⟨.type "function",none,.func (fd (sub (st 22) 3) s421 s436 (nat_lit 3) [] (.ref (nat_lit 672)) .none .none (.str s243 (nat_lit 1087)) none (.ref (nat_lit 678)) .none (nat_lit 0)),⟨[]⟩⟩
noncomputable def o680 (P : Params) : Obj := ⟨.type "tuple",none,.seq ⟨[]⟩ (nat_lit 0),⟨[]⟩⟩
noncomputable def o681 (P : Params) : Obj := ⟨.none,none,.fields ⟨[]⟩,⟨[]⟩⟩
noncomputable def o682 (P : Params) : Obj := ⟨.type "tuple",none,.seq ⟨[.str s311 (nat_lit 1141)]⟩ (nat_lit 0),⟨[]⟩⟩
noncomputable def o683 (P : Params) : Obj := ⟨.type "tuple",none,.seq ⟨[]⟩ (nat_lit 0),⟨[]⟩⟩
noncomputable def o684 (P : Params) : Obj := ⟨.none,none,.func (fd (sub (st 22) 4) s422 s437 (nat_lit 0) [] .none .none .none .none none .none .none (nat_lit 0)),⟨[]⟩⟩
noncomputable def o685 (P : Params) : Obj := ⟨.type "code",none,.fields ⟨[.str s422 (nat_lit 1138),.str s437 (nat_lit 1139),.str s182 (nat_lit 1140),.int (.ofNat (nat_lit 536)) (nat_lit 0),.int (.ofNat (nat_lit 1)) (nat_lit 0),.int (.ofNat (nat_lit 0)) (nat_lit 0),.int (.ofNat (nat_lit 0)) (nat_lit 0),.int (.ofNat (nat_lit 3)) (nat_lit 0),.ref (nat_lit 680),.bool true,.int (.ofNat (nat_lit 318)) (nat_lit 0),.ref (nat_lit 681),.none,.ref (nat_lit 682),.ref (nat_lit 683),.ref (nat_lit 684),.int (.ofNat (nat_lit 1142)) (nat_lit 0),.int (.ofNat (nat_lit 536)) (nat_lit 0),.str s182 (nat_lit 1143)]⟩,⟨[]⟩⟩
noncomputable def o686 (P : Params) : Obj := ⟨.type "function",none,.func (fd (sub (st 22) 4) s422 s437 (nat_lit 3) [] .none .none .none (.str s243 (nat_lit 1087)) none (.ref (nat_lit 685)) .none (nat_lit 0)),⟨[]⟩⟩
noncomputable def o687 (P : Params) : Obj := ⟨.type "tuple",none,.seq ⟨[]⟩ (nat_lit 0),⟨[]⟩⟩
noncomputable def o688 (P : Params) : Obj := ⟨.none,none,.fields ⟨[]⟩,⟨[]⟩⟩
noncomputable def o689 (P : Params) : Obj := ⟨.type "tuple",none,.seq ⟨[.str s311 (nat_lit 1148),.str s432 (nat_lit 1149),.str s438 (nat_lit 1150),.str s439 (nat_lit 1151),.str s435 (nat_lit 1152),.str s434 (nat_lit 1153)]⟩ (nat_lit 0),⟨[]⟩⟩
noncomputable def o690 (P : Params) : Obj := ⟨.type "tuple",none,.seq ⟨[]⟩ (nat_lit 0),⟨[]⟩⟩
noncomputable def o691 (P : Params) : Obj := ⟨.none,none,.func (fd (sub (st 22) 5) s423 s440 (nat_lit 0) [] .none .none .none .none none .none .none (nat_lit 0)),⟨[]⟩⟩
noncomputable def o692 (P : Params) : Obj := ⟨.type "code",none,.fields ⟨[.str s423 (nat_lit 1145),.str s440 (nat_lit 1146),.str s182 (nat_lit 1147),.int (.ofNat (nat_lit 543)) (nat_lit 0),.int (.ofNat (nat_lit 1)) (nat_lit 0),.int (.ofNat (nat_lit 0)) (nat_lit 0),.int (.ofNat (nat_lit 0)) (nat_lit 0),.int (.ofNat (nat_lit 3)) (nat_lit 0),.ref (nat_lit 687),.bool true,.int (.ofNat (nat_lit 318)) (nat_lit 0),.ref (nat_lit 688),.none,.ref (nat_lit 689),.ref (nat_lit 690),.ref (nat_lit 691),.int (.ofNat (nat_lit 1154)) (nat_lit 0),.int (.ofNat (nat_lit 543)) (nat_lit 0),.str s182 (nat_lit 1155)]⟩,⟨[]⟩⟩
noncomputable def o693 (P : Params) : Obj := ⟨.type "function",none,.func (fd (sub (st 22) 5) s423 s440 (nat_lit 3) [] .none .none .none (.str s243 (nat_lit 1087)) none (.ref (nat_lit 692)) .none (nat_lit 0)),⟨[]⟩⟩
noncomputable def o694 (P : Params) : Obj := ⟨.type "tuple",none,.seq ⟨[]⟩ (nat_lit 0),⟨[]⟩⟩
noncomputable def o695 (P : Params) : Obj := ⟨.none,none,.fields ⟨[]⟩,⟨[]⟩⟩
noncomputable def o696 (P : Params) : Obj := ⟨.type "tuple",none,.seq ⟨[.str s311 (nat_lit 1160),.str s441 (nat_lit 1161),.str s442 (nat_lit 1162),.str s443 (nat_lit 1163),.str s444 (nat_lit 1164)]⟩ (nat_lit 0),⟨[]⟩⟩
noncomputable def o697 (P : Params) : Obj := ⟨.type "tuple",none,.seq ⟨[]⟩ (nat_lit 0),⟨[]⟩⟩
noncomputable def o698 (P : Params) : Obj := ⟨.none,none,.func (fd (sub (st 22) 6) s424 s445 (nat_lit 0) [] .none .none .none .none none .none .none (nat_lit 0)),⟨[]⟩⟩
noncomputable def o699 (P : Params) : Obj := ⟨.type "code",none,.fields ⟨[.str s424 (nat_lit 1157),.str s445 (nat_lit 1158),.str s182 (nat_lit 1159),.int (.ofNat (nat_lit 570)) (nat_lit 0),.int (.ofNat (nat_lit 1)) (nat_lit 0),.int (.ofNat (nat_lit 0)) (nat_lit 0),.int (.ofNat (nat_lit 0)) (nat_lit 0),.int (.ofNat (nat_lit 3)) (nat_lit 0),.ref (nat_lit 694),.bool true,.int (.ofNat (nat_lit 318)) (nat_lit 0),.ref (nat_lit 695),.none,.ref (nat_lit 696),.ref (nat_lit 697),.ref (nat_lit 698),.int (.ofNat (nat_lit 1165)) (nat_lit 0),.int (.ofNat (nat_lit 570)) (nat_lit 0),.str s182 (nat_lit 1166)]⟩,⟨[]⟩⟩
noncomputable def o700 (P : Params) : Obj := ⟨.type "function",none,.func (fd (sub (st 22) 6) s424 s445 (nat_lit 3) [] .none .none .none (.str s243 (nat_lit 1087)) none (.ref (nat_lit 699)) .none (nat_lit 0)),⟨[]⟩⟩
noncomputable def o701 (P : Params) : Obj := ⟨.type "tuple",none,.seq ⟨[]⟩ (nat_lit 0),⟨[]⟩⟩
noncomputable def o702 (P : Params) : Obj := ⟨.none,none,.fields ⟨[]⟩,⟨[]⟩⟩
noncomputable def o703 (P : Params) : Obj := ⟨.type "tuple",none,.seq ⟨[.str s311 (nat_lit 1171),.str s435 (nat_lit 1172)]⟩ (nat_lit 0),⟨[]⟩⟩
noncomputable def o704 (P : Params) : Obj := ⟨.type "tuple",none,.seq ⟨[]⟩ (nat_lit 0),⟨[]⟩⟩
noncomputable def o705 (P : Params) : Obj := ⟨.none,none,.func (fd (sub (st 22) 7) s425 s446 (nat_lit 0) [] .none .none .none .none none .none .none (nat_lit 0)),⟨[]⟩⟩
noncomputable def o706 (P : Params) : Obj := ⟨.type "code",none,.fields ⟨[.str s425 (nat_lit 1168),.str s446 (nat_lit 1169),.str s182 (nat_lit 1170),.int (.ofNat (nat_lit 707)) (nat_lit 0),.int (.ofNat (nat_lit 2)) (nat_lit 0),.int (.ofNat (nat_lit 0)) (nat_lit 0),.int (.ofNat (nat_lit 0)) (nat_lit 0),.int (.ofNat (nat_lit 3)) (nat_lit 0),.ref (nat_lit 701),.bool true,.int (.ofNat (nat_lit 318)) (nat_lit 0),.ref (nat_lit 702),.none,.ref (nat_lit 703),.ref (nat_lit 704),.ref (nat_lit 705),.int (.ofNat (nat_lit 1173)) (nat_lit 0),.int (.ofNat (nat_lit 707)) (nat_lit 0),.str s182 (nat_lit 1174)]⟩,⟨[]⟩⟩
noncomputable def o707 (P : Params) : Obj := ⟨.type "function",none,.func (fd (sub (st 22) 7) s425 s446 (nat_lit 3) [] .none .none .none (.str s243 (nat_lit 1087)) none (.ref (nat_lit 706)) .none (nat_lit 0)),⟨[]⟩⟩
noncomputable def o708 (P : Params) : Obj := ⟨.type "tuple",none,.seq ⟨[.none,.none]⟩ (nat_lit 0),⟨[]⟩⟩
noncomputable def o709 (P : Params) : Obj := ⟨.type "tuple",none,.seq ⟨[]⟩ (nat_lit 0),⟨[]⟩⟩
noncomputable def o710 (P : Params) : Obj := ⟨.none,none,.fields ⟨[]⟩,⟨[]⟩⟩
noncomputable def o711 (P : Params) : Obj := ⟨.type "tuple",none,.seq ⟨[.str s311 (nat_lit 1179),.str s428 (nat_lit 1180),.str s447 (nat_lit 1181)]⟩ (nat_lit 0),⟨[]⟩⟩
noncomputable def o712 (P : Params) : Obj := ⟨.type "tuple",none,.seq ⟨[]⟩ (nat_lit 0),⟨[]⟩⟩
noncomputable def o713 (P : Params) : Obj := ⟨.none,none,.func (fd (sub (st 22) 8) s426 s448 (nat_lit 0) [] .none .none .none .none none .none .none (nat_lit 0)),⟨[]⟩⟩
noncomputable def o714 (P : Params) : Obj := ⟨.type "code",none,.fields ⟨[.str s426 (nat_lit 1176),.str s448 (nat_lit 1177),.str s182 (nat_lit 1178),.int (.ofNat (nat_lit 714)) (nat_lit 0),.int (.ofNat (nat_lit 3)) (nat_lit 0),.int (.ofNat (nat_lit 0)) (nat_lit 0),.int (.ofNat (nat_lit 0)) (nat_lit 0),.int (.ofNat (nat_lit 3)) (nat_lit 0),.ref (nat_lit 709),.bool true,.int (.ofNat (nat_lit 318)) (nat_lit 0),.ref (nat_lit 710),.none,.ref (nat_lit 711),.ref (nat_lit 712),.ref (nat_lit 713),.int (.ofNat (nat_lit 1182)) (nat_lit 0),.int (.ofNat (nat_lit 714)) (nat_lit 0),.str s182 (nat_lit 1183)]⟩,⟨[]⟩⟩
noncomputable def o715 (P : Params) : Obj := ⟨.type "function",none,.func (fd (sub (st 22) 8) s426 s448 (nat_lit 3) [] (.ref (nat_lit 708)) .none .none (.str s243 (nat_lit 1087)) none (.ref (nat_lit 714)) .none (nat_lit 0)),⟨[]⟩⟩
noncomputable def o716 (P : Params) : Obj := ⟨.type "tuple",none,.seq ⟨[]⟩ (nat_lit 0),⟨[]⟩⟩
noncomputable def o717 (P : Params) : Obj := ⟨.none,none,.fields ⟨[]⟩,⟨[]⟩⟩
noncomputable def o718 (P : Params) : Obj := ⟨.type "tuple",none,.seq ⟨[.str s311 (nat_lit 1188)]⟩ (nat_lit 0),⟨[]⟩⟩
noncomputable def o719 (P : Params) : Obj := ⟨.type "tuple",none,.seq ⟨[]⟩ (nat_lit 0),⟨[]⟩⟩
noncomputable def o720 (P : Params) : Obj := ⟨.none,none,.func (fd (sub (st 22) 9) s307 s449 (nat_lit 0) [] .none .none .none .none none .none .none (nat_lit 0)),⟨[]⟩⟩
noncomputable def o721 (P : Params) : Obj := ⟨.type "code",none,.fields ⟨[.str s307 (nat_lit 1185),.str s449 (nat_lit 1186),.str s182 (nat_lit 1187),.int (.ofNat (nat_lit 717)) (nat_lit 0),.int (.ofNat (nat_lit 1)) (nat_lit 0),.int (.ofNat (nat_lit 0)) (nat_lit 0),.int (.ofNat (nat_lit 0)) (nat_lit 0),.int (.ofNat (nat_lit 3)) (nat_lit 0),.ref (nat_lit 716),.bool true,.int (.ofNat (nat_lit 318)) (nat_lit 0),.ref (nat_lit 717),.none,.ref (nat_lit 718),.ref (nat_lit 719),.ref (nat_lit 720),.int (.ofNat (nat_lit 1189)) (nat_lit 0),.int (.ofNat (nat_lit 717)) (nat_lit 0),.str s182 (nat_lit 1190)]⟩,⟨[]⟩⟩
noncomputable def o722 (P : Params) : Obj := ⟨.type "function",none,.func (fd (sub (st 22) 9) s307 s449 (nat_lit 3) [] .none .none .none (.str s243 (nat_lit 1087)) none (.ref (nat_lit 721)) .none (nat_lit 0)),⟨[]⟩⟩
noncomputable def o723 (P : Params) : Obj := ⟨.type "tuple",none,.seq ⟨[]⟩ (nat_lit 0),⟨[]⟩⟩
noncomputable def o724 (P : Params) : Obj := ⟨.none,none,.fields ⟨[]⟩,⟨[]⟩⟩
noncomputable def o725 (P : Params) : Obj := ⟨.type "tuple",none,.seq ⟨[.str s311 (nat_lit 1195),.str s450 (nat_lit 1196)]⟩ (nat_lit 0),⟨[]⟩⟩
noncomputable def o726 (P : Params) : Obj := ⟨.type "tuple",none,.seq ⟨[]⟩ (nat_lit 0),⟨[]⟩⟩
noncomputable def o727 (P : Params) : Obj := ⟨.none,none,.func (fd (sub (st 22) 10) s308 s451 (nat_lit 0) [] .none .none .none .none none .none .none (nat_lit 0)),⟨[]⟩⟩
noncomputable def o728 (P : Params) : Obj := ⟨.type "code",none,.fields ⟨[.str s308 (nat_lit 1192),.str s451 (nat_lit 1193),.str s182 (nat_lit 1194),.int (.ofNat (nat_lit 720)) (nat_lit 0),.int (.ofNat (nat_lit 1)) (nat_lit 0),.int (.ofNat (nat_lit 0)) (nat_lit 0),.int (.ofNat (nat_lit 0)) (nat_lit 0),.int (.ofNat (nat_lit 3)) (nat_lit 0),.ref (nat_lit 723),.bool true,.int (.ofNat (nat_lit 318)) (nat_lit 0),.ref (nat_lit 724),.none,.ref (nat_lit 725),.ref (nat_lit 726),.ref (nat_lit 727),.int (.ofNat (nat_lit 1197)) (nat_lit 0),.int (.ofNat (nat_lit 720)) (nat_lit 0),.str s182 (nat_lit 1198)]⟩,⟨[]⟩⟩
noncomputable def o729 (P : Params) : Obj := ⟨.type "function",none,.func (fd (sub (st 22) 10) s308 s451 (nat_lit 3) [] .none .none .none (.str s243 (nat_lit 1087)) none (.ref (nat_lit 728)) .none (nat_lit 0)),⟨[]⟩⟩
noncomputable def o730 (P : Params) : Obj := ⟨.type "tuple",none,.seq ⟨[.str s452 (nat_lit 1200),.str s453 (nat_lit 1201),.str s454 (nat_lit 1202),.str s455 (nat_lit 1203),.str s456 (nat_lit 1204),.str s457 (nat_lit 1205),.str s458 (nat_lit 1206),.str s459 (nat_lit 1207),.str s428 (nat_lit 1208),.str s427 (nat_lit 1209),.str s447 (nat_lit 1210),.str s429 (nat_lit 1211),.str s460 (nat_lit 1212),.str s461 (nat_lit 1213),.str s462 (nat_lit 1214),.str s463 (nat_lit 1215),.str s450 (nat_lit 1216),.str s464 (nat_lit 1217),.str s465 (nat_lit 1218),.str s466 (nat_lit 1219)]⟩ (nat_lit 0),⟨[]⟩⟩
noncomputable def o731 (P : Params) : Obj := ⟨.type "dict",none,.dict ⟨[⟨kh P s198,.str s198 (nat_lit 1096),.str s243 (nat_lit 1087)⟩,⟨kh P s200,.str s200 (nat_lit 1100),.int (.ofNat (nat_lit 473)) (nat_lit 1099)⟩,⟨kh P s225,.str s225 (nat_lit 1112),.ref (nat_lit 656)⟩,⟨kh P s419,.str s419 (nat_lit 1120),.ref (nat_lit 664)⟩,⟨kh P s420,.str s420 (nat_lit 1128),.ref (nat_lit 671)⟩,⟨kh P s421,.str s421 (nat_lit 1137),.ref (nat_lit 679)⟩,⟨kh P s422,.str s422 (nat_lit 1144),.ref (nat_lit 686)⟩,⟨kh P s423,.str s423 (nat_lit 1156),.ref (nat_lit 693)⟩,⟨kh P s424,.str s424 (nat_lit 1167),.ref (nat_lit 700)⟩,⟨kh P s425,.str s425 (nat_lit 1175),.ref (nat_lit 707)⟩,⟨kh P s426,.str s426 (nat_lit 1184),.ref (nat_lit 715)⟩,⟨kh P s307,.str s307 (nat_lit 1191),.ref (nat_lit 722)⟩,⟨kh P s308,.str s308 (nat_lit 1199),.ref (nat_lit 729)⟩,⟨kh P s210,.str s210 (nat_lit 1220),.ref (nat_lit 730)⟩,⟨kh P s211,.str s211 (nat_lit 1222),.ref (nat_lit 733)⟩,⟨kh P s212,.str s212 (nat_lit 1224),.ref (nat_lit 734)⟩,⟨kh P s2,.str s2 (nat_lit 1225),.none⟩]⟩ (nat_lit 4),⟨[]⟩⟩
noncomputable def o732 (P : Params) : Obj := ⟨.type "type",none,.cls ⟨s261,[.type "object"],[.ref (nat_lit 732),.type "object"],nat_lit 731,s261,true,[],[],false,none,false⟩,⟨[none,none,some (.str s261 (nat_lit 1089)),some (.str s261 (nat_lit 1097)),some (.builtin "object.__new__"),some (.bool true)]⟩⟩
noncomputable def o733 (P : Params) : Obj := ⟨.type "getset_descriptor",none,.fields ⟨[.str s211 (nat_lit 1221),.ref (nat_lit 732),.builtin "function.__dict__",.builtin "function.__dict__#set"]⟩,⟨[]⟩⟩
noncomputable def o734 (P : Params) : Obj := ⟨.type "getset_descriptor",none,.fields ⟨[.str s212 (nat_lit 1223),.ref (nat_lit 732),.builtin "ExceptionGroup.__weakref__",.none]⟩,⟨[]⟩⟩
noncomputable def o735 (P : Params) : Obj := ⟨.type "super",none,.fields ⟨[.ref (nat_lit 732),.ref (nat_lit 732),.ref (nat_lit 732)]⟩,⟨[]⟩⟩
noncomputable def o736 (P : Params) : Obj := ⟨.type "builtin_function_or_method",none,.fields ⟨[.builtin "object.__init_subclass__",.ref (nat_lit 732)]⟩,⟨[]⟩⟩
noncomputable def o737 (P : Params) : Obj := ⟨.type "tuple",none,.seq ⟨[.bool false,.bool true]⟩ (nat_lit 0),⟨[]⟩⟩
noncomputable def o738 (P : Params) : Obj := ⟨.type "tuple",none,.seq ⟨[]⟩ (nat_lit 0),⟨[]⟩⟩
noncomputable def o739 (P : Params) : Obj := ⟨.none,none,.fields ⟨[]⟩,⟨[]⟩⟩
noncomputable def o740 (P : Params) : Obj := ⟨.type "tuple",none,.seq ⟨[.str s369 (nat_lit 1231),.str s467 (nat_lit 1232),.str s429 (nat_lit 1233),.str s468 (nat_lit 1234)]⟩ (nat_lit 0),⟨[]⟩⟩
noncomputable def o741 (P : Params) : Obj := ⟨.type "tuple",none,.seq ⟨[]⟩ (nat_lit 0),⟨[]⟩⟩
noncomputable def o742 (P : Params) : Obj := ⟨.none,none,.func (fd (st 23) s262 s262 (nat_lit 0) [] .none .none .none .none none .none .none (nat_lit 0)),⟨[]⟩⟩
noncomputable def o743 (P : Params) : Obj := ⟨.type "code",none,.fields ⟨[.str s262 (nat_lit 1228),.str s262 (nat_lit 1229),.str s182 (nat_lit 1230),.int (.ofNat (nat_lit 725)) (nat_lit 0),.int (.ofNat (nat_lit 3)) (nat_lit 0),.int (.ofNat (nat_lit 0)) (nat_lit 0),.int (.ofNat (nat_lit 0)) (nat_lit 0),.int (.ofNat (nat_lit 3)) (nat_lit 0),.ref (nat_lit 738),.bool true,.int (.ofNat (nat_lit 318)) (nat_lit 0),.ref (nat_lit 739),.none,.ref (nat_lit 740),.ref (nat_lit 741),.ref (nat_lit 742),.int (.ofNat (nat_lit 1235)) (nat_lit 0),.int (.ofNat (nat_lit 725)) (nat_lit 0),.str s182 (nat_lit 1236)]⟩,⟨[]⟩⟩
noncomputable def o744 (P : Params) : Obj := ⟨.type "function",none,.func (fd (st 23) s262 s262 (nat_lit 3) [] (.ref (nat_lit 737)) .none .none (.str s243 (nat_lit 1087)) none (.ref (nat_lit 743)) .none (nat_lit 0)),⟨[]⟩⟩
noncomputable def o745 (P : Params) : Obj := ⟨.type "tuple",none,.seq ⟨[]⟩ (nat_lit 0),⟨[]⟩⟩
noncomputable def o746 (P : Params) : Obj := ⟨.none,none,.fields ⟨[]⟩,⟨[]⟩⟩
noncomputable def o747 (P : Params) : Obj := ⟨.type "tuple",none,.seq ⟨[.str s469 (nat_lit 1241)]⟩ (nat_lit 0),⟨[]⟩⟩
noncomputable def o748 (P : Params) : Obj := ⟨.type "tuple",none,.seq ⟨[]⟩ (nat_lit 0),⟨[]⟩⟩
noncomputable def o749 (P : Params) : Obj := ⟨.none,none,.func (fd (st 24) s258 s258 (nat_lit 0) [] .none .none .none .none none .none .none (nat_lit 0)),⟨[]⟩⟩
noncomputable def o750 (P : Params) : Obj := ⟨.type "code",none,.fields ⟨[.str s258 (nat_lit 1238),.str s258 (nat_lit 1239),.str s182 (nat_lit 1240),.int (.ofNat (nat_lit 733)) (nat_lit 0),.int (.ofNat (nat_lit 1)) (nat_lit 0),.int (.ofNat (nat_lit 0)) (nat_lit 0),.int (.ofNat (nat_lit 0)) (nat_lit 0),.int (.ofNat (nat_lit 3)) (nat_lit 0),.ref (nat_lit 745),.bool true,.int (.ofNat (nat_lit 318)) (nat_lit 0),.ref (nat_lit 746),.none,.ref (nat_lit 747),.ref (nat_lit 748),.ref (nat_lit 749),.int (.ofNat (nat_lit 1242)) (nat_lit 0),.int (.ofNat (nat_lit 733)) (nat_lit 0),.str s182 (nat_lit 1243)]⟩,⟨[]⟩⟩
noncomputable def o751 (P : Params) : Obj := ⟨.type "function",none,.func (fd (st 24) s258 s258 (nat_lit 3) [] .none .none .none (.str s243 (nat_lit 1087)) none (.ref (nat_lit 750)) .none (nat_lit 0)),⟨[]⟩⟩
noncomputable def o752 (P : Params) : Obj := ⟨.type "builtin_function_or_method",none,.fields ⟨[.builtin "re.Pattern.search",.ref (nat_lit 49)]⟩,⟨[]⟩⟩
noncomputable def o753 (P : Params) : Obj := ⟨.type "tuple",none,.seq ⟨[]⟩ (nat_lit 0),⟨[]⟩⟩
noncomputable def o754 (P : Params) : Obj := ⟨.none,none,.fields ⟨[]⟩,⟨[]⟩⟩
noncomputable def o755 (P : Params) : Obj := ⟨.type "tuple",none,.seq ⟨[.str s369 (nat_lit 1251)]⟩ (nat_lit 0),⟨[]⟩⟩
noncomputable def o756 (P : Params) : Obj := ⟨.type "tuple",none,.seq ⟨[]⟩ (nat_lit 0),⟨[]⟩⟩
noncomputable def o757 (P : Params) : Obj := ⟨.none,none,.func (fd (st 27) s265 s265 (nat_lit 0) [] .none .none .none .none none .none .none (nat_lit 0)),⟨[]⟩⟩
noncomputable def o758 (P : Params) : Obj := ⟨.type "code",none,.fields ⟨[.str s265 (nat_lit 1248),.str s265 (nat_lit 1249),.str s182 (nat_lit 1250),.int (.ofNat (nat_lit 737)) (nat_lit 0),.int (.ofNat (nat_lit 1)) (nat_lit 0),.int (.ofNat (nat_lit 0)) (nat_lit 0),.int (.ofNat (nat_lit 0)) (nat_lit 0),.int (.ofNat (nat_lit 3)) (nat_lit 0),.ref (nat_lit 753),.bool true,.int (.ofNat (nat_lit 318)) (nat_lit 0),.ref (nat_lit 754),.none,.ref (nat_lit 755),.ref (nat_lit 756),.ref (nat_lit 757),.int (.ofNat (nat_lit 1252)) (nat_lit 0),.int (.ofNat (nat_lit 737)) (nat_lit 0),.str s182 (nat_lit 1253)]⟩,⟨[]⟩⟩
noncomputable def o759 (P : Params) : Obj := ⟨.type "function",none,.func (fd (st 27) s265 s265 (nat_lit 3) [] .none .none .none (.str s243 (nat_lit 1087)) none (.ref (nat_lit 758)) .none (nat_lit 0)),⟨[]⟩⟩
noncomputable def tq0 (P : Params) : BT := (n (o191 P) (n (o319 P) (n (o575 P) e e) e) (n (o447 P) (n (o703 P) e e) e))
noncomputable def tq1 (P : Params) : BT := (n (o223 P) (n (o351 P) (n (o607 P) e e) e) (n (o479 P) (n (o735 P) e e) e))
noncomputable def tq2 (P : Params) : BT := (n (o95 P) (n (o159 P) (n (o287 P) (n (o543 P) e e) e) (n (o415 P) (n (o671 P) e e) e)) (tq1 P))
noncomputable def tq3 (P : Params) : BT := (n (o207 P) (n (o335 P) (n (o591 P) e e) e) (n (o463 P) (n (o719 P) e e) e))
noncomputable def tq4 (P : Params) : BT := (n (o239 P) (n (o367 P) (n (o623 P) e e) e) (n (o495 P) (n (o751 P) e e) e))
noncomputable def tq5 (P : Params) : BT := (n (o47 P) (n (o79 P) (n (o143 P) (n (o271 P) (n (o527 P) e e) e) (n (o399 P) (n (o655 P) e e) e)) (tq3 P)) (n (o111 P) (n (o175 P) (n (o303 P) (n (o559 P) e e) e) (n (o431 P) (n (o687 P) e e) e)) (tq4 P)))
noncomputable def tq6 (P : Params) : BT := (n (o199 P) (n (o327 P) (n (o583 P) e e) e) (n (o455 P) (n (o711 P) e e) e))
noncomputable def tq7 (P : Params) : BT := (n (o231 P) (n (o359 P) (n (o615 P) e e) e) (n (o487 P) (n (o743 P) e e) e))
noncomputable def tq8 (P : Params) : BT := (n (o103 P) (n (o167 P) (n (o295 P) (n (o551 P) e e) e) (n (o423 P) (n (o679 P) e e) e)) (tq7 P))
noncomputable def tq9 (P : Params) : BT := (n (o215 P) (n (o343 P) (n (o599 P) e e) e) (n (o471 P) (n (o727 P) e e) e))
noncomputable def tq10 (P : Params) : BT := (n (o247 P) (n (o375 P) (n (o631 P) e e) e) (n (o503 P) (n (o759 P) e e) e))
noncomputable def tq11 (P : Params) : BT := (n (o55 P) (n (o87 P) (n (o151 P) (n (o279 P) (n (o535 P) e e) e) (n (o407 P) (n (o663 P) e e) e)) (tq9 P)) (n (o119 P) (n (o183 P) (n (o311 P) (n (o567 P) e e) e) (n (o439 P) (n (o695 P) e e) e)) (tq10 P)))
noncomputable def tq12 (P : Params) : BT := (n (o23 P) (n (o39 P) (n (o71 P) (n (o135 P) (n (o263 P) (n (o519 P) e e) e) (n (o391 P) (n (o647 P) e e) e)) (tq6 P)) (tq8 P)) (tq11 P))
noncomputable def tq13 (P : Params) : BT := (n (o7 P) (n (o15 P) (n (o31 P) (n (o63 P) (n (o127 P) (n (o255 P) (n (o511 P) e e) e) (n (o383 P) (n (o639 P) e e) e)) (tq0 P)) (tq2 P)) (tq5 P)) (tq12 P))
noncomputable def tq14 (P : Params) : BT := (n (o195 P) (n (o323 P) (n (o579 P) e e) e) (n (o451 P) (n (o707 P) e e) e))
noncomputable def tq15 (P : Params) : BT := (n (o227 P) (n (o355 P) (n (o611 P) e e) e) (n (o483 P) (n (o739 P) e e) e))
noncomputable def tq16 (P : Params) : BT := (n (o99 P) (n (o163 P) (n (o291 P) (n (o547 P) e e) e) (n (o419 P) (n (o675 P) e e) e)) (tq15 P))
noncomputable def tq17 (P : Params) : BT := (n (o211 P) (n (o339 P) (n (o595 P) e e) e) (n (o467 P) (n (o723 P) e e) e))
noncomputable def tq18 (P : Params) : BT := (n (o243 P) (n (o371 P) (n (o627 P) e e) e) (n (o499 P) (n (o755 P) e e) e))
noncomputable def tq19 (P : Params) : BT := (n (o51 P) (n (o83 P) (n (o147 P) (n (o275 P) (n (o531 P) e e) e) (n (o403 P) (n (o659 P) e e) e)) (tq17 P)) (n (o115 P) (n (o179 P) (n (o307 P) (n (o563 P) e e) e) (n (o435 P) (n (o691 P) e e) e)) (tq18 P)))
noncomputable def tq20 (P : Params) : BT := (n (o19 P) (n (o35a P) (n (o67 P) (n (o131 P) (n (o259 P) (n (o515 P) e e) e) (n (o387 P) (n (o643 P) e e) e)) (tq14 P)) (tq16 P)) (tq19 P))
noncomputable def tq21 (P : Params) : BT := (n (o203 P) (n (o331 P) (n (o587 P) e e) e) (n (o459 P) (n (o715 P) e e) e))
noncomputable def tq22 (P : Params) : BT := (n (o235 P) (n (o363 P) (n (o619 P) e e) e) (n (o491 P) (n (o747 P) e e) e))
noncomputable def tq23 (P : Params) : BT := (n (o43 P) (n (o75 P) (n (o139 P) (n (o267 P) (n (o523 P) e e) e) (n (o395 P) (n (o651 P) e e) e)) (tq21 P)) (n (o107 P) (n (o171 P) (n (o299 P) (n (o555 P) e e) e) (n (o427 P) (n (o683 P) e e) e)) (tq22 P)))
noncomputable def tq24 (P : Params) : BT := (n (o219 P) (n (o347 P) (n (o603 P) e e) e) (n (o475 P) (n (o731 P) e e) e))
noncomputable def tq25 (P : Params) : BT := (n (o91 P) (n (o155 P) (n (o283 P) (n (o539 P) e e) e) (n (o411 P) (n (o667 P) e e) e)) (tq24 P))
noncomputable def tq26 (P : Params) : BT := (n (o187 P) (n (o315 P) (n (o571 P) e e) e) (n (o443 P) (n (o699 P) e e) e))
noncomputable def tq27 (P : Params) : BT := (n (o193 P) (n (o321 P) (n (o577 P) e e) e) (n (o449 P) (n (o705 P) e e) e))
noncomputable def tq28 (P : Params) : BT := (n (o225 P) (n (o353 P) (n (o609 P) e e) e) (n (o481 P) (n (o737 P) e e) e))
noncomputable def tq29 (P : Params) : BT := (n (o97 P) (n (o161 P) (n (o289 P) (n (o545 P) e e) e) (n (o417 P) (n (o673 P) e e) e)) (tq28 P))
noncomputable def tq30 (P : Params) : BT := (n (o209 P) (n (o337 P) (n (o593 P) e e) e) (n (o465 P) (n (o721 P) e e) e))
noncomputable def tq31 (P : Params) : BT := (n (o241 P) (n (o369 P) (n (o625 P) e e) e) (n (o497 P) (n (o753 P) e e) e))
noncomputable def tq32 (P : Params) : BT := (n (o49 P) (n (o81 P) (n (o145 P) (n (o273 P) (n (o529 P) e e) e) (n (o401 P) (n (o657 P) e e) e)) (tq30 P)) (n (o113 P) (n (o177 P) (n (o305 P) (n (o561 P) e e) e) (n (o433 P) (n (o689 P) e e) e)) (tq31 P)))
noncomputable def tq33 (P : Params) : BT := (n (o17 P) (n (o33 P) (n (o65 P) (n (o129 P) (n (o257 P) (n (o513 P) e e) e) (n (o385 P) (n (o641 P) e e) e)) (tq27 P)) (tq29 P)) (tq32 P))
noncomputable def tq34 (P : Params) : BT := (n (o201 P) (n (o329 P) (n (o585 P) e e) e) (n (o457 P) (n (o713 P) e e) e))
noncomputable def tq35 (P : Params) : BT := (n (o233 P) (n (o361 P) (n (o617 P) e e) e) (n (o489 P) (n (o745 P) e e) e))
noncomputable def tq36 (P : Params) : BT := (n (o41 P) (n (o73 P) (n (o137 P) (n (o265 P) (n (o521 P) e e) e) (n (o393 P) (n (o649 P) e e) e)) (tq34 P)) (n (o105 P) (n (o169 P) (n (o297 P) (n (o553 P) e e) e) (n (o425 P) (n (o681 P) e e) e)) (tq35 P)))
noncomputable def tq37 (P : Params) : BT := (n (o217 P) (n (o345 P) (n (o601 P) e e) e) (n (o473 P) (n (o729 P) e e) e))
noncomputable def tq38 (P : Params) : BT := (n (o89 P) (n (o153 P) (n (o281 P) (n (o537 P) e e) e) (n (o409 P) (n (o665 P) e e) e)) (tq37 P))
noncomputable def tq39 (P : Params) : BT := (n (o185 P) (n (o313 P) (n (o569 P) e e) e) (n (o441 P) (n (o697 P) e e) e))
noncomputable def tq40 (P : Params) : BT := (n (o197 P) (n (o325 P) (n (o581 P) e e) e) (n (o453 P) (n (o709 P) e e) e))
noncomputable def tq41 (P : Params) : BT := (n (o229 P) (n (o357 P) (n (o613 P) e e) e) (n (o485 P) (n (o741 P) e e) e))
noncomputable def tq42 (P : Params) : BT := (n (o101 P) (n (o165 P) (n (o293 P) (n (o549 P) e e) e) (n (o421 P) (n (o677 P) e e) e)) (tq41 P))
noncomputable def tq43 (P : Params) : BT := (n (o213 P) (n (o341 P) (n (o597 P) e e) e) (n (o469 P) (n (o725 P) e e) e))
noncomputable def tq44 (P : Params) : BT := (n (o245 P) (n (o373 P) (n (o629 P) e e) e) (n (o501 P) (n (o757 P) e e) e))
noncomputable def tq45 (P : Params) : BT := (n (o53 P) (n (o85 P) (n (o149 P) (n (o277 P) (n (o533 P) e e) e) (n (o405 P) (n (o661 P) e e) e)) (tq43 P)) (n (o117 P) (n (o181 P) (n (o309 P) (n (o565 P) e e) e) (n (o437 P) (n (o693 P) e e) e)) (tq44 P)))
noncomputable def tq46 (P : Params) : BT := (n (o21 P) (n (o37 P) (n (o69 P) (n (o133 P) (n (o261 P) (n (o517 P) e e) e) (n (o389 P) (n (o645 P) e e) e)) (tq40 P)) (tq42 P)) (tq45 P))
noncomputable def tq47 (P : Params) : BT := (n (o205 P) (n (o333 P) (n (o589 P) e e) e) (n (o461 P) (n (o717 P) e e) e))
noncomputable def tq48 (P : Params) : BT := (n (o237 P) (n (o365 P) (n (o621 P) e e) e) (n (o493 P) (n (o749 P) e e) e))
noncomputable def tq49 (P : Params) : BT := (n (o45 P) (n (o77 P) (n (o141 P) (n (o269 P) (n (o525 P) e e) e) (n (o397 P) (n (o653 P) e e) e)) (tq47 P)) (n (o109 P) (n (o173 P) (n (o301 P) (n (o557 P) e e) e) (n (o429 P) (n (o685 P) e e) e)) (tq48 P)))
noncomputable def tq50 (P : Params) : BT := (n (o221 P) (n (o349 P) (n (o605 P) e e) e) (n (o477 P) (n (o733 P) e e) e))
noncomputable def tq51 (P : Params) : BT := (n (o93 P) (n (o157 P) (n (o285 P) (n (o541 P) e e) e) (n (o413 P) (n (o669 P) e e) e)) (tq50 P))
noncomputable def tq52 (P : Params) : BT := (n (o189 P) (n (o317 P) (n (o573 P) e e) e) (n (o445 P) (n (o701 P) e e) e))
noncomputable def tq53 (P : Params) : BT := (n (o192 P) (n (o320 P) (n (o576 P) e e) e) (n (o448 P) (n (o704 P) e e) e))
noncomputable def tq54 (P : Params) : BT := (n (o224 P) (n (o352 P) (n (o608 P) e e) e) (n (o480 P) (n (o736 P) e e) e))
noncomputable def tq55 (P : Params) : BT := (n (o96 P) (n (o160 P) (n (o288 P) (n (o544 P) e e) e) (n (o416 P) (n (o672 P) e e) e)) (tq54 P))
noncomputable def tq56 (P : Params) : BT := (n (o208 P) (n (o336 P) (n (o592 P) e e) e) (n (o464 P) (n (o720 P) e e) e))
noncomputable def tq57 (P : Params) : BT := (n (o240 P) (n (o368 P) (n (o624 P) e e) e) (n (o496 P) (n (o752 P) e e) e))
noncomputable def tq58 (P : Params) : BT := (n (o48 P) (n (o80 P) (n (o144 P) (n (o272 P) (n (o528 P) e e) e) (n (o400 P) (n (o656 P) e e) e)) (tq56 P)) (n (o112 P) (n (o176 P) (n (o304 P) (n (o560 P) e e) e) (n (o432 P) (n (o688 P) e e) e)) (tq57 P)))
noncomputable def tq59 (P : Params) : BT := (n (o16 P) (n (o32 P) (n (o64 P) (n (o128 P) (n (o256 P) (n (o512 P) e e) e) (n (o384 P) (n (o640 P) e e) e)) (tq53 P)) (tq55 P)) (tq58 P))
noncomputable def tq60 (P : Params) : BT := (n (o200 P) (n (o328 P) (n (o584 P) e e) e) (n (o456 P) (n (o712 P) e e) e))
noncomputable def tq61 (P : Params) : BT := (n (o232 P) (n (o360 P) (n (o616 P) e e) e) (n (o488 P) (n (o744 P) e e) e))
noncomputable def tq62 (P : Params) : BT := (n (o40 P) (n (o72 P) (n (o136 P) (n (o264 P) (n (o520 P) e e) e) (n (o392 P) (n (o648 P) e e) e)) (tq60 P)) (n (o104 P) (n (o168 P) (n (o296 P) (n (o552 P) e e) e) (n (o424 P) (n (o680 P) e e) e)) (tq61 P)))
noncomputable def tq63 (P : Params) : BT := (n (o216 P) (n (o344 P) (n (o600 P) e e) e) (n (o472 P) (n (o728 P) e e) e))
noncomputable def tq64 (P : Params) : BT := (n (o88 P) (n (o152 P) (n (o280 P) (n (o536 P) e e) e) (n (o408 P) (n (o664 P) e e) e)) (tq63 P))
noncomputable def tq65 (P : Params) : BT := (n (o184 P) (n (o312 P) (n (o568 P) e e) e) (n (o440 P) (n (o696 P) e e) e))
noncomputable def tq66 (P : Params) : BT := (n (o196 P) (n (o324 P) (n (o580 P) e e) e) (n (o452 P) (n (o708 P) e e) e))
noncomputable def tq67 (P : Params) : BT := (n (o228 P) (n (o356 P) (n (o612 P) e e) e) (n (o484 P) (n (o740 P) e e) e))
noncomputable def tq68 (P : Params) : BT := (n (o100 P) (n (o164 P) (n (o292 P) (n (o548 P) e e) e) (n (o420 P) (n (o676 P) e e) e)) (tq67 P))
noncomputable def tq69 (P : Params) : BT := (n (o212 P) (n (o340 P) (n (o596 P) e e) e) (n (o468 P) (n (o724 P) e e) e))
noncomputable def tq70 (P : Params) : BT := (n (o244 P) (n (o372 P) (n (o628 P) e e) e) (n (o500 P) (n (o756 P) e e) e))
noncomputable def tq71 (P : Params) : BT := (n (o52 P) (n (o84 P) (n (o148 P) (n (o276 P) (n (o532 P) e e) e) (n (o404 P) (n (o660 P) e e) e)) (tq69 P)) (n (o116 P) (n (o180 P) (n (o308 P) (n (o564 P) e e) e) (n (o436 P) (n (o692 P) e e) e)) (tq70 P)))
noncomputable def tq72 (P : Params) : BT := (n (o20 P) (n (o36 P) (n (o68 P) (n (o132 P) (n (o260 P) (n (o516 P) e e) e) (n (o388 P) (n (o644 P) e e) e)) (tq66 P)) (tq68 P)) (tq71 P))
noncomputable def tq73 (P : Params) : BT := (n (o204 P) (n (o332 P) (n (o588 P) e e) e) (n (o460 P) (n (o716 P) e e) e))
noncomputable def tq74 (P : Params) : BT := (n (o236 P) (n (o364 P) (n (o620 P) e e) e) (n (o492 P) (n (o748 P) e e) e))
noncomputable def tq75 (P : Params) : BT := (n (o44 P) (n (o76 P) (n (o140 P) (n (o268 P) (n (o524 P) e e) e) (n (o396 P) (n (o652 P) e e) e)) (tq73 P)) (n (o108 P) (n (o172 P) (n (o300 P) (n (o556 P) e e) e) (n (o428 P) (n (o684 P) e e) e)) (tq74 P)))
noncomputable def tq76 (P : Params) : BT := (n (o220 P) (n (o348 P) (n (o604 P) e e) e) (n (o476 P) (n (o732 P) e e) e))
noncomputable def tq77 (P : Params) : BT := (n (o92 P) (n (o156 P) (n (o284 P) (n (o540 P) e e) e) (n (o412 P) (n (o668 P) e e) e)) (tq76 P))
noncomputable def tq78 (P : Params) : BT := (n (o188 P) (n (o316 P) (n (o572 P) e e) e) (n (o444 P) (n (o700 P) e e) e))
noncomputable def tq79 (P : Params) : BT := (n (o194 P) (n (o322 P) (n (o578 P) e e) e) (n (o450 P) (n (o706 P) e e) e))
noncomputable def tq80 (P : Params) : BT := (n (o226 P) (n (o354 P) (n (o610 P) e e) e) (n (o482 P) (n (o738 P) e e) e))
noncomputable def tq81 (P : Params) : BT := (n (o98 P) (n (o162 P) (n (o290 P) (n (o546 P) e e) e) (n (o418 P) (n (o674 P) e e) e)) (tq80 P))
noncomputable def tq82 (P : Params) : BT := (n (o210 P) (n (o338 P) (n (o594 P) e e) e) (n (o466 P) (n (o722 P) e e) e))
noncomputable def tq83 (P : Params) : BT := (n (o242 P) (n (o370 P) (n (o626 P) e e) e) (n (o498 P) (n (o754 P) e e) e))
noncomputable def tq84 (P : Params) : BT := (n (o50 P) (n (o82 P) (n (o146 P) (n (o274 P) (n (o530 P) e e) e) (n (o402 P) (n (o658 P) e e) e)) (tq82 P)) (n (o114 P) (n (o178 P) (n (o306 P) (n (o562 P) e e) e) (n (o434 P) (n (o690 P) e e) e)) (tq83 P)))
noncomputable def tq85 (P : Params) : BT := (n (o18 P) (n (o34 P) (n (o66 P) (n (o130 P) (n (o258 P) (n (o514 P) e e) e) (n (o386 P) (n (o642 P) e e) e)) (tq79 P)) (tq81 P)) (tq84 P))
noncomputable def tq86 (P : Params) : BT := (n (o202 P) (n (o330 P) (n (o586 P) e e) e) (n (o458 P) (n (o714 P) e e) e))
noncomputable def tq87 (P : Params) : BT := (n (o234 P) (n (o362 P) (n (o618 P) e e) e) (n (o490 P) (n (o746 P) e e) e))
noncomputable def tq88 (P : Params) : BT := (n (o42 P) (n (o74 P) (n (o138 P) (n (o266 P) (n (o522 P) e e) e) (n (o394 P) (n (o650 P) e e) e)) (tq86 P)) (n (o106 P) (n (o170 P) (n (o298 P) (n (o554 P) e e) e) (n (o426 P) (n (o682 P) e e) e)) (tq87 P)))
noncomputable def tq89 (P : Params) : BT := (n (o218 P) (n (o346 P) (n (o602 P) e e) e) (n (o474 P) (n (o730 P) e e) e))
noncomputable def tq90 (P : Params) : BT := (n (o90 P) (n (o154 P) (n (o282 P) (n (o538 P) e e) e) (n (o410 P) (n (o666 P) e e) e)) (tq89 P))
noncomputable def tq91 (P : Params) : BT := (n (o186 P) (n (o314 P) (n (o570 P) e e) e) (n (o442 P) (n (o698 P) e e) e))
noncomputable def tq92 (P : Params) : BT := (n (o198 P) (n (o326 P) (n (o582 P) e e) e) (n (o454 P) (n (o710 P) e e) e))
noncomputable def tq93 (P : Params) : BT := (n (o230 P) (n (o358 P) (n (o614 P) e e) e) (n (o486 P) (n (o742 P) e e) e))
noncomputable def tq94 (P : Params) : BT := (n (o102 P) (n (o166 P) (n (o294 P) (n (o550 P) e e) e) (n (o422 P) (n (o678 P) e e) e)) (tq93 P))
noncomputable def tq95 (P : Params) : BT := (n (o214 P) (n (o342 P) (n (o598 P) e e) e) (n (o470 P) (n (o726 P) e e) e))
noncomputable def tq96 (P : Params) : BT := (n (o246 P) (n (o374 P) (n (o630 P) e e) e) (n (o502 P) (n (o758 P) e e) e))
noncomputable def tq97 (P : Params) : BT := (n (o54 P) (n (o86 P) (n (o150 P) (n (o278 P) (n (o534 P) e e) e) (n (o406 P) (n (o662 P) e e) e)) (tq95 P)) (n (o118 P) (n (o182 P) (n (o310 P) (n (o566 P) e e) e) (n (o438 P) (n (o694 P) e e) e)) (tq96 P)))
noncomputable def tq98 (P : Params) : BT := (n (o22 P) (n (o38 P) (n (o70 P) (n (o134 P) (n (o262 P) (n (o518 P) e e) e) (n (o390 P) (n (o646 P) e e) e)) (tq92 P)) (tq94 P)) (tq97 P))
noncomputable def tq99 (P : Params) : BT := (n (o206 P) (n (o334 P) (n (o590 P) e e) e) (n (o462 P) (n (o718 P) e e) e))
noncomputable def tq100 (P : Params) : BT := (n (o238 P) (n (o366 P) (n (o622 P) e e) e) (n (o494 P) (n (o750 P) e e) e))
noncomputable def tq101 (P : Params) : BT := (n (o46 P) (n (o78 P) (n (o142 P) (n (o270 P) (n (o526 P) e e) e) (n (o398 P) (n (o654 P) e e) e)) (tq99 P)) (n (o110 P) (n (o174 P) (n (o302 P) (n (o558 P) e e) e) (n (o430 P) (n (o686 P) e e) e)) (tq100 P)))
noncomputable def tq102 (P : Params) : BT := (n (o222 P) (n (o350 P) (n (o606 P) e e) e) (n (o478 P) (n (o734 P) e e) e))
noncomputable def tq103 (P : Params) : BT := (n (o94 P) (n (o158 P) (n (o286 P) (n (o542 P) e e) e) (n (o414 P) (n (o670 P) e e) e)) (tq102 P))
noncomputable def tq104 (P : Params) : BT := (n (o190 P) (n (o318 P) (n (o574 P) e e) e) (n (o446 P) (n (o702 P) e e) e))
noncomputable def tq105 (P : Params) : BT := (n (o14 P) (tq98 P) (n (o30 P) (tq101 P) (n (o62 P) (tq103 P) (n (o126 P) (tq104 P) (n (o254 P) (n (o382 P) (n (o638 P) e e) e) (n (o510 P) e e))))))
noncomputable def T29 (P : Params) : BT := (n (o0 P) (n (o1 P) (n (o3a P) (tq13 P) (n (o11a P) (tq20 P) (n (o27 P) (tq23 P) (n (o59 P) (tq25 P) (n (o123 P) (tq26 P) (n (o251 P) (n (o379 P) (n (o635 P) e e) e) (n (o507 P) e e))))))) (n (o5 P) (n (o9 P) (tq33 P) (n (o25 P) (tq36 P) (n (o57 P) (tq38 P) (n (o121 P) (tq39 P) (n (o249 P) (n (o377 P) (n (o633 P) e e) e) (n (o505 P) e e)))))) (n (o13 P) (tq46 P) (n (o29a P) (tq49 P) (n (o61 P) (tq51 P) (n (o125 P) (tq52 P) (n (o253 P) (n (o381 P) (n (o637 P) e e) e) (n (o509 P) e e)))))))) (n (o2a P) (n (o4 P) (n (o8 P) (tq59 P) (n (o24 P) (tq62 P) (n (o56 P) (tq64 P) (n (o120 P) (tq65 P) (n (o248 P) (n (o376 P) (n (o632 P) e e) e) (n (o504 P) e e)))))) (n (o12 P) (tq72 P) (n (o28 P) (tq75 P) (n (o60 P) (tq77 P) (n (o124 P) (tq78 P) (n (o252 P) (n (o380 P) (n (o636 P) e e) e) (n (o508 P) e e))))))) (n (o6 P) (n (o10 P) (tq85 P) (n (o26 P) (tq88 P) (n (o58 P) (tq90 P) (n (o122 P) (tq91 P) (n (o250 P) (n (o378 P) (n (o634 P) e e) e) (n (o506 P) e e)))))) (tq105 P))))
noncomputable def o3b (P : Params) : Obj := ⟨.type "dict",none,.dict ⟨[⟨kh P s0,.str s0 (nat_lit 165),.str s243 (nat_lit 1087)⟩,⟨kh P s2,.str s2 (nat_lit 166),.none⟩,⟨kh P s3,.str s3 (nat_lit 167),.none⟩,⟨kh P s4,.str s4 (nat_lit 168),.builtin "__main__.__loader__#opaque"⟩,⟨kh P s5,.str s5 (nat_lit 169),.none⟩,⟨kh P s179,.str s179 (nat_lit 170),.ref (nat_lit 6)⟩,⟨kh P s180,.str s180 (nat_lit 171),.ref (nat_lit 4)⟩,⟨kh P s181,.str s181 (nat_lit 173),.str s182 (nat_lit 172)⟩,⟨kh P s183,.str s183 (nat_lit 174),.none⟩,⟨kh P s161,.str s161 (nat_lit 275),.ref (nat_lit 12)⟩,⟨kh P s184,.str s184 (nat_lit 317),.type "collections.deque"⟩,⟨kh P s244,.str s244 (nat_lit 330),.ref (nat_lit 44)⟩,⟨kh P s245,.str s245 (nat_lit 370),.ref (nat_lit 49)⟩,⟨kh P s246,.str s246 (nat_lit 380),.ref (nat_lit 56)⟩,⟨kh P s247,.str s247 (nat_lit 388),.ref (nat_lit 63)⟩,⟨kh P s248,.str s248 (nat_lit 410),.ref (nat_lit 73)⟩,⟨kh P s249,.str s249 (nat_lit 442),.ref (nat_lit 93)⟩,⟨kh P s250,.str s250 (nat_lit 460),.ref (nat_lit 108)⟩,⟨kh P s251,.str s251 (nat_lit 478),.ref (nat_lit 120)⟩,⟨kh P s252,.str s252 (nat_lit 740),.ref (nat_lit 350)⟩,⟨kh P s253,.str s253 (nat_lit 1027),.ref (nat_lit 597)⟩,⟨kh P s254,.str s254 (nat_lit 1038),.ref (nat_lit 606)⟩,⟨kh P s255,.str s255 (nat_lit 1047),.ref (nat_lit 613)⟩,⟨kh P s256,.str s256 (nat_lit 1057),.ref (nat_lit 620)⟩,⟨kh P s257,.str s257 (nat_lit 1064),.ref (nat_lit 627)⟩,⟨kh P s258,.str s258 (nat_lit 1075),.ref (nat_lit 751)⟩,⟨kh P s259,.str s259 (nat_lit 1076),.ref (nat_lit 634)⟩,⟨kh P s260,.str s260 (nat_lit 1086),.ref (nat_lit 641)⟩,⟨kh P s261,.str s261 (nat_lit 1227),.ref (nat_lit 732)⟩,⟨kh P s262,.str s262 (nat_lit 1237),.ref (nat_lit 744)⟩,⟨kh P s263,.str s263 (nat_lit 1245),.ref (nat_lit 751)⟩,⟨kh P s264,.str s264 (nat_lit 1247),.ref (nat_lit 752)⟩,⟨kh P s265,.str s265 (nat_lit 1254),.ref (nat_lit 759)⟩,⟨kh P s266,.str s266 (nat_lit 1255),.ref (nat_lit 759)⟩,⟨kh P s267,.str s267 (nat_lit 1257),.str s268 (nat_lit 1256)⟩,⟨kh P s269,.str s269 (nat_lit 1259),.str s270 (nat_lit 1258)⟩,⟨kh P s470,.str s470 (nat_lit 2287),.ref (nat_lit 762)⟩]⟩ (nat_lit 37),⟨[]⟩⟩
noncomputable def o760 (P : Params) : Obj := ⟨.type "range",none,.fields ⟨[.int (.ofNat (nat_lit 0)) (nat_lit 1261),.int (.ofNat (nat_lit 256)) (nat_lit 1260),.int (.ofNat (nat_lit 1)) (nat_lit 1262)]⟩,⟨[]⟩⟩
noncomputable def o761 (P : Params) : Obj := ⟨.type "range_iterator",none,.fields ⟨[.int (.ofNat (nat_lit 256)) (nat_lit 0),.int (.ofNat (nat_lit 0)) (nat_lit 0),.int (.ofNat (nat_lit 1)) (nat_lit 0)]⟩,⟨[]⟩⟩
noncomputable def o762 (P : Params) : Obj := ⟨.type "list",none,.seq ⟨[.str s471 (nat_lit 1266),.str s472 (nat_lit 1270),.str s473 (nat_lit 1274),.str s474 (nat_lit 1278),.str s475 (nat_lit 1282),.str s476 (nat_lit 1286),.str s477 (nat_lit 1290),.str s478 (nat_lit 1294),.str s479 (nat_lit 1298),.str s480 (nat_lit 1302),.str s481 (nat_lit 1306),.str s482 (nat_lit 1310),.str s483 (nat_lit 1314),.str s484 (nat_lit 1318),.str s485 (nat_lit 1322),.str s486 (nat_lit 1326),.str s487 (nat_lit 1330),.str s488 (nat_lit 1334),.str s489 (nat_lit 1338),.str s490 (nat_lit 1342),.str s491 (nat_lit 1346),.str s492 (nat_lit 1350),.str s493 (nat_lit 1354),.str s494 (nat_lit 1358),.str s495 (nat_lit 1362),.str s496 (nat_lit 1366),.str s497 (nat_lit 1370),.str s498 (nat_lit 1374),.str s499 (nat_lit 1378),.str s500 (nat_lit 1382),.str s501 (nat_lit 1386),.str s502 (nat_lit 1390),.str s503 (nat_lit 1394),.str s504 (nat_lit 1398),.str s505 (nat_lit 1402),.str s506 (nat_lit 1406),.str s507 (nat_lit 1410),.str s508 (nat_lit 1414),.str s509 (nat_lit 1418),.str s510 (nat_lit 1422),.str s511 (nat_lit 1426),.str s512 (nat_lit 1430),.str s513 (nat_lit 1434),.str s514 (nat_lit 1438),.str s515 (nat_lit 1442),.str s516 (nat_lit 1446),.str s517 (nat_lit 1450),.str s518 (nat_lit 1454),.str s519 (nat_lit 1458),.str s520 (nat_lit 1462),.str s521 (nat_lit 1466),.str s522 (nat_lit 1470),.str s523 (nat_lit 1474),.str s524 (nat_lit 1478),.str s525 (nat_lit 1482),.str s526 (nat_lit 1486),.str s527 (nat_lit 1490),.str s528 (nat_lit 1494),.str s529 (nat_lit 1498),.str s530 (nat_lit 1502),.str s531 (nat_lit 1506),.str s532 (nat_lit 1510),.str s533 (nat_lit 1514),.str s534 (nat_lit 1518),.str s535 (nat_lit 1522),.str s536 (nat_lit 1526),.str s537 (nat_lit 1530),.str s538 (nat_lit 1534),.str s539 (nat_lit 1538),.str s540 (nat_lit 1542),.str s541 (nat_lit 1546),.str s542 (nat_lit 1550),.str s543 (nat_lit 1554),.str s544 (nat_lit 1558),.str s545 (nat_lit 1562),.str s546 (nat_lit 1566),.str s547 (nat_lit 1570),.str s548 (nat_lit 1574),.str s549 (nat_lit 1578),.str s550 (nat_lit 1582),.str s551 (nat_lit 1586),.str s552 (nat_lit 1590),.str s553 (nat_lit 1594),.str s554 (nat_lit 1598),.str s555 (nat_lit 1602),.str s556 (nat_lit 1606),.str s557 (nat_lit 1610),.str s558 (nat_lit 1614),.str s559 (nat_lit 1618),.str s560 (nat_lit 1622),.str s561 (nat_lit 1626),.str s562 (nat_lit 1630),.str s563 (nat_lit 1634),.str s564 (nat_lit 1638),.str s565 (nat_lit 1642),.str s566 (nat_lit 1646),.str s567 (nat_lit 1650),.str s568 (nat_lit 1654),.str s569 (nat_lit 1658),.str s570 (nat_lit 1662),.str s571 (nat_lit 1666),.str s572 (nat_lit 1670),.str s573 (nat_lit 1674),.str s574 (nat_lit 1678),.str s575 (nat_lit 1682),.str s576 (nat_lit 1686),.str s577 (nat_lit 1690),.str s578 (nat_lit 1694),.str s579 (nat_lit 1698),.str s580 (nat_lit 1702),.str s581 (nat_lit 1706),.str s582 (nat_lit 1710),.str s583 (nat_lit 1714),.str s584 (nat_lit 1718),.str s585 (nat_lit 1722),.str s586 (nat_lit 1726),.str s587 (nat_lit 1730),.str s588 (nat_lit 1734),.str s589 (nat_lit 1738),.str s590 (nat_lit 1742),.str s591 (nat_lit 1746),.str s592 (nat_lit 1750),.str s593 (nat_lit 1754),.str s594 (nat_lit 1758),.str s595 (nat_lit 1762),.str s596 (nat_lit 1766),.str s597 (nat_lit 1770),.str s598 (nat_lit 1774),.str s599 (nat_lit 1778),.str s600 (nat_lit 1782),.str s601 (nat_lit 1786),.str s602 (nat_lit 1790),.str s603 (nat_lit 1794),.str s604 (nat_lit 1798),.str s605 (nat_lit 1802),.str s606 (nat_lit 1806),.str s607 (nat_lit 1810),.str s608 (nat_lit 1814),.str s609 (nat_lit 1818),.str s610 (nat_lit 1822),.str s611 (nat_lit 1826),.str s612 (nat_lit 1830),.str s613 (nat_lit 1834),.str s614 (nat_lit 1838),.str s615 (nat_lit 1842),.str s616 (nat_lit 1846),.str s617 (nat_lit 1850),.str s618 (nat_lit 1854),.str s619 (nat_lit 1858),.str s620 (nat_lit 1862),.str s621 (nat_lit 1866),.str s622 (nat_lit 1870),.str s623 (nat_lit 1874),.str s624 (nat_lit 1878),.str s625 (nat_lit 1882),.str s626 (nat_lit 1886),.str s627 (nat_lit 1890),.str s628 (nat_lit 1894),.str s629 (nat_lit 1898),.str s630 (nat_lit 1902),.str s631 (nat_lit 1906),.str s632 (nat_lit 1910),.str s633 (nat_lit 1914),.str s634 (nat_lit 1918),.str s635 (nat_lit 1922),.str s636 (nat_lit 1926),.str s637 (nat_lit 1930),.str s638 (nat_lit 1934),.str s639 (nat_lit 1938),.str s640 (nat_lit 1942),.str s641 (nat_lit 1946),.str s642 (nat_lit 1950),.str s643 (nat_lit 1954),.str s644 (nat_lit 1958),.str s645 (nat_lit 1962),.str s646 (nat_lit 1966),.str s647 (nat_lit 1970),.str s648 (nat_lit 1974),.str s649 (nat_lit 1978),.str s650 (nat_lit 1982),.str s651 (nat_lit 1986),.str s652 (nat_lit 1990),.str s653 (nat_lit 1994),.str s654 (nat_lit 1998),.str s655 (nat_lit 2002),.str s656 (nat_lit 2006),.str s657 (nat_lit 2010),.str s658 (nat_lit 2014),.str s659 (nat_lit 2018),.str s660 (nat_lit 2022),.str s661 (nat_lit 2026),.str s662 (nat_lit 2030),.str s663 (nat_lit 2034),.str s664 (nat_lit 2038),.str s665 (nat_lit 2042),.str s666 (nat_lit 2046),.str s667 (nat_lit 2050),.str s668 (nat_lit 2054),.str s669 (nat_lit 2058),.str s670 (nat_lit 2062),.str s671 (nat_lit 2066),.str s672 (nat_lit 2070),.str s673 (nat_lit 2074),.str s674 (nat_lit 2078),.str s675 (nat_lit 2082),.str s676 (nat_lit 2086),.str s677 (nat_lit 2090),.str s678 (nat_lit 2094),.str s679 (nat_lit 2098),.str s680 (nat_lit 2102),.str s681 (nat_lit 2106),.str s682 (nat_lit 2110),.str s683 (nat_lit 2114),.str s684 (nat_lit 2118),.str s685 (nat_lit 2122),.str s686 (nat_lit 2126),.str s687 (nat_lit 2130),.str s688 (nat_lit 2134),.str s689 (nat_lit 2138),.str s690 (nat_lit 2142),.str s691 (nat_lit 2146),.str s692 (nat_lit 2150),.str s693 (nat_lit 2154),.str s694 (nat_lit 2158),.str s695 (nat_lit 2162),.str s696 (nat_lit 2166),.str s697 (nat_lit 2170),.str s698 (nat_lit 2174),.str s699 (nat_lit 2178),.str s700 (nat_lit 2182),.str s701 (nat_lit 2186),.str s702 (nat_lit 2190),.str s703 (nat_lit 2194),.str s704 (nat_lit 2198),.str s705 (nat_lit 2202),.str s706 (nat_lit 2206),.str s707 (nat_lit 2210),.str s708 (nat_lit 2214),.str s709 (nat_lit 2218),.str s710 (nat_lit 2222),.str s711 (nat_lit 2226),.str s712 (nat_lit 2230),.str s713 (nat_lit 2234),.str s714 (nat_lit 2238),.str s715 (nat_lit 2242),.str s716 (nat_lit 2246),.str s717 (nat_lit 2250),.str s718 (nat_lit 2254),.str s719 (nat_lit 2258),.str s720 (nat_lit 2262),.str s721 (nat_lit 2266),.str s722 (nat_lit 2270),.str s723 (nat_lit 2274),.str s724 (nat_lit 2278),.str s725 (nat_lit 2282),.str s726 (nat_lit 2286)]⟩ (nat_lit 256),⟨[]⟩⟩
noncomputable def o763 (P : Params) : Obj := ⟨.type "dict",none,.dict ⟨[]⟩ (nat_lit 2),⟨[]⟩⟩
noncomputable def o764 (P : Params) : Obj := ⟨.type "tuple",none,.seq ⟨[]⟩ (nat_lit 0),⟨[]⟩⟩
noncomputable def o765 (P : Params) : Obj := ⟨.type "StopIteration",none,.fields ⟨[.ref (nat_lit 764),.none,.none,.none,.bool false,.none]⟩,⟨[]⟩⟩
noncomputable def tq106 (P : Params) : BT := (n (o251 P) (n (o379 P) (n (o635 P) e e) e) (n (o507 P) (n (o763 P) e e) e))
noncomputable def tq107 (P : Params) : BT := (n (o27 P) (tq23 P) (n (o59 P) (tq25 P) (n (o123 P) (tq26 P) (tq106 P))))
noncomputable def tq108 (P : Params) : BT := (n (o11a P) (tq20 P) (tq107 P))
noncomputable def tq109 (P : Params) : BT := (n (o249 P) (n (o377 P) (n (o633 P) e e) e) (n (o505 P) (n (o761 P) e e) e))
noncomputable def tq110 (P : Params) : BT := (n (o25 P) (tq36 P) (n (o57 P) (tq38 P) (n (o121 P) (tq39 P) (tq109 P))))
noncomputable def tq111 (P : Params) : BT := (n (o253 P) (n (o381 P) (n (o637 P) e e) e) (n (o509 P) (n (o765 P) e e) e))
noncomputable def tq112 (P : Params) : BT := (n (o29a P) (tq49 P) (n (o61 P) (tq51 P) (n (o125 P) (tq52 P) (tq111 P))))
noncomputable def tq113 (P : Params) : BT := (n (o13 P) (tq46 P) (tq112 P))
noncomputable def tq114 (P : Params) : BT := (n (o248 P) (n (o376 P) (n (o632 P) e e) e) (n (o504 P) (n (o760 P) e e) e))
noncomputable def tq115 (P : Params) : BT := (n (o24 P) (tq62 P) (n (o56 P) (tq64 P) (n (o120 P) (tq65 P) (tq114 P))))
noncomputable def tq116 (P : Params) : BT := (n (o252 P) (n (o380 P) (n (o636 P) e e) e) (n (o508 P) (n (o764 P) e e) e))
noncomputable def tq117 (P : Params) : BT := (n (o28 P) (tq75 P) (n (o60 P) (tq77 P) (n (o124 P) (tq78 P) (tq116 P))))
noncomputable def tq118 (P : Params) : BT := (n (o12 P) (tq72 P) (tq117 P))
noncomputable def tq119 (P : Params) : BT := (n (o250 P) (n (o378 P) (n (o634 P) e e) e) (n (o506 P) (n (o762 P) e e) e))
noncomputable def tq120 (P : Params) : BT := (n (o26 P) (tq88 P) (n (o58 P) (tq90 P) (n (o122 P) (tq91 P) (tq119 P))))
noncomputable def tq121 (P : Params) : BT := (n (o10 P) (tq85 P) (tq120 P))
noncomputable def T30 (P : Params) : BT := (n (o0 P) (n (o1 P) (n (o3b P) (tq13 P) (tq108 P)) (n (o5 P) (n (o9 P) (tq33 P) (tq110 P)) (tq113 P))) (n (o2a P) (n (o4 P) (n (o8 P) (tq59 P) (tq115 P)) (tq118 P)) (n (o6 P) (tq121 P) (tq105 P))))
noncomputable def o3c (P : Params) : Obj := ⟨.type "dict",none,.dict ⟨[⟨kh P s0,.str s0 (nat_lit 165),.str s727 (nat_lit 2298)⟩,⟨kh P s2,.str s2 (nat_lit 166),.none⟩,⟨kh P s3,.str s3 (nat_lit 167),.none⟩,⟨kh P s4,.str s4 (nat_lit 168),.builtin "__main__.__loader__#opaque"⟩,⟨kh P s5,.str s5 (nat_lit 169),.none⟩,⟨kh P s179,.str s179 (nat_lit 170),.ref (nat_lit 6)⟩,⟨kh P s180,.str s180 (nat_lit 171),.ref (nat_lit 4)⟩,⟨kh P s181,.str s181 (nat_lit 173),.str s182 (nat_lit 172)⟩,⟨kh P s183,.str s183 (nat_lit 174),.none⟩,⟨kh P s161,.str s161 (nat_lit 275),.ref (nat_lit 12)⟩,⟨kh P s184,.str s184 (nat_lit 317),.type "collections.deque"⟩,⟨kh P s244,.str s244 (nat_lit 330),.ref (nat_lit 44)⟩,⟨kh P s245,.str s245 (nat_lit 370),.ref (nat_lit 49)⟩,⟨kh P s246,.str s246 (nat_lit 380),.ref (nat_lit 56)⟩,⟨kh P s247,.str s247 (nat_lit 388),.ref (nat_lit 63)⟩,⟨kh P s248,.str s248 (nat_lit 410),.ref (nat_lit 73)⟩,⟨kh P s249,.str s249 (nat_lit 442),.ref (nat_lit 93)⟩,⟨kh P s250,.str s250 (nat_lit 460),.ref (nat_lit 108)⟩,⟨kh P s251,.str s251 (nat_lit 478),.ref (nat_lit 120)⟩,⟨kh P s252,.str s252 (nat_lit 740),.ref (nat_lit 350)⟩,⟨kh P s253,.str s253 (nat_lit 1027),.ref (nat_lit 597)⟩,⟨kh P s254,.str s254 (nat_lit 1038),.ref (nat_lit 606)⟩,⟨kh P s255,.str s255 (nat_lit 1047),.ref (nat_lit 613)⟩,⟨kh P s256,.str s256 (nat_lit 1057),.ref (nat_lit 620)⟩,⟨kh P s257,.str s257 (nat_lit 1064),.ref (nat_lit 627)⟩,⟨kh P s258,.str s258 (nat_lit 1075),.ref (nat_lit 751)⟩,⟨kh P s259,.str s259 (nat_lit 1076),.ref (nat_lit 634)⟩,⟨kh P s260,.str s260 (nat_lit 1086),.ref (nat_lit 641)⟩,⟨kh P s261,.str s261 (nat_lit 1227),.ref (nat_lit 732)⟩,⟨kh P s262,.str s262 (nat_lit 1237),.ref (nat_lit 744)⟩,⟨kh P s263,.str s263 (nat_lit 1245),.ref (nat_lit 751)⟩,⟨kh P s264,.str s264 (nat_lit 1247),.ref (nat_lit 752)⟩,⟨kh P s265,.str s265 (nat_lit 1254),.ref (nat_lit 759)⟩,⟨kh P s266,.str s266 (nat_lit 1255),.ref (nat_lit 759)⟩,⟨kh P s267,.str s267 (nat_lit 1257),.str s268 (nat_lit 1256)⟩,⟨kh P s269,.str s269 (nat_lit 1259),.str s270 (nat_lit 1258)⟩,⟨kh P s470,.str s470 (nat_lit 2287),.ref (nat_lit 762)⟩,⟨kh P s728,.str s728 (nat_lit 2288),.ref (nat_lit 767)⟩,⟨kh P s729,.str s729 (nat_lit 2289),.ref (nat_lit 769)⟩,⟨kh P s730,.str s730 (nat_lit 2291),.str s731 (nat_lit 2290)⟩,⟨kh P s732,.str s732 (nat_lit 2293),.str s733 (nat_lit 2292)⟩,⟨kh P s734,.str s734 (nat_lit 2295),.str s735 (nat_lit 2294)⟩,⟨kh P s736,.str s736 (nat_lit 2297),.str s737 (nat_lit 2296)⟩]⟩ (nat_lit 43),⟨[]⟩⟩
noncomputable def o766 (P : Params) : Obj := ⟨.type "slice",none,.fields ⟨[.none,.none,.none]⟩,⟨[]⟩⟩
noncomputable def o767 (P : Params) : Obj := ⟨.type "list",none,.seq ⟨[.str s471 (nat_lit 1266),.str s472 (nat_lit 1270),.str s473 (nat_lit 1274),.str s474 (nat_lit 1278),.str s475 (nat_lit 1282),.str s476 (nat_lit 1286),.str s477 (nat_lit 1290),.str s478 (nat_lit 1294),.str s479 (nat_lit 1298),.str s480 (nat_lit 1302),.str s481 (nat_lit 1306),.str s482 (nat_lit 1310),.str s483 (nat_lit 1314),.str s484 (nat_lit 1318),.str s485 (nat_lit 1322),.str s486 (nat_lit 1326),.str s487 (nat_lit 1330),.str s488 (nat_lit 1334),.str s489 (nat_lit 1338),.str s490 (nat_lit 1342),.str s491 (nat_lit 1346),.str s492 (nat_lit 1350),.str s493 (nat_lit 1354),.str s494 (nat_lit 1358),.str s495 (nat_lit 1362),.str s496 (nat_lit 1366),.str s497 (nat_lit 1370),.str s498 (nat_lit 1374),.str s499 (nat_lit 1378),.str s500 (nat_lit 1382),.str s501 (nat_lit 1386),.str s502 (nat_lit 1390),.str s503 (nat_lit 1394),.str s504 (nat_lit 1398),.str s505 (nat_lit 1402),.str s506 (nat_lit 1406),.str s507 (nat_lit 1410),.str s508 (nat_lit 1414),.str s509 (nat_lit 1418),.str s510 (nat_lit 1422),.str s511 (nat_lit 1426),.str s512 (nat_lit 1430),.str s513 (nat_lit 1434),.str s514 (nat_lit 1438),.str s515 (nat_lit 1442),.str s516 (nat_lit 1446),.str s517 (nat_lit 1450),.str s518 (nat_lit 1454),.str s519 (nat_lit 1458),.str s520 (nat_lit 1462),.str s521 (nat_lit 1466),.str s522 (nat_lit 1470),.str s523 (nat_lit 1474),.str s524 (nat_lit 1478),.str s525 (nat_lit 1482),.str s526 (nat_lit 1486),.str s527 (nat_lit 1490),.str s528 (nat_lit 1494),.str s529 (nat_lit 1498),.str s530 (nat_lit 1502),.str s531 (nat_lit 1506),.str s532 (nat_lit 1510),.str s533 (nat_lit 1514),.str s534 (nat_lit 1518),.str s535 (nat_lit 1522),.str s536 (nat_lit 1526),.str s537 (nat_lit 1530),.str s538 (nat_lit 1534),.str s539 (nat_lit 1538),.str s540 (nat_lit 1542),.str s541 (nat_lit 1546),.str s542 (nat_lit 1550),.str s543 (nat_lit 1554),.str s544 (nat_lit 1558),.str s545 (nat_lit 1562),.str s546 (nat_lit 1566),.str s547 (nat_lit 1570),.str s548 (nat_lit 1574),.str s549 (nat_lit 1578),.str s550 (nat_lit 1582),.str s551 (nat_lit 1586),.str s552 (nat_lit 1590),.str s553 (nat_lit 1594),.str s554 (nat_lit 1598),.str s555 (nat_lit 1602),.str s556 (nat_lit 1606),.str s557 (nat_lit 1610),.str s558 (nat_lit 1614),.str s559 (nat_lit 1618),.str s560 (nat_lit 1622),.str s561 (nat_lit 1626),.str s562 (nat_lit 1630),.str s563 (nat_lit 1634),.str s564 (nat_lit 1638),.str s565 (nat_lit 1642),.str s566 (nat_lit 1646),.str s567 (nat_lit 1650),.str s568 (nat_lit 1654),.str s569 (nat_lit 1658),.str s570 (nat_lit 1662),.str s571 (nat_lit 1666),.str s572 (nat_lit 1670),.str s573 (nat_lit 1674),.str s574 (nat_lit 1678),.str s575 (nat_lit 1682),.str s576 (nat_lit 1686),.str s577 (nat_lit 1690),.str s578 (nat_lit 1694),.str s579 (nat_lit 1698),.str s580 (nat_lit 1702),.str s581 (nat_lit 1706),.str s582 (nat_lit 1710),.str s583 (nat_lit 1714),.str s584 (nat_lit 1718),.str s585 (nat_lit 1722),.str s586 (nat_lit 1726),.str s587 (nat_lit 1730),.str s588 (nat_lit 1734),.str s589 (nat_lit 1738),.str s590 (nat_lit 1742),.str s591 (nat_lit 1746),.str s592 (nat_lit 1750),.str s593 (nat_lit 1754),.str s594 (nat_lit 1758),.str s595 (nat_lit 1762),.str s596 (nat_lit 1766),.str s597 (nat_lit 1770),.str s598 (nat_lit 1774),.str s599 (nat_lit 1778),.str s600 (nat_lit 1782),.str s601 (nat_lit 1786),.str s602 (nat_lit 1790),.str s603 (nat_lit 1794),.str s604 (nat_lit 1798),.str s605 (nat_lit 1802),.str s606 (nat_lit 1806),.str s607 (nat_lit 1810),.str s608 (nat_lit 1814),.str s609 (nat_lit 1818),.str s610 (nat_lit 1822),.str s611 (nat_lit 1826),.str s612 (nat_lit 1830),.str s613 (nat_lit 1834),.str s614 (nat_lit 1838),.str s615 (nat_lit 1842),.str s616 (nat_lit 1846),.str s617 (nat_lit 1850),.str s618 (nat_lit 1854),.str s619 (nat_lit 1858),.str s620 (nat_lit 1862),.str s621 (nat_lit 1866),.str s622 (nat_lit 1870),.str s623 (nat_lit 1874),.str s624 (nat_lit 1878),.str s625 (nat_lit 1882),.str s626 (nat_lit 1886),.str s627 (nat_lit 1890),.str s628 (nat_lit 1894),.str s629 (nat_lit 1898),.str s630 (nat_lit 1902),.str s631 (nat_lit 1906),.str s632 (nat_lit 1910),.str s633 (nat_lit 1914),.str s634 (nat_lit 1918),.str s635 (nat_lit 1922),.str s636 (nat_lit 1926),.str s637 (nat_lit 1930),.str s638 (nat_lit 1934),.str s639 (nat_lit 1938),.str s640 (nat_lit 1942),.str s641 (nat_lit 1946),.str s642 (nat_lit 1950),.str s643 (nat_lit 1954),.str s644 (nat_lit 1958),.str s645 (nat_lit 1962),.str s646 (nat_lit 1966),.str s647 (nat_lit 1970),.str s648 (nat_lit 1974),.str s649 (nat_lit 1978),.str s650 (nat_lit 1982),.str s651 (nat_lit 1986),.str s652 (nat_lit 1990),.str s653 (nat_lit 1994),.str s654 (nat_lit 1998),.str s655 (nat_lit 2002),.str s656 (nat_lit 2006),.str s657 (nat_lit 2010),.str s658 (nat_lit 2014),.str s659 (nat_lit 2018),.str s660 (nat_lit 2022),.str s661 (nat_lit 2026),.str s662 (nat_lit 2030),.str s663 (nat_lit 2034),.str s664 (nat_lit 2038),.str s665 (nat_lit 2042),.str s666 (nat_lit 2046),.str s667 (nat_lit 2050),.str s668 (nat_lit 2054),.str s669 (nat_lit 2058),.str s670 (nat_lit 2062),.str s671 (nat_lit 2066),.str s672 (nat_lit 2070),.str s673 (nat_lit 2074),.str s674 (nat_lit 2078),.str s675 (nat_lit 2082),.str s676 (nat_lit 2086),.str s677 (nat_lit 2090),.str s678 (nat_lit 2094),.str s679 (nat_lit 2098),.str s680 (nat_lit 2102),.str s681 (nat_lit 2106),.str s682 (nat_lit 2110),.str s683 (nat_lit 2114),.str s684 (nat_lit 2118),.str s685 (nat_lit 2122),.str s686 (nat_lit 2126),.str s687 (nat_lit 2130),.str s688 (nat_lit 2134),.str s689 (nat_lit 2138),.str s690 (nat_lit 2142),.str s691 (nat_lit 2146),.str s692 (nat_lit 2150),.str s693 (nat_lit 2154),.str s694 (nat_lit 2158),.str s695 (nat_lit 2162),.str s696 (nat_lit 2166),.str s697 (nat_lit 2170),.str s698 (nat_lit 2174),.str s699 (nat_lit 2178),.str s700 (nat_lit 2182),.str s701 (nat_lit 2186),.str s702 (nat_lit 2190),.str s703 (nat_lit 2194),.str s704 (nat_lit 2198),.str s705 (nat_lit 2202),.str s706 (nat_lit 2206),.str s707 (nat_lit 2210),.str s708 (nat_lit 2214),.str s709 (nat_lit 2218),.str s710 (nat_lit 2222),.str s711 (nat_lit 2226),.str s712 (nat_lit 2230),.str s713 (nat_lit 2234),.str s714 (nat_lit 2238),.str s715 (nat_lit 2242),.str s716 (nat_lit 2246),.str s717 (nat_lit 2250),.str s718 (nat_lit 2254),.str s719 (nat_lit 2258),.str s720 (nat_lit 2262),.str s721 (nat_lit 2266),.str s722 (nat_lit 2270),.str s723 (nat_lit 2274),.str s724 (nat_lit 2278),.str s725 (nat_lit 2282),.str s726 (nat_lit 2286)]⟩ (nat_lit 0),⟨[]⟩⟩
noncomputable def o768 (P : Params) : Obj := ⟨.type "slice",none,.fields ⟨[.none,.none,.none]⟩,⟨[]⟩⟩
noncomputable def o769 (P : Params) : Obj := ⟨.type "list",none,.seq ⟨[.str s471 (nat_lit 1266),.str s472 (nat_lit 1270),.str s473 (nat_lit 1274),.str s474 (nat_lit 1278),.str s475 (nat_lit 1282),.str s476 (nat_lit 1286),.str s477 (nat_lit 1290),.str s478 (nat_lit 1294),.str s479 (nat_lit 1298),.str s480 (nat_lit 1302),.str s481 (nat_lit 1306),.str s482 (nat_lit 1310),.str s483 (nat_lit 1314),.str s484 (nat_lit 1318),.str s485 (nat_lit 1322),.str s486 (nat_lit 1326),.str s487 (nat_lit 1330),.str s488 (nat_lit 1334),.str s489 (nat_lit 1338),.str s490 (nat_lit 1342),.str s491 (nat_lit 1346),.str s492 (nat_lit 1350),.str s493 (nat_lit 1354),.str s494 (nat_lit 1358),.str s495 (nat_lit 1362),.str s496 (nat_lit 1366),.str s497 (nat_lit 1370),.str s498 (nat_lit 1374),.str s499 (nat_lit 1378),.str s500 (nat_lit 1382),.str s501 (nat_lit 1386),.str s502 (nat_lit 1390),.str s503 (nat_lit 1394),.str s504 (nat_lit 1398),.str s505 (nat_lit 1402),.str s506 (nat_lit 1406),.str s507 (nat_lit 1410),.str s508 (nat_lit 1414),.str s509 (nat_lit 1418),.str s510 (nat_lit 1422),.str s511 (nat_lit 1426),.str s512 (nat_lit 1430),.str s513 (nat_lit 1434),.str s514 (nat_lit 1438),.str s515 (nat_lit 1442),.str s516 (nat_lit 1446),.str s517 (nat_lit 1450),.str s518 (nat_lit 1454),.str s519 (nat_lit 1458),.str s520 (nat_lit 1462),.str s521 (nat_lit 1466),.str s522 (nat_lit 1470),.str s523 (nat_lit 1474),.str s524 (nat_lit 1478),.str s525 (nat_lit 1482),.str s526 (nat_lit 1486),.str s527 (nat_lit 1490),.str s528 (nat_lit 1494),.str s529 (nat_lit 1498),.str s530 (nat_lit 1502),.str s531 (nat_lit 1506),.str s532 (nat_lit 1510),.str s533 (nat_lit 1514),.str s534 (nat_lit 1518),.str s535 (nat_lit 1522),.str s536 (nat_lit 1526),.str s537 (nat_lit 1530),.str s538 (nat_lit 1534),.str s539 (nat_lit 1538),.str s540 (nat_lit 1542),.str s541 (nat_lit 1546),.str s542 (nat_lit 1550),.str s543 (nat_lit 1554),.str s544 (nat_lit 1558),.str s545 (nat_lit 1562),.str s546 (nat_lit 1566),.str s547 (nat_lit 1570),.str s548 (nat_lit 1574),.str s549 (nat_lit 1578),.str s550 (nat_lit 1582),.str s551 (nat_lit 1586),.str s552 (nat_lit 1590),.str s553 (nat_lit 1594),.str s554 (nat_lit 1598),.str s555 (nat_lit 1602),.str s556 (nat_lit 1606),.str s557 (nat_lit 1610),.str s558 (nat_lit 1614),.str s559 (nat_lit 1618),.str s560 (nat_lit 1622),.str s561 (nat_lit 1626),.str s562 (nat_lit 1630),.str s563 (nat_lit 1634),.str s564 (nat_lit 1638),.str s565 (nat_lit 1642),.str s566 (nat_lit 1646),.str s567 (nat_lit 1650),.str s568 (nat_lit 1654),.str s569 (nat_lit 1658),.str s570 (nat_lit 1662),.str s571 (nat_lit 1666),.str s572 (nat_lit 1670),.str s573 (nat_lit 1674),.str s574 (nat_lit 1678),.str s575 (nat_lit 1682),.str s576 (nat_lit 1686),.str s577 (nat_lit 1690),.str s578 (nat_lit 1694),.str s579 (nat_lit 1698),.str s580 (nat_lit 1702),.str s581 (nat_lit 1706),.str s582 (nat_lit 1710),.str s583 (nat_lit 1714),.str s584 (nat_lit 1718),.str s585 (nat_lit 1722),.str s586 (nat_lit 1726),.str s587 (nat_lit 1730),.str s588 (nat_lit 1734),.str s589 (nat_lit 1738),.str s590 (nat_lit 1742),.str s591 (nat_lit 1746),.str s592 (nat_lit 1750),.str s593 (nat_lit 1754),.str s594 (nat_lit 1758),.str s595 (nat_lit 1762),.str s596 (nat_lit 1766),.str s597 (nat_lit 1770),.str s598 (nat_lit 1774),.str s599 (nat_lit 1778),.str s600 (nat_lit 1782),.str s601 (nat_lit 1786),.str s602 (nat_lit 1790),.str s603 (nat_lit 1794),.str s604 (nat_lit 1798),.str s605 (nat_lit 1802),.str s606 (nat_lit 1806),.str s607 (nat_lit 1810),.str s608 (nat_lit 1814),.str s609 (nat_lit 1818),.str s610 (nat_lit 1822),.str s611 (nat_lit 1826),.str s612 (nat_lit 1830),.str s613 (nat_lit 1834),.str s614 (nat_lit 1838),.str s615 (nat_lit 1842),.str s616 (nat_lit 1846),.str s617 (nat_lit 1850),.str s618 (nat_lit 1854),.str s619 (nat_lit 1858),.str s620 (nat_lit 1862),.str s621 (nat_lit 1866),.str s622 (nat_lit 1870),.str s623 (nat_lit 1874),.str s624 (nat_lit 1878),.str s625 (nat_lit 1882),.str s626 (nat_lit 1886),.str s627 (nat_lit 1890),.str s628 (nat_lit 1894),.str s629 (nat_lit 1898),.str s630 (nat_lit 1902),.str s631 (nat_lit 1906),.str s632 (nat_lit 1910),.str s633 (nat_lit 1914),.str s634 (nat_lit 1918),.str s635 (nat_lit 1922),.str s636 (nat_lit 1926),.str s637 (nat_lit 1930),.str s638 (nat_lit 1934),.str s639 (nat_lit 1938),.str s640 (nat_lit 1942),.str s641 (nat_lit 1946),.str s642 (nat_lit 1950),.str s643 (nat_lit 1954),.str s644 (nat_lit 1958),.str s645 (nat_lit 1962),.str s646 (nat_lit 1966),.str s647 (nat_lit 1970),.str s648 (nat_lit 1974),.str s649 (nat_lit 1978),.str s650 (nat_lit 1982),.str s651 (nat_lit 1986),.str s652 (nat_lit 1990),.str s653 (nat_lit 1994),.str s654 (nat_lit 1998),.str s655 (nat_lit 2002),.str s656 (nat_lit 2006),.str s657 (nat_lit 2010),.str s658 (nat_lit 2014),.str s659 (nat_lit 2018),.str s660 (nat_lit 2022),.str s661 (nat_lit 2026),.str s662 (nat_lit 2030),.str s663 (nat_lit 2034),.str s664 (nat_lit 2038),.str s665 (nat_lit 2042),.str s666 (nat_lit 2046),.str s667 (nat_lit 2050),.str s668 (nat_lit 2054),.str s669 (nat_lit 2058),.str s670 (nat_lit 2062),.str s671 (nat_lit 2066),.str s672 (nat_lit 2070),.str s673 (nat_lit 2074),.str s674 (nat_lit 2078),.str s675 (nat_lit 2082),.str s676 (nat_lit 2086),.str s677 (nat_lit 2090),.str s678 (nat_lit 2094),.str s679 (nat_lit 2098),.str s680 (nat_lit 2102),.str s681 (nat_lit 2106),.str s682 (nat_lit 2110),.str s683 (nat_lit 2114),.str s684 (nat_lit 2118),.str s685 (nat_lit 2122),.str s686 (nat_lit 2126),.str s687 (nat_lit 2130),.str s688 (nat_lit 2134),.str s689 (nat_lit 2138),.str s690 (nat_lit 2142),.str s691 (nat_lit 2146),.str s692 (nat_lit 2150),.str s693 (nat_lit 2154),.str s694 (nat_lit 2158),.str s695 (nat_lit 2162),.str s696 (nat_lit 2166),.str s697 (nat_lit 2170),.str s698 (nat_lit 2174),.str s699 (nat_lit 2178),.str s700 (nat_lit 2182),.str s701 (nat_lit 2186),.str s702 (nat_lit 2190),.str s703 (nat_lit 2194),.str s704 (nat_lit 2198),.str s705 (nat_lit 2202),.str s706 (nat_lit 2206),.str s707 (nat_lit 2210),.str s708 (nat_lit 2214),.str s709 (nat_lit 2218),.str s710 (nat_lit 2222),.str s711 (nat_lit 2226),.str s712 (nat_lit 2230),.str s713 (nat_lit 2234),.str s714 (nat_lit 2238),.str s715 (nat_lit 2242),.str s716 (nat_lit 2246),.str s717 (nat_lit 2250),.str s718 (nat_lit 2254),.str s719 (nat_lit 2258),.str s720 (nat_lit 2262),.str s721 (nat_lit 2266),.str s722 (nat_lit 2270),.str s723 (nat_lit 2274),.str s724 (nat_lit 2278),.str s725 (nat_lit 2282),.str s726 (nat_lit 2286)]⟩ (nat_lit 0),⟨[]⟩⟩
noncomputable def tq122 (P : Params) : BT := (n (o5 P) (n (o9 P) (n (o17 P) (n (o33 P) (n (o65 P) (n (o129 P) (n (o257 P) (n (o513 P) e e) (n (o769 P) e e)) (n (o385 P) (n (o641 P) e e) e)) (tq27 P)) (tq29 P)) (tq32 P)) (tq110 P)) (tq113 P))
noncomputable def tq123 (P : Params) : BT := (n (o64 P) (n (o128 P) (n (o256 P) (n (o512 P) e e) (n (o768 P) e e)) (n (o384 P) (n (o640 P) e e) e)) (tq53 P))
noncomputable def tq124 (P : Params) : BT := (n (o8 P) (n (o16 P) (n (o32 P) (tq123 P) (tq55 P)) (tq58 P)) (tq115 P))
noncomputable def tq125 (P : Params) : BT := (n (o254 P) (n (o382 P) (n (o638 P) e e) e) (n (o510 P) (n (o766 P) e e) e))
noncomputable def tq126 (P : Params) : BT := (n (o30 P) (tq101 P) (n (o62 P) (tq103 P) (n (o126 P) (tq104 P) (tq125 P))))
noncomputable def tq127 (P : Params) : BT := (n (o14 P) (tq98 P) (tq126 P))
noncomputable def T37 (P : Params) : BT := (n (o0 P) (n (o1 P) (n (o3c P) (n (o7 P) (n (o15 P) (n (o31 P) (n (o63 P) (n (o127 P) (n (o255 P) (n (o511 P) e e) (n (o767 P) e e)) (n (o383 P) (n (o639 P) e e) e)) (tq0 P)) (tq2 P)) (tq5 P)) (tq12 P)) (tq108 P)) (tq122 P)) (n (o2a P) (n (o4 P) (tq124 P) (tq118 P)) (n (o6 P) (tq121 P) (tq127 P))))
noncomputable def o3d (P : Params) : Obj := ⟨.type "dict",none,.dict ⟨[⟨kh P s0,.str s0 (nat_lit 165),.str s727 (nat_lit 2298)⟩,⟨kh P s2,.str s2 (nat_lit 166),.none⟩,⟨kh P s3,.str s3 (nat_lit 167),.none⟩,⟨kh P s4,.str s4 (nat_lit 168),.builtin "__main__.__loader__#opaque"⟩,⟨kh P s5,.str s5 (nat_lit 169),.none⟩,⟨kh P s179,.str s179 (nat_lit 170),.ref (nat_lit 6)⟩,⟨kh P s180,.str s180 (nat_lit 171),.ref (nat_lit 4)⟩,⟨kh P s181,.str s181 (nat_lit 173),.str s182 (nat_lit 172)⟩,⟨kh P s183,.str s183 (nat_lit 174),.none⟩,⟨kh P s161,.str s161 (nat_lit 275),.ref (nat_lit 12)⟩,⟨kh P s184,.str s184 (nat_lit 317),.type "collections.deque"⟩,⟨kh P s244,.str s244 (nat_lit 330),.ref (nat_lit 44)⟩,⟨kh P s245,.str s245 (nat_lit 370),.ref (nat_lit 49)⟩,⟨kh P s246,.str s246 (nat_lit 380),.ref (nat_lit 56)⟩,⟨kh P s247,.str s247 (nat_lit 388),.ref (nat_lit 63)⟩,⟨kh P s248,.str s248 (nat_lit 410),.ref (nat_lit 73)⟩,⟨kh P s249,.str s249 (nat_lit 442),.ref (nat_lit 93)⟩,⟨kh P s250,.str s250 (nat_lit 460),.ref (nat_lit 108)⟩,⟨kh P s251,.str s251 (nat_lit 478),.ref (nat_lit 120)⟩,⟨kh P s252,.str s252 (nat_lit 740),.ref (nat_lit 350)⟩,⟨kh P s253,.str s253 (nat_lit 1027),.ref (nat_lit 597)⟩,⟨kh P s254,.str s254 (nat_lit 1038),.ref (nat_lit 606)⟩,⟨kh P s255,.str s255 (nat_lit 1047),.ref (nat_lit 613)⟩,⟨kh P s256,.str s256 (nat_lit 1057),.ref (nat_lit 620)⟩,⟨kh P s257,.str s257 (nat_lit 1064),.ref (nat_lit 627)⟩,⟨kh P s258,.str s258 (nat_lit 1075),.ref (nat_lit 751)⟩,⟨kh P s259,.str s259 (nat_lit 1076),.ref (nat_lit 634)⟩,⟨kh P s260,.str s260 (nat_lit 1086),.ref (nat_lit 641)⟩,⟨kh P s261,.str s261 (nat_lit 1227),.ref (nat_lit 732)⟩,⟨kh P s262,.str s262 (nat_lit 1237),.ref (nat_lit 744)⟩,⟨kh P s263,.str s263 (nat_lit 1245),.ref (nat_lit 751)⟩,⟨kh P s264,.str s264 (nat_lit 1247),.ref (nat_lit 752)⟩,⟨kh P s265,.str s265 (nat_lit 1254),.ref (nat_lit 759)⟩,⟨kh P s266,.str s266 (nat_lit 1255),.ref (nat_lit 759)⟩,⟨kh P s267,.str s267 (nat_lit 1257),.str s268 (nat_lit 1256)⟩,⟨kh P s269,.str s269 (nat_lit 1259),.str s270 (nat_lit 1258)⟩,⟨kh P s470,.str s470 (nat_lit 2287),.ref (nat_lit 762)⟩,⟨kh P s728,.str s728 (nat_lit 2288),.ref (nat_lit 767)⟩,⟨kh P s729,.str s729 (nat_lit 2289),.ref (nat_lit 769)⟩,⟨kh P s730,.str s730 (nat_lit 2291),.str s731 (nat_lit 2290)⟩,⟨kh P s732,.str s732 (nat_lit 2293),.str s733 (nat_lit 2292)⟩,⟨kh P s734,.str s734 (nat_lit 2295),.str s735 (nat_lit 2294)⟩,⟨kh P s736,.str s736 (nat_lit 2297),.str s737 (nat_lit 2296)⟩,⟨kh P s738,.str s738 (nat_lit 2308),.int (.ofNat (nat_lit 57)) (nat_lit 2505)⟩]⟩ (nat_lit 44),⟨[]⟩⟩
noncomputable def o767a (P : Params) : Obj := ⟨.type "list",none,.seq ⟨[.str s471 (nat_lit 1266),.str s472 (nat_lit 1270),.str s473 (nat_lit 1274),.str s474 (nat_lit 1278),.str s475 (nat_lit 1282),.str s476 (nat_lit 1286),.str s477 (nat_lit 1290),.str s478 (nat_lit 1294),.str s479 (nat_lit 1298),.str s480 (nat_lit 1302),.str s481 (nat_lit 1306),.str s482 (nat_lit 1310),.str s483 (nat_lit 1314),.str s484 (nat_lit 1318),.str s485 (nat_lit 1322),.str s486 (nat_lit 1326),.str s487 (nat_lit 1330),.str s488 (nat_lit 1334),.str s489 (nat_lit 1338),.str s490 (nat_lit 1342),.str s491 (nat_lit 1346),.str s492 (nat_lit 1350),.str s493 (nat_lit 1354),.str s494 (nat_lit 1358),.str s495 (nat_lit 1362),.str s496 (nat_lit 1366),.str s497 (nat_lit 1370),.str s498 (nat_lit 1374),.str s499 (nat_lit 1378),.str s500 (nat_lit 1382),.str s501 (nat_lit 1386),.str s502 (nat_lit 1390),.str s503 (nat_lit 1394),.str s739 (nat_lit 2312),.str s505 (nat_lit 1402),.str s506 (nat_lit 1406),.str s507 (nat_lit 1410),.str s508 (nat_lit 1414),.str s509 (nat_lit 1418),.str s510 (nat_lit 1422),.str s511 (nat_lit 1426),.str s512 (nat_lit 1430),.str s740 (nat_lit 2315),.str s741 (nat_lit 2318),.str s515 (nat_lit 1442),.str s742 (nat_lit 2309),.str s517 (nat_lit 1450),.str s743 (nat_lit 2321),.str s744 (nat_lit 2480),.str s745 (nat_lit 2483),.str s746 (nat_lit 2486),.str s747 (nat_lit 2489),.str s748 (nat_lit 2492),.str s749 (nat_lit 2495),.str s750 (nat_lit 2498),.str s751 (nat_lit 2501),.str s752 (nat_lit 2504),.str s753 (nat_lit 2507),.str s529 (nat_lit 1498),.str s530 (nat_lit 1502),.str s531 (nat_lit 1506),.str s532 (nat_lit 1510),.str s533 (nat_lit 1514),.str s534 (nat_lit 1518),.str s535 (nat_lit 1522),.str s754 (nat_lit 2402),.str s755 (nat_lit 2405),.str s756 (nat_lit 2408),.str s757 (nat_lit 2411),.str s758 (nat_lit 2414),.str s759 (nat_lit 2417),.str s760 (nat_lit 2420),.str s761 (nat_lit 2423),.str s762 (nat_lit 2426),.str s763 (nat_lit 2429),.str s764 (nat_lit 2432),.str s765 (nat_lit 2435),.str s766 (nat_lit 2438),.str s767 (nat_lit 2441),.str s768 (nat_lit 2444),.str s769 (nat_lit 2447),.str s770 (nat_lit 2450),.str s771 (nat_lit 2453),.str s772 (nat_lit 2456),.str s773 (nat_lit 2459),.str s774 (nat_lit 2462),.str s775 (nat_lit 2465),.str s776 (nat_lit 2468),.str s777 (nat_lit 2471),.str s778 (nat_lit 2474),.str s779 (nat_lit 2477),.str s562 (nat_lit 1630),.str s563 (nat_lit 1634),.str s564 (nat_lit 1638),.str s565 (nat_lit 1642),.str s566 (nat_lit 1646),.str s567 (nat_lit 1650),.str s414 (nat_lit 2324),.str s351 (nat_lit 2327),.str s738 (nat_lit 2330),.str s780 (nat_lit 2333),.str s781 (nat_lit 2336),.str s782 (nat_lit 2339),.str s783 (nat_lit 2342),.str s784 (nat_lit 2345),.str s319 (nat_lit 2348),.str s376 (nat_lit 2351),.str s271 (nat_lit 2354),.str s785 (nat_lit 2357),.str s404 (nat_lit 2360),.str s273 (nat_lit 2363),.str s786 (nat_lit 2366),.str s415 (nat_lit 2369),.str s787 (nat_lit 2372),.str s788 (nat_lit 2375),.str s369 (nat_lit 2378),.str s411 (nat_lit 2381),.str s789 (nat_lit 2384),.str s790 (nat_lit 2387),.str s791 (nat_lit 2390),.str s410 (nat_lit 2393),.str s792 (nat_lit 2396),.str s793 (nat_lit 2399),.str s594 (nat_lit 1758),.str s595 (nat_lit 1762),.str s596 (nat_lit 1766),.str s597 (nat_lit 1770),.str s598 (nat_lit 1774),.str s599 (nat_lit 1778),.str s600 (nat_lit 1782),.str s601 (nat_lit 1786),.str s602 (nat_lit 1790),.str s603 (nat_lit 1794),.str s604 (nat_lit 1798),.str s605 (nat_lit 1802),.str s606 (nat_lit 1806),.str s607 (nat_lit 1810),.str s608 (nat_lit 1814),.str s609 (nat_lit 1818),.str s610 (nat_lit 1822),.str s611 (nat_lit 1826),.str s612 (nat_lit 1830),.str s613 (nat_lit 1834),.str s614 (nat_lit 1838),.str s615 (nat_lit 1842),.str s616 (nat_lit 1846),.str s617 (nat_lit 1850),.str s618 (nat_lit 1854),.str s619 (nat_lit 1858),.str s620 (nat_lit 1862),.str s621 (nat_lit 1866),.str s622 (nat_lit 1870),.str s623 (nat_lit 1874),.str s624 (nat_lit 1878),.str s625 (nat_lit 1882),.str s626 (nat_lit 1886),.str s627 (nat_lit 1890),.str s628 (nat_lit 1894),.str s629 (nat_lit 1898),.str s630 (nat_lit 1902),.str s631 (nat_lit 1906),.str s632 (nat_lit 1910),.str s633 (nat_lit 1914),.str s634 (nat_lit 1918),.str s635 (nat_lit 1922),.str s636 (nat_lit 1926),.str s637 (nat_lit 1930),.str s638 (nat_lit 1934),.str s639 (nat_lit 1938),.str s640 (nat_lit 1942),.str s641 (nat_lit 1946),.str s642 (nat_lit 1950),.str s643 (nat_lit 1954),.str s644 (nat_lit 1958),.str s645 (nat_lit 1962),.str s646 (nat_lit 1966),.str s647 (nat_lit 1970),.str s648 (nat_lit 1974),.str s649 (nat_lit 1978),.str s650 (nat_lit 1982),.str s651 (nat_lit 1986),.str s652 (nat_lit 1990),.str s653 (nat_lit 1994),.str s654 (nat_lit 1998),.str s655 (nat_lit 2002),.str s656 (nat_lit 2006),.str s657 (nat_lit 2010),.str s658 (nat_lit 2014),.str s659 (nat_lit 2018),.str s660 (nat_lit 2022),.str s661 (nat_lit 2026),.str s662 (nat_lit 2030),.str s663 (nat_lit 2034),.str s664 (nat_lit 2038),.str s665 (nat_lit 2042),.str s666 (nat_lit 2046),.str s667 (nat_lit 2050),.str s668 (nat_lit 2054),.str s669 (nat_lit 2058),.str s670 (nat_lit 2062),.str s671 (nat_lit 2066),.str s672 (nat_lit 2070),.str s673 (nat_lit 2074),.str s674 (nat_lit 2078),.str s675 (nat_lit 2082),.str s676 (nat_lit 2086),.str s677 (nat_lit 2090),.str s678 (nat_lit 2094),.str s679 (nat_lit 2098),.str s680 (nat_lit 2102),.str s681 (nat_lit 2106),.str s682 (nat_lit 2110),.str s683 (nat_lit 2114),.str s684 (nat_lit 2118),.str s685 (nat_lit 2122),.str s686 (nat_lit 2126),.str s687 (nat_lit 2130),.str s688 (nat_lit 2134),.str s689 (nat_lit 2138),.str s690 (nat_lit 2142),.str s691 (nat_lit 2146),.str s692 (nat_lit 2150),.str s693 (nat_lit 2154),.str s694 (nat_lit 2158),.str s695 (nat_lit 2162),.str s696 (nat_lit 2166),.str s697 (nat_lit 2170),.str s698 (nat_lit 2174),.str s699 (nat_lit 2178),.str s700 (nat_lit 2182),.str s701 (nat_lit 2186),.str s702 (nat_lit 2190),.str s703 (nat_lit 2194),.str s704 (nat_lit 2198),.str s705 (nat_lit 2202),.str s706 (nat_lit 2206),.str s707 (nat_lit 2210),.str s708 (nat_lit 2214),.str s709 (nat_lit 2218),.str s710 (nat_lit 2222),.str s711 (nat_lit 2226),.str s712 (nat_lit 2230),.str s713 (nat_lit 2234),.str s714 (nat_lit 2238),.str s715 (nat_lit 2242),.str s716 (nat_lit 2246),.str s717 (nat_lit 2250),.str s718 (nat_lit 2254),.str s719 (nat_lit 2258),.str s720 (nat_lit 2262),.str s721 (nat_lit 2266),.str s722 (nat_lit 2270),.str s723 (nat_lit 2274),.str s724 (nat_lit 2278),.str s725 (nat_lit 2282),.str s726 (nat_lit 2286)]⟩ (nat_lit 0),⟨[]⟩⟩
noncomputable def o770 (P : Params) : Obj := ⟨.type "bytes_iterator",none,.fields ⟨[.none,.int (.ofNat (nat_lit 67)) (nat_lit 0)]⟩,⟨[]⟩⟩
noncomputable def o771 (P : Params) : Obj := ⟨.type "tuple",none,.seq ⟨[]⟩ (nat_lit 0),⟨[]⟩⟩
noncomputable def o772 (P : Params) : Obj := ⟨.type "StopIteration",none,.fields ⟨[.ref (nat_lit 771),.none,.none,.none,.bool false,.none]⟩,⟨[]⟩⟩
noncomputable def tq128 (P : Params) : BT := (n (o67 P) (n (o131 P) (n (o259 P) (n (o515 P) e e) (n (o771 P) e e)) (n (o387 P) (n (o643 P) e e) e)) (tq14 P))
noncomputable def tq129 (P : Params) : BT := (n (o11a P) (n (o19 P) (n (o35a P) (tq128 P) (tq16 P)) (tq19 P)) (tq107 P))
noncomputable def tq130 (P : Params) : BT := (n (o68 P) (n (o132 P) (n (o260 P) (n (o516 P) e e) (n (o772 P) e e)) (n (o388 P) (n (o644 P) e e) e)) (tq66 P))
noncomputable def tq131 (P : Params) : BT := (n (o4 P) (tq124 P) (n (o12 P) (n (o20 P) (n (o36 P) (tq130 P) (tq68 P)) (tq71 P)) (tq117 P)))
noncomputable def tq132 (P : Params) : BT := (n (o66 P) (n (o130 P) (n (o258 P) (n (o514 P) e e) (n (o770 P) e e)) (n (o386 P) (n (o642 P) e e) e)) (tq79 P))
noncomputable def tq133 (P : Params) : BT := (n (o10 P) (n (o18 P) (n (o34 P) (tq132 P) (tq81 P)) (tq84 P)) (tq120 P))
noncomputable def T38 (P : Params) : BT := (n (o0 P) (n (o1 P) (n (o3d P) (n (o7 P) (n (o15 P) (n (o31 P) (n (o63 P) (n (o127 P) (n (o255 P) (n (o511 P) e e) (n (o767a P) e e)) (n (o383 P) (n (o639 P) e e) e)) (tq0 P)) (tq2 P)) (tq5 P)) (tq12 P)) (tq129 P)) (tq122 P)) (n (o2a P) (tq131 P) (n (o6 P) (tq133 P) (tq127 P))))
noncomputable def o3e (P : Params) : Obj := ⟨.type "dict",none,.dict ⟨[⟨kh P s0,.str s0 (nat_lit 165),.str s727 (nat_lit 2298)⟩,⟨kh P s2,.str s2 (nat_lit 166),.none⟩,⟨kh P s3,.str s3 (nat_lit 167),.none⟩,⟨kh P s4,.str s4 (nat_lit 168),.builtin "__main__.__loader__#opaque"⟩,⟨kh P s5,.str s5 (nat_lit 169),.none⟩,⟨kh P s179,.str s179 (nat_lit 170),.ref (nat_lit 6)⟩,⟨kh P s180,.str s180 (nat_lit 171),.ref (nat_lit 4)⟩,⟨kh P s181,.str s181 (nat_lit 173),.str s182 (nat_lit 172)⟩,⟨kh P s183,.str s183 (nat_lit 174),.none⟩,⟨kh P s161,.str s161 (nat_lit 275),.ref (nat_lit 12)⟩,⟨kh P s184,.str s184 (nat_lit 317),.type "collections.deque"⟩,⟨kh P s244,.str s244 (nat_lit 330),.ref (nat_lit 44)⟩,⟨kh P s245,.str s245 (nat_lit 370),.ref (nat_lit 49)⟩,⟨kh P s246,.str s246 (nat_lit 380),.ref (nat_lit 56)⟩,⟨kh P s247,.str s247 (nat_lit 388),.ref (nat_lit 63)⟩,⟨kh P s248,.str s248 (nat_lit 410),.ref (nat_lit 73)⟩,⟨kh P s249,.str s249 (nat_lit 442),.ref (nat_lit 93)⟩,⟨kh P s250,.str s250 (nat_lit 460),.ref (nat_lit 108)⟩,⟨kh P s251,.str s251 (nat_lit 478),.ref (nat_lit 120)⟩,⟨kh P s252,.str s252 (nat_lit 740),.ref (nat_lit 350)⟩,⟨kh P s253,.str s253 (nat_lit 1027),.ref (nat_lit 597)⟩,⟨kh P s254,.str s254 (nat_lit 1038),.ref (nat_lit 606)⟩,⟨kh P s255,.str s255 (nat_lit 1047),.ref (nat_lit 613)⟩,⟨kh P s256,.str s256 (nat_lit 1057),.ref (nat_lit 620)⟩,⟨kh P s257,.str s257 (nat_lit 1064),.ref (nat_lit 627)⟩,⟨kh P s258,.str s258 (nat_lit 1075),.ref (nat_lit 751)⟩,⟨kh P s259,.str s259 (nat_lit 1076),.ref (nat_lit 634)⟩,⟨kh P s260,.str s260 (nat_lit 1086),.ref (nat_lit 641)⟩,⟨kh P s261,.str s261 (nat_lit 1227),.ref (nat_lit 732)⟩,⟨kh P s262,.str s262 (nat_lit 1237),.ref (nat_lit 744)⟩,⟨kh P s263,.str s263 (nat_lit 1245),.ref (nat_lit 751)⟩,⟨kh P s264,.str s264 (nat_lit 1247),.ref (nat_lit 752)⟩,⟨kh P s265,.str s265 (nat_lit 1254),.ref (nat_lit 759)⟩,⟨kh P s266,.str s266 (nat_lit 1255),.ref (nat_lit 759)⟩,⟨kh P s267,.str s267 (nat_lit 1257),.str s268 (nat_lit 1256)⟩,⟨kh P s269,.str s269 (nat_lit 1259),.str s270 (nat_lit 1258)⟩,⟨kh P s470,.str s470 (nat_lit 2287),.ref (nat_lit 762)⟩,⟨kh P s728,.str s728 (nat_lit 2288),.ref (nat_lit 767)⟩,⟨kh P s729,.str s729 (nat_lit 2289),.ref (nat_lit 769)⟩,⟨kh P s730,.str s730 (nat_lit 2291),.str s731 (nat_lit 2290)⟩,⟨kh P s732,.str s732 (nat_lit 2293),.str s733 (nat_lit 2292)⟩,⟨kh P s734,.str s734 (nat_lit 2295),.str s735 (nat_lit 2294)⟩,⟨kh P s736,.str s736 (nat_lit 2297),.str s737 (nat_lit 2296)⟩,⟨kh P s738,.str s738 (nat_lit 2308),.int (.ofNat (nat_lit 9)) (nat_lit 2794)⟩]⟩ (nat_lit 44),⟨[]⟩⟩
noncomputable def o767b (P : Params) : Obj := ⟨.type "list",none,.seq ⟨[.str s471 (nat_lit 1266),.str s472 (nat_lit 1270),.str s473 (nat_lit 1274),.str s474 (nat_lit 1278),.str s475 (nat_lit 1282),.str s476 (nat_lit 1286),.str s477 (nat_lit 1290),.str s478 (nat_lit 1294),.str s479 (nat_lit 1298),.str s480 (nat_lit 1302),.str s481 (nat_lit 1306),.str s482 (nat_lit 1310),.str s483 (nat_lit 1314),.str s484 (nat_lit 1318),.str s485 (nat_lit 1322),.str s486 (nat_lit 1326),.str s487 (nat_lit 1330),.str s488 (nat_lit 1334),.str s489 (nat_lit 1338),.str s490 (nat_lit 1342),.str s491 (nat_lit 1346),.str s492 (nat_lit 1350),.str s493 (nat_lit 1354),.str s494 (nat_lit 1358),.str s495 (nat_lit 1362),.str s496 (nat_lit 1366),.str s497 (nat_lit 1370),.str s498 (nat_lit 1374),.str s499 (nat_lit 1378),.str s500 (nat_lit 1382),.str s501 (nat_lit 1386),.str s502 (nat_lit 1390),.str s794 (nat_lit 2508),.str s739 (nat_lit 2312),.str s505 (nat_lit 1402),.str s506 (nat_lit 1406),.str s507 (nat_lit 1410),.str s508 (nat_lit 1414),.str s509 (nat_lit 1418),.str s510 (nat_lit 1422),.str s511 (nat_lit 1426),.str s512 (nat_lit 1430),.str s740 (nat_lit 2315),.str s741 (nat_lit 2318),.str s515 (nat_lit 1442),.str s742 (nat_lit 2309),.str s517 (nat_lit 1450),.str s743 (nat_lit 2321),.str s744 (nat_lit 2480),.str s745 (nat_lit 2483),.str s746 (nat_lit 2486),.str s747 (nat_lit 2489),.str s748 (nat_lit 2492),.str s749 (nat_lit 2495),.str s750 (nat_lit 2498),.str s751 (nat_lit 2501),.str s752 (nat_lit 2504),.str s753 (nat_lit 2507),.str s529 (nat_lit 1498),.str s530 (nat_lit 1502),.str s531 (nat_lit 1506),.str s532 (nat_lit 1510),.str s533 (nat_lit 1514),.str s534 (nat_lit 1518),.str s535 (nat_lit 1522),.str s754 (nat_lit 2402),.str s755 (nat_lit 2405),.str s756 (nat_lit 2408),.str s757 (nat_lit 2411),.str s758 (nat_lit 2414),.str s759 (nat_lit 2417),.str s760 (nat_lit 2420),.str s761 (nat_lit 2423),.str s762 (nat_lit 2426),.str s763 (nat_lit 2429),.str s764 (nat_lit 2432),.str s765 (nat_lit 2435),.str s766 (nat_lit 2438),.str s767 (nat_lit 2441),.str s768 (nat_lit 2444),.str s769 (nat_lit 2447),.str s770 (nat_lit 2450),.str s771 (nat_lit 2453),.str s772 (nat_lit 2456),.str s773 (nat_lit 2459),.str s774 (nat_lit 2462),.str s775 (nat_lit 2465),.str s776 (nat_lit 2468),.str s777 (nat_lit 2471),.str s778 (nat_lit 2474),.str s779 (nat_lit 2477),.str s562 (nat_lit 1630),.str s563 (nat_lit 1634),.str s564 (nat_lit 1638),.str s565 (nat_lit 1642),.str s566 (nat_lit 1646),.str s567 (nat_lit 1650),.str s414 (nat_lit 2324),.str s351 (nat_lit 2327),.str s738 (nat_lit 2330),.str s780 (nat_lit 2333),.str s781 (nat_lit 2336),.str s782 (nat_lit 2339),.str s783 (nat_lit 2342),.str s784 (nat_lit 2345),.str s319 (nat_lit 2348),.str s376 (nat_lit 2351),.str s271 (nat_lit 2354),.str s785 (nat_lit 2357),.str s404 (nat_lit 2360),.str s273 (nat_lit 2363),.str s786 (nat_lit 2366),.str s415 (nat_lit 2369),.str s787 (nat_lit 2372),.str s788 (nat_lit 2375),.str s369 (nat_lit 2378),.str s411 (nat_lit 2381),.str s789 (nat_lit 2384),.str s790 (nat_lit 2387),.str s791 (nat_lit 2390),.str s410 (nat_lit 2393),.str s792 (nat_lit 2396),.str s793 (nat_lit 2399),.str s594 (nat_lit 1758),.str s595 (nat_lit 1762),.str s596 (nat_lit 1766),.str s597 (nat_lit 1770),.str s598 (nat_lit 1774),.str s599 (nat_lit 1778),.str s600 (nat_lit 1782),.str s601 (nat_lit 1786),.str s602 (nat_lit 1790),.str s603 (nat_lit 1794),.str s604 (nat_lit 1798),.str s605 (nat_lit 1802),.str s606 (nat_lit 1806),.str s607 (nat_lit 1810),.str s608 (nat_lit 1814),.str s609 (nat_lit 1818),.str s610 (nat_lit 1822),.str s611 (nat_lit 1826),.str s612 (nat_lit 1830),.str s613 (nat_lit 1834),.str s614 (nat_lit 1838),.str s615 (nat_lit 1842),.str s616 (nat_lit 1846),.str s617 (nat_lit 1850),.str s618 (nat_lit 1854),.str s619 (nat_lit 1858),.str s620 (nat_lit 1862),.str s621 (nat_lit 1866),.str s622 (nat_lit 1870),.str s623 (nat_lit 1874),.str s624 (nat_lit 1878),.str s625 (nat_lit 1882),.str s626 (nat_lit 1886),.str s627 (nat_lit 1890),.str s628 (nat_lit 1894),.str s629 (nat_lit 1898),.str s630 (nat_lit 1902),.str s631 (nat_lit 1906),.str s632 (nat_lit 1910),.str s633 (nat_lit 1914),.str s634 (nat_lit 1918),.str s635 (nat_lit 1922),.str s636 (nat_lit 1926),.str s637 (nat_lit 1930),.str s638 (nat_lit 1934),.str s639 (nat_lit 1938),.str s640 (nat_lit 1942),.str s641 (nat_lit 1946),.str s642 (nat_lit 1950),.str s643 (nat_lit 1954),.str s644 (nat_lit 1958),.str s645 (nat_lit 1962),.str s646 (nat_lit 1966),.str s647 (nat_lit 1970),.str s648 (nat_lit 1974),.str s649 (nat_lit 1978),.str s650 (nat_lit 1982),.str s651 (nat_lit 1986),.str s652 (nat_lit 1990),.str s653 (nat_lit 1994),.str s654 (nat_lit 1998),.str s655 (nat_lit 2002),.str s656 (nat_lit 2006),.str s657 (nat_lit 2010),.str s658 (nat_lit 2014),.str s659 (nat_lit 2018),.str s660 (nat_lit 2022),.str s661 (nat_lit 2026),.str s662 (nat_lit 2030),.str s663 (nat_lit 2034),.str s664 (nat_lit 2038),.str s665 (nat_lit 2042),.str s666 (nat_lit 2046),.str s667 (nat_lit 2050),.str s668 (nat_lit 2054),.str s669 (nat_lit 2058),.str s670 (nat_lit 2062),.str s671 (nat_lit 2066),.str s672 (nat_lit 2070),.str s673 (nat_lit 2074),.str s674 (nat_lit 2078),.str s675 (nat_lit 2082),.str s676 (nat_lit 2086),.str s677 (nat_lit 2090),.str s678 (nat_lit 2094),.str s679 (nat_lit 2098),.str s680 (nat_lit 2102),.str s681 (nat_lit 2106),.str s682 (nat_lit 2110),.str s683 (nat_lit 2114),.str s684 (nat_lit 2118),.str s685 (nat_lit 2122),.str s686 (nat_lit 2126),.str s687 (nat_lit 2130),.str s688 (nat_lit 2134),.str s689 (nat_lit 2138),.str s690 (nat_lit 2142),.str s691 (nat_lit 2146),.str s692 (nat_lit 2150),.str s693 (nat_lit 2154),.str s694 (nat_lit 2158),.str s695 (nat_lit 2162),.str s696 (nat_lit 2166),.str s697 (nat_lit 2170),.str s698 (nat_lit 2174),.str s699 (nat_lit 2178),.str s700 (nat_lit 2182),.str s701 (nat_lit 2186),.str s702 (nat_lit 2190),.str s703 (nat_lit 2194),.str s704 (nat_lit 2198),.str s705 (nat_lit 2202),.str s706 (nat_lit 2206),.str s707 (nat_lit 2210),.str s708 (nat_lit 2214),.str s709 (nat_lit 2218),.str s710 (nat_lit 2222),.str s711 (nat_lit 2226),.str s712 (nat_lit 2230),.str s713 (nat_lit 2234),.str s714 (nat_lit 2238),.str s715 (nat_lit 2242),.str s716 (nat_lit 2246),.str s717 (nat_lit 2250),.str s718 (nat_lit 2254),.str s719 (nat_lit 2258),.str s720 (nat_lit 2262),.str s721 (nat_lit 2266),.str s722 (nat_lit 2270),.str s723 (nat_lit 2274),.str s724 (nat_lit 2278),.str s725 (nat_lit 2282),.str s726 (nat_lit 2286)]⟩ (nat_lit 0),⟨[]⟩⟩
noncomputable def o769a (P : Params) : Obj := ⟨.type "list",none,.seq ⟨[.str s471 (nat_lit 1266),.str s472 (nat_lit 1270),.str s473 (nat_lit 1274),.str s474 (nat_lit 1278),.str s475 (nat_lit 1282),.str s476 (nat_lit 1286),.str s477 (nat_lit 1290),.str s478 (nat_lit 1294),.str s479 (nat_lit 1298),.str s795 (nat_lit 2796),.str s481 (nat_lit 1306),.str s482 (nat_lit 1310),.str s483 (nat_lit 1314),.str s484 (nat_lit 1318),.str s485 (nat_lit 1322),.str s486 (nat_lit 1326),.str s487 (nat_lit 1330),.str s488 (nat_lit 1334),.str s489 (nat_lit 1338),.str s490 (nat_lit 1342),.str s491 (nat_lit 1346),.str s492 (nat_lit 1350),.str s493 (nat_lit 1354),.str s494 (nat_lit 1358),.str s495 (nat_lit 1362),.str s496 (nat_lit 1366),.str s497 (nat_lit 1370),.str s498 (nat_lit 1374),.str s499 (nat_lit 1378),.str s500 (nat_lit 1382),.str s501 (nat_lit 1386),.str s502 (nat_lit 1390),.str s796 (nat_lit 2514),.str s739 (nat_lit 2517),.str s797 (nat_lit 2520),.str s798 (nat_lit 2523),.str s799 (nat_lit 2526),.str s800 (nat_lit 2529),.str s801 (nat_lit 2532),.str s802 (nat_lit 2535),.str s803 (nat_lit 2538),.str s804 (nat_lit 2541),.str s740 (nat_lit 2544),.str s741 (nat_lit 2547),.str s805 (nat_lit 2550),.str s742 (nat_lit 2553),.str s806 (nat_lit 2556),.str s743 (nat_lit 2559),.str s744 (nat_lit 2562),.str s745 (nat_lit 2565),.str s746 (nat_lit 2568),.str s747 (nat_lit 2571),.str s748 (nat_lit 2574),.str s749 (nat_lit 2577),.str s750 (nat_lit 2580),.str s751 (nat_lit 2583),.str s752 (nat_lit 2586),.str s753 (nat_lit 2589),.str s807 (nat_lit 2592),.str s808 (nat_lit 2595),.str s809 (nat_lit 2598),.str s532 (nat_lit 1510),.str s810 (nat_lit 2601),.str s811 (nat_lit 2604),.str s812 (nat_lit 2607),.str s754 (nat_lit 2610),.str s755 (nat_lit 2613),.str s756 (nat_lit 2616),.str s757 (nat_lit 2619),.str s758 (nat_lit 2622),.str s759 (nat_lit 2625),.str s760 (nat_lit 2628),.str s761 (nat_lit 2631),.str s762 (nat_lit 2634),.str s763 (nat_lit 2637),.str s764 (nat_lit 2640),.str s765 (nat_lit 2643),.str s766 (nat_lit 2646),.str s767 (nat_lit 2649),.str s768 (nat_lit 2652),.str s769 (nat_lit 2655),.str s770 (nat_lit 2658),.str s771 (nat_lit 2661),.str s772 (nat_lit 2664),.str s773 (nat_lit 2667),.str s774 (nat_lit 2670),.str s775 (nat_lit 2673),.str s776 (nat_lit 2676),.str s777 (nat_lit 2679),.str s778 (nat_lit 2682),.str s779 (nat_lit 2685),.str s813 (nat_lit 2688),.str s814 (nat_lit 2691),.str s815 (nat_lit 2694),.str s816 (nat_lit 2697),.str s794 (nat_lit 2700),.str s817 (nat_lit 2703),.str s414 (nat_lit 2706),.str s351 (nat_lit 2709),.str s738 (nat_lit 2712),.str s780 (nat_lit 2715),.str s781 (nat_lit 2718),.str s782 (nat_lit 2721),.str s783 (nat_lit 2724),.str s784 (nat_lit 2727),.str s319 (nat_lit 2730),.str s376 (nat_lit 2733),.str s271 (nat_lit 2736),.str s785 (nat_lit 2739),.str s404 (nat_lit 2742),.str s273 (nat_lit 2745),.str s786 (nat_lit 2748),.str s415 (nat_lit 2751),.str s787 (nat_lit 2754),.str s788 (nat_lit 2757),.str s369 (nat_lit 2760),.str s411 (nat_lit 2763),.str s789 (nat_lit 2766),.str s790 (nat_lit 2769),.str s791 (nat_lit 2772),.str s410 (nat_lit 2775),.str s792 (nat_lit 2778),.str s793 (nat_lit 2781),.str s818 (nat_lit 2784),.str s819 (nat_lit 2787),.str s820 (nat_lit 2790),.str s821 (nat_lit 2793),.str s598 (nat_lit 1774),.str s599 (nat_lit 1778),.str s600 (nat_lit 1782),.str s601 (nat_lit 1786),.str s602 (nat_lit 1790),.str s603 (nat_lit 1794),.str s604 (nat_lit 1798),.str s605 (nat_lit 1802),.str s606 (nat_lit 1806),.str s607 (nat_lit 1810),.str s608 (nat_lit 1814),.str s609 (nat_lit 1818),.str s610 (nat_lit 1822),.str s611 (nat_lit 1826),.str s612 (nat_lit 1830),.str s613 (nat_lit 1834),.str s614 (nat_lit 1838),.str s615 (nat_lit 1842),.str s616 (nat_lit 1846),.str s617 (nat_lit 1850),.str s618 (nat_lit 1854),.str s619 (nat_lit 1858),.str s620 (nat_lit 1862),.str s621 (nat_lit 1866),.str s622 (nat_lit 1870),.str s623 (nat_lit 1874),.str s624 (nat_lit 1878),.str s625 (nat_lit 1882),.str s626 (nat_lit 1886),.str s627 (nat_lit 1890),.str s628 (nat_lit 1894),.str s629 (nat_lit 1898),.str s630 (nat_lit 1902),.str s631 (nat_lit 1906),.str s632 (nat_lit 1910),.str s633 (nat_lit 1914),.str s634 (nat_lit 1918),.str s635 (nat_lit 1922),.str s636 (nat_lit 1926),.str s637 (nat_lit 1930),.str s638 (nat_lit 1934),.str s639 (nat_lit 1938),.str s640 (nat_lit 1942),.str s641 (nat_lit 1946),.str s642 (nat_lit 1950),.str s643 (nat_lit 1954),.str s644 (nat_lit 1958),.str s645 (nat_lit 1962),.str s646 (nat_lit 1966),.str s647 (nat_lit 1970),.str s648 (nat_lit 1974),.str s649 (nat_lit 1978),.str s650 (nat_lit 1982),.str s651 (nat_lit 1986),.str s652 (nat_lit 1990),.str s653 (nat_lit 1994),.str s654 (nat_lit 1998),.str s655 (nat_lit 2002),.str s656 (nat_lit 2006),.str s657 (nat_lit 2010),.str s658 (nat_lit 2014),.str s659 (nat_lit 2018),.str s660 (nat_lit 2022),.str s661 (nat_lit 2026),.str s662 (nat_lit 2030),.str s663 (nat_lit 2034),.str s664 (nat_lit 2038),.str s665 (nat_lit 2042),.str s666 (nat_lit 2046),.str s667 (nat_lit 2050),.str s668 (nat_lit 2054),.str s669 (nat_lit 2058),.str s670 (nat_lit 2062),.str s671 (nat_lit 2066),.str s672 (nat_lit 2070),.str s673 (nat_lit 2074),.str s674 (nat_lit 2078),.str s675 (nat_lit 2082),.str s676 (nat_lit 2086),.str s677 (nat_lit 2090),.str s678 (nat_lit 2094),.str s679 (nat_lit 2098),.str s680 (nat_lit 2102),.str s681 (nat_lit 2106),.str s682 (nat_lit 2110),.str s683 (nat_lit 2114),.str s684 (nat_lit 2118),.str s685 (nat_lit 2122),.str s686 (nat_lit 2126),.str s687 (nat_lit 2130),.str s688 (nat_lit 2134),.str s689 (nat_lit 2138),.str s690 (nat_lit 2142),.str s691 (nat_lit 2146),.str s692 (nat_lit 2150),.str s693 (nat_lit 2154),.str s694 (nat_lit 2158),.str s695 (nat_lit 2162),.str s696 (nat_lit 2166),.str s697 (nat_lit 2170),.str s698 (nat_lit 2174),.str s699 (nat_lit 2178),.str s700 (nat_lit 2182),.str s701 (nat_lit 2186),.str s702 (nat_lit 2190),.str s703 (nat_lit 2194),.str s704 (nat_lit 2198),.str s705 (nat_lit 2202),.str s706 (nat_lit 2206),.str s707 (nat_lit 2210),.str s708 (nat_lit 2214),.str s709 (nat_lit 2218),.str s710 (nat_lit 2222),.str s711 (nat_lit 2226),.str s712 (nat_lit 2230),.str s713 (nat_lit 2234),.str s714 (nat_lit 2238),.str s715 (nat_lit 2242),.str s716 (nat_lit 2246),.str s717 (nat_lit 2250),.str s718 (nat_lit 2254),.str s719 (nat_lit 2258),.str s720 (nat_lit 2262),.str s721 (nat_lit 2266),.str s722 (nat_lit 2270),.str s723 (nat_lit 2274),.str s724 (nat_lit 2278),.str s725 (nat_lit 2282),.str s726 (nat_lit 2286)]⟩ (nat_lit 0),⟨[]⟩⟩
noncomputable def o773 (P : Params) : Obj := ⟨.type "bytes_iterator",none,.fields ⟨[.none,.int (.ofNat (nat_lit 95)) (nat_lit 0)]⟩,⟨[]⟩⟩
noncomputable def o774 (P : Params) : Obj := ⟨.type "tuple",none,.seq ⟨[]⟩ (nat_lit 0),⟨[]⟩⟩
noncomputable def o775 (P : Params) : Obj := ⟨.type "StopIteration",none,.fields ⟨[.ref (nat_lit 774),.none,.none,.none,.bool false,.none]⟩,⟨[]⟩⟩
noncomputable def tq134 (P : Params) : BT := (n (o127 P) (n (o255 P) (n (o511 P) e e) (n (o767b P) e e)) (n (o383 P) (n (o639 P) e e) e))
noncomputable def tq135 (P : Params) : BT := (n (o71 P) (n (o135 P) (n (o263 P) (n (o519 P) e e) (n (o775 P) e e)) (n (o391 P) (n (o647 P) e e) e)) (tq6 P))
noncomputable def tq136 (P : Params) : BT := (n (o65 P) (n (o129 P) (n (o257 P) (n (o513 P) e e) (n (o769a P) e e)) (n (o385 P) (n (o641 P) e e) e)) (tq27 P))
noncomputable def tq137 (P : Params) : BT := (n (o69 P) (n (o133 P) (n (o261 P) (n (o517 P) e e) (n (o773 P) e e)) (n (o389 P) (n (o645 P) e e) e)) (tq40 P))
noncomputable def tq138 (P : Params) : BT := (n (o70 P) (n (o134 P) (n (o262 P) (n (o518 P) e e) (n (o774 P) e e)) (n (o390 P) (n (o646 P) e e) e)) (tq92 P))
noncomputable def T40 (P : Params) : BT := (n (o0 P) (n (o1 P) (n (o3e P) (n (o7 P) (n (o15 P) (n (o31 P) (n (o63 P) (tq134 P) (tq0 P)) (tq2 P)) (tq5 P)) (n (o23 P) (n (o39 P) (tq135 P) (tq8 P)) (tq11 P))) (tq129 P)) (n (o5 P) (n (o9 P) (n (o17 P) (n (o33 P) (tq136 P) (tq29 P)) (tq32 P)) (tq110 P)) (n (o13 P) (n (o21 P) (n (o37 P) (tq137 P) (tq42 P)) (tq45 P)) (tq112 P)))) (n (o2a P) (tq131 P) (n (o6 P) (tq133 P) (n (o14 P) (n (o22 P) (n (o38 P) (tq138 P) (tq94 P)) (tq97 P)) (tq126 P)))))
noncomputable def o3f (P : Params) : Obj := ⟨.type "dict",none,.dict ⟨[⟨kh P s0,.str s0 (nat_lit 165),.str s822 (nat_lit 2833)⟩,⟨kh P s2,.str s2 (nat_lit 166),.none⟩,⟨kh P s3,.str s3 (nat_lit 167),.none⟩,⟨kh P s4,.str s4 (nat_lit 168),.builtin "__main__.__loader__#opaque"⟩,⟨kh P s5,.str s5 (nat_lit 169),.none⟩,⟨kh P s179,.str s179 (nat_lit 170),.ref (nat_lit 6)⟩,⟨kh P s180,.str s180 (nat_lit 171),.ref (nat_lit 4)⟩,⟨kh P s181,.str s181 (nat_lit 173),.str s182 (nat_lit 172)⟩,⟨kh P s183,.str s183 (nat_lit 174),.none⟩,⟨kh P s161,.str s161 (nat_lit 275),.ref (nat_lit 12)⟩,⟨kh P s184,.str s184 (nat_lit 317),.type "collections.deque"⟩,⟨kh P s244,.str s244 (nat_lit 330),.ref (nat_lit 44)⟩,⟨kh P s245,.str s245 (nat_lit 370),.ref (nat_lit 49)⟩,⟨kh P s246,.str s246 (nat_lit 380),.ref (nat_lit 56)⟩,⟨kh P s247,.str s247 (nat_lit 388),.ref (nat_lit 63)⟩,⟨kh P s248,.str s248 (nat_lit 410),.ref (nat_lit 73)⟩,⟨kh P s249,.str s249 (nat_lit 442),.ref (nat_lit 93)⟩,⟨kh P s250,.str s250 (nat_lit 460),.ref (nat_lit 108)⟩,⟨kh P s251,.str s251 (nat_lit 478),.ref (nat_lit 120)⟩,⟨kh P s252,.str s252 (nat_lit 740),.ref (nat_lit 350)⟩,⟨kh P s253,.str s253 (nat_lit 1027),.ref (nat_lit 597)⟩,⟨kh P s254,.str s254 (nat_lit 1038),.ref (nat_lit 606)⟩,⟨kh P s255,.str s255 (nat_lit 1047),.ref (nat_lit 613)⟩,⟨kh P s256,.str s256 (nat_lit 1057),.ref (nat_lit 620)⟩,⟨kh P s257,.str s257 (nat_lit 1064),.ref (nat_lit 627)⟩,⟨kh P s258,.str s258 (nat_lit 1075),.ref (nat_lit 751)⟩,⟨kh P s259,.str s259 (nat_lit 1076),.ref (nat_lit 634)⟩,⟨kh P s260,.str s260 (nat_lit 1086),.ref (nat_lit 641)⟩,⟨kh P s261,.str s261 (nat_lit 1227),.ref (nat_lit 732)⟩,⟨kh P s262,.str s262 (nat_lit 1237),.ref (nat_lit 744)⟩,⟨kh P s263,.str s263 (nat_lit 1245),.ref (nat_lit 751)⟩,⟨kh P s264,.str s264 (nat_lit 1247),.ref (nat_lit 752)⟩,⟨kh P s265,.str s265 (nat_lit 1254),.ref (nat_lit 782)⟩,⟨kh P s266,.str s266 (nat_lit 1255),.ref (nat_lit 759)⟩,⟨kh P s267,.str s267 (nat_lit 1257),.str s268 (nat_lit 1256)⟩,⟨kh P s269,.str s269 (nat_lit 1259),.str s270 (nat_lit 1258)⟩,⟨kh P s470,.str s470 (nat_lit 2287),.ref (nat_lit 762)⟩,⟨kh P s728,.str s728 (nat_lit 2288),.ref (nat_lit 767)⟩,⟨kh P s729,.str s729 (nat_lit 2289),.ref (nat_lit 769)⟩,⟨kh P s730,.str s730 (nat_lit 2291),.str s731 (nat_lit 2290)⟩,⟨kh P s732,.str s732 (nat_lit 2293),.str s733 (nat_lit 2292)⟩,⟨kh P s734,.str s734 (nat_lit 2295),.str s735 (nat_lit 2294)⟩,⟨kh P s736,.str s736 (nat_lit 2297),.str s737 (nat_lit 2296)⟩,⟨kh P s823,.str s823 (nat_lit 2804),.ref (nat_lit 782)⟩,⟨kh P s824,.str s824 (nat_lit 2805),.ref (nat_lit 784)⟩,⟨kh P s825,.str s825 (nat_lit 2832),.ref (nat_lit 795)⟩,⟨kh P s826,.str s826 (nat_lit 2845),.ref (nat_lit 802)⟩,⟨kh P s827,.str s827 (nat_lit 2852),.ref (nat_lit 809)⟩,⟨kh P s828,.str s828 (nat_lit 2860),.ref (nat_lit 816)⟩,⟨kh P s829,.str s829 (nat_lit 2866),.ref (nat_lit 821)⟩,⟨kh P s830,.str s830 (nat_lit 2872),.ref (nat_lit 826)⟩,⟨kh P s831,.str s831 (nat_lit 2878),.ref (nat_lit 831)⟩]⟩ (nat_lit 54),⟨[]⟩⟩
noncomputable def o35b (P : Params) : Obj := ⟨.none,none,.fields ⟨[.int (.ofNat (nat_lit 3)) (nat_lit 0),.int (.ofNat (nat_lit 0)) (nat_lit 0),.ref (nat_lit 43),.int (.ofNat (nat_lit 8)) (nat_lit 0),.int (.ofNat (nat_lit 0)) (nat_lit 0),.ref (nat_lit 55),.int (.ofNat (nat_lit 13)) (nat_lit 0),.int (.ofNat (nat_lit 0)) (nat_lit 0),.ref (nat_lit 62),.int (.ofNat (nat_lit 20)) (nat_lit 0),.int (.ofNat (nat_lit 0)) (nat_lit 0),.ref (nat_lit 69),.int (.ofNat (nat_lit 22)) (nat_lit 0),.int (.ofNat (nat_lit 0)) (nat_lit 0),.ref (nat_lit 82),.int (.ofNat (nat_lit 29)) (nat_lit 0),.int (.ofNat (nat_lit 0)) (nat_lit 0),.ref (nat_lit 104),.int (.ofNat (nat_lit 31)) (nat_lit 0),.int (.ofNat (nat_lit 0)) (nat_lit 0),.ref (nat_lit 116),.int (.ofNat (nat_lit 33)) (nat_lit 0),.int (.ofNat (nat_lit 0)) (nat_lit 0),.ref (nat_lit 128),.int (.ofNat (nat_lit 203)) (nat_lit 0),.int (.ofNat (nat_lit 0)) (nat_lit 0),.ref (nat_lit 358),.int (.ofNat (nat_lit 409)) (nat_lit 0),.int (.ofNat (nat_lit 0)) (nat_lit 0),.ref (nat_lit 605),.int (.ofNat (nat_lit 430)) (nat_lit 0),.int (.ofNat (nat_lit 0)) (nat_lit 0),.ref (nat_lit 612),.int (.ofNat (nat_lit 435)) (nat_lit 0),.int (.ofNat (nat_lit 0)) (nat_lit 0),.ref (nat_lit 619),.int (.ofNat (nat_lit 440)) (nat_lit 0),.int (.ofNat (nat_lit 0)) (nat_lit 0),.ref (nat_lit 626),.int (.ofNat (nat_lit 443)) (nat_lit 0),.int (.ofNat (nat_lit 0)) (nat_lit 0),.ref (nat_lit 633),.int (.ofNat (nat_lit 464)) (nat_lit 0),.int (.ofNat (nat_lit 0)) (nat_lit 0),.ref (nat_lit 640),.int (.ofNat (nat_lit 473)) (nat_lit 0),.int (.ofNat (nat_lit 0)) (nat_lit 0),.ref (nat_lit 647),.int (.ofNat (nat_lit 725)) (nat_lit 0),.int (.ofNat (nat_lit 0)) (nat_lit 0),.ref (nat_lit 743),.int (.ofNat (nat_lit 733)) (nat_lit 0),.int (.ofNat (nat_lit 0)) (nat_lit 0),.ref (nat_lit 750),.int (.ofNat (nat_lit 737)) (nat_lit 0),.int (.ofNat (nat_lit 0)) (nat_lit 0),.ref (nat_lit 758),.int (.ofNat (nat_lit 759)) (nat_lit 0),.int (.ofNat (nat_lit 0)) (nat_lit 0),.ref (nat_lit 781),.int (.ofNat (nat_lit 766)) (nat_lit 0),.int (.ofNat (nat_lit 0)) (nat_lit 0),.ref (nat_lit 794),.int (.ofNat (nat_lit 805)) (nat_lit 0),.int (.ofNat (nat_lit 0)) (nat_lit 0),.ref (nat_lit 801),.int (.ofNat (nat_lit 817)) (nat_lit 0),.int (.ofNat (nat_lit 0)) (nat_lit 0),.ref (nat_lit 808),.int (.ofNat (nat_lit 819)) (nat_lit 0),.int (.ofNat (nat_lit 0)) (nat_lit 0),.ref (nat_lit 815),.int (.ofNat (nat_lit 824)) (nat_lit 0),.int (.ofNat (nat_lit 0)) (nat_lit 0),.ref (nat_lit 820),.int (.ofNat (nat_lit 842)) (nat_lit 0),.int (.ofNat (nat_lit 0)) (nat_lit 0),.ref (nat_lit 825),.int (.ofNat (nat_lit 867)) (nat_lit 0),.int (.ofNat (nat_lit 0)) (nat_lit 0),.ref (nat_lit 830)]⟩,⟨[]⟩⟩
noncomputable def o776 (P : Params) : Obj := ⟨.type "tuple",none,.seq ⟨[]⟩ (nat_lit 0),⟨[]⟩⟩
noncomputable def o777 (P : Params) : Obj := ⟨.none,none,.fields ⟨[]⟩,⟨[]⟩⟩
noncomputable def o778 (P : Params) : Obj := ⟨.type "tuple",none,.seq ⟨[.str s738 (nat_lit 2800)]⟩ (nat_lit 0),⟨[]⟩⟩
noncomputable def o779 (P : Params) : Obj := ⟨.type "tuple",none,.seq ⟨[]⟩ (nat_lit 0),⟨[]⟩⟩
noncomputable def o780 (P : Params) : Obj := ⟨.none,none,.func (fd (st 42) s265 s265 (nat_lit 0) [] .none .none .none .none none .none .none (nat_lit 0)),⟨[]⟩⟩
noncomputable def o781 (P : Params) : Obj := ⟨.type "code",none,.fields ⟨[.str s265 (nat_lit 2797),.str s265 (nat_lit 2798),.str s182 (nat_lit 2799),.int (.ofNat (nat_lit 759)) (nat_lit 0),.int (.ofNat (nat_lit 1)) (nat_lit 0),.int (.ofNat (nat_lit 0)) (nat_lit 0),.int (.ofNat (nat_lit 0)) (nat_lit 0),.int (.ofNat (nat_lit 3)) (nat_lit 0),.ref (nat_lit 776),.bool true,.int (.ofNat (nat_lit 318)) (nat_lit 0),.ref (nat_lit 777),.none,.ref (nat_lit 778),.ref (nat_lit 779),.ref (nat_lit 780),.int (.ofNat (nat_lit 2801)) (nat_lit 0),.int (.ofNat (nat_lit 759)) (nat_lit 0),.str s182 (nat_lit 2802)]⟩,⟨[]⟩⟩
noncomputable def o782 (P : Params) : Obj := ⟨.type "function",none,.func (fd (st 42) s265 s265 (nat_lit 3) [] .none .none .none (.str s727 (nat_lit 2298)) none (.ref (nat_lit 781)) .none (nat_lit 0)),⟨[]⟩⟩
noncomputable def o783 (P : Params) : Obj := ⟨.type "slice",none,.fields ⟨[.none,.none,.none]⟩,⟨[]⟩⟩
noncomputable def o784 (P : Params) : Obj := ⟨.type "list",none,.seq ⟨[.str s471 (nat_lit 1266),.str s472 (nat_lit 1270),.str s473 (nat_lit 1274),.str s474 (nat_lit 1278),.str s475 (nat_lit 1282),.str s476 (nat_lit 1286),.str s477 (nat_lit 1290),.str s478 (nat_lit 1294),.str s479 (nat_lit 1298),.str s795 (nat_lit 2796),.str s270 (nat_lit 2812),.str s482 (nat_lit 1310),.str s483 (nat_lit 1314),.str s832 (nat_lit 2809),.str s485 (nat_lit 1322),.str s486 (nat_lit 1326),.str s487 (nat_lit 1330),.str s488 (nat_lit 1334),.str s489 (nat_lit 1338),.str s490 (nat_lit 1342),.str s491 (nat_lit 1346),.str s492 (nat_lit 1350),.str s493 (nat_lit 1354),.str s494 (nat_lit 1358),.str s495 (nat_lit 1362),.str s496 (nat_lit 1366),.str s497 (nat_lit 1370),.str s498 (nat_lit 1374),.str s499 (nat_lit 1378),.str s500 (nat_lit 1382),.str s501 (nat_lit 1386),.str s502 (nat_lit 1390),.str s796 (nat_lit 2514),.str s739 (nat_lit 2517),.str s797 (nat_lit 2520),.str s798 (nat_lit 2523),.str s799 (nat_lit 2526),.str s800 (nat_lit 2529),.str s801 (nat_lit 2532),.str s802 (nat_lit 2535),.str s803 (nat_lit 2538),.str s804 (nat_lit 2541),.str s740 (nat_lit 2544),.str s741 (nat_lit 2547),.str s805 (nat_lit 2550),.str s742 (nat_lit 2553),.str s806 (nat_lit 2556),.str s743 (nat_lit 2559),.str s744 (nat_lit 2562),.str s745 (nat_lit 2565),.str s746 (nat_lit 2568),.str s747 (nat_lit 2571),.str s748 (nat_lit 2574),.str s749 (nat_lit 2577),.str s750 (nat_lit 2580),.str s751 (nat_lit 2583),.str s752 (nat_lit 2586),.str s753 (nat_lit 2589),.str s807 (nat_lit 2592),.str s808 (nat_lit 2595),.str s809 (nat_lit 2598),.str s532 (nat_lit 1510),.str s810 (nat_lit 2601),.str s811 (nat_lit 2604),.str s812 (nat_lit 2607),.str s754 (nat_lit 2610),.str s755 (nat_lit 2613),.str s756 (nat_lit 2616),.str s757 (nat_lit 2619),.str s758 (nat_lit 2622),.str s759 (nat_lit 2625),.str s760 (nat_lit 2628),.str s761 (nat_lit 2631),.str s762 (nat_lit 2634),.str s763 (nat_lit 2637),.str s764 (nat_lit 2640),.str s765 (nat_lit 2643),.str s766 (nat_lit 2646),.str s767 (nat_lit 2649),.str s768 (nat_lit 2652),.str s769 (nat_lit 2655),.str s770 (nat_lit 2658),.str s771 (nat_lit 2661),.str s772 (nat_lit 2664),.str s773 (nat_lit 2667),.str s774 (nat_lit 2670),.str s775 (nat_lit 2673),.str s776 (nat_lit 2676),.str s777 (nat_lit 2679),.str s778 (nat_lit 2682),.str s779 (nat_lit 2685),.str s813 (nat_lit 2688),.str s814 (nat_lit 2691),.str s815 (nat_lit 2694),.str s816 (nat_lit 2697),.str s794 (nat_lit 2700),.str s817 (nat_lit 2703),.str s414 (nat_lit 2706),.str s351 (nat_lit 2709),.str s738 (nat_lit 2712),.str s780 (nat_lit 2715),.str s781 (nat_lit 2718),.str s782 (nat_lit 2721),.str s783 (nat_lit 2724),.str s784 (nat_lit 2727),.str s319 (nat_lit 2730),.str s376 (nat_lit 2733),.str s271 (nat_lit 2736),.str s785 (nat_lit 2739),.str s404 (nat_lit 2742),.str s273 (nat_lit 2745),.str s786 (nat_lit 2748),.str s415 (nat_lit 2751),.str s787 (nat_lit 2754),.str s788 (nat_lit 2757),.str s369 (nat_lit 2760),.str s411 (nat_lit 2763),.str s789 (nat_lit 2766),.str s790 (nat_lit 2769),.str s791 (nat_lit 2772),.str s410 (nat_lit 2775),.str s792 (nat_lit 2778),.str s793 (nat_lit 2781),.str s818 (nat_lit 2784),.str s819 (nat_lit 2787),.str s820 (nat_lit 2790),.str s821 (nat_lit 2793),.str s598 (nat_lit 1774),.str s599 (nat_lit 1778),.str s600 (nat_lit 1782),.str s601 (nat_lit 1786),.str s602 (nat_lit 1790),.str s603 (nat_lit 1794),.str s604 (nat_lit 1798),.str s605 (nat_lit 1802),.str s606 (nat_lit 1806),.str s607 (nat_lit 1810),.str s608 (nat_lit 1814),.str s609 (nat_lit 1818),.str s610 (nat_lit 1822),.str s611 (nat_lit 1826),.str s612 (nat_lit 1830),.str s613 (nat_lit 1834),.str s614 (nat_lit 1838),.str s615 (nat_lit 1842),.str s616 (nat_lit 1846),.str s617 (nat_lit 1850),.str s618 (nat_lit 1854),.str s619 (nat_lit 1858),.str s620 (nat_lit 1862),.str s621 (nat_lit 1866),.str s622 (nat_lit 1870),.str s623 (nat_lit 1874),.str s624 (nat_lit 1878),.str s625 (nat_lit 1882),.str s626 (nat_lit 1886),.str s627 (nat_lit 1890),.str s628 (nat_lit 1894),.str s629 (nat_lit 1898),.str s630 (nat_lit 1902),.str s631 (nat_lit 1906),.str s632 (nat_lit 1910),.str s633 (nat_lit 1914),.str s634 (nat_lit 1918),.str s635 (nat_lit 1922),.str s636 (nat_lit 1926),.str s637 (nat_lit 1930),.str s638 (nat_lit 1934),.str s639 (nat_lit 1938),.str s640 (nat_lit 1942),.str s641 (nat_lit 1946),.str s642 (nat_lit 1950),.str s643 (nat_lit 1954),.str s644 (nat_lit 1958),.str s645 (nat_lit 1962),.str s646 (nat_lit 1966),.str s647 (nat_lit 1970),.str s648 (nat_lit 1974),.str s649 (nat_lit 1978),.str s650 (nat_lit 1982),.str s651 (nat_lit 1986),.str s652 (nat_lit 1990),.str s653 (nat_lit 1994),.str s654 (nat_lit 1998),.str s655 (nat_lit 2002),.str s656 (nat_lit 2006),.str s657 (nat_lit 2010),.str s658 (nat_lit 2014),.str s659 (nat_lit 2018),.str s660 (nat_lit 2022),.str s661 (nat_lit 2026),.str s662 (nat_lit 2030),.str s663 (nat_lit 2034),.str s664 (nat_lit 2038),.str s665 (nat_lit 2042),.str s666 (nat_lit 2046),.str s667 (nat_lit 2050),.str s668 (nat_lit 2054),.str s669 (nat_lit 2058),.str s670 (nat_lit 2062),.str s671 (nat_lit 2066),.str s672 (nat_lit 2070),.str s673 (nat_lit 2074),.str s674 (nat_lit 2078),.str s675 (nat_lit 2082),.str s676 (nat_lit 2086),.str s677 (nat_lit 2090),.str s678 (nat_lit 2094),.str s679 (nat_lit 2098),.str s680 (nat_lit 2102),.str s681 (nat_lit 2106),.str s682 (nat_lit 2110),.str s683 (nat_lit 2114),.str s684 (nat_lit 2118),.str s685 (nat_lit 2122),.str s686 (nat_lit 2126),.str s687 (nat_lit 2130),.str s688 (nat_lit 2134),.str s689 (nat_lit 2138),.str s690 (nat_lit 2142),.str s691 (nat_lit 2146),.str s692 (nat_lit 2150),.str s693 (nat_lit 2154),.str s694 (nat_lit 2158),.str s695 (nat_lit 2162),.str s696 (nat_lit 2166),.str s697 (nat_lit 2170),.str s698 (nat_lit 2174),.str s699 (nat_lit 2178),.str s700 (nat_lit 2182),.str s701 (nat_lit 2186),.str s702 (nat_lit 2190),.str s703 (nat_lit 2194),.str s704 (nat_lit 2198),.str s705 (nat_lit 2202),.str s706 (nat_lit 2206),.str s707 (nat_lit 2210),.str s708 (nat_lit 2214),.str s709 (nat_lit 2218),.str s710 (nat_lit 2222),.str s711 (nat_lit 2226),.str s712 (nat_lit 2230),.str s713 (nat_lit 2234),.str s714 (nat_lit 2238),.str s715 (nat_lit 2242),.str s716 (nat_lit 2246),.str s717 (nat_lit 2250),.str s718 (nat_lit 2254),.str s719 (nat_lit 2258),.str s720 (nat_lit 2262),.str s721 (nat_lit 2266),.str s722 (nat_lit 2270),.str s723 (nat_lit 2274),.str s724 (nat_lit 2278),.str s725 (nat_lit 2282),.str s726 (nat_lit 2286)]⟩ (nat_lit 0),⟨[]⟩⟩
noncomputable def o785 (P : Params) : Obj := ⟨.type "bytes_iterator",none,.fields ⟨[.none,.int (.ofNat (nat_lit 2)) (nat_lit 0)]⟩,⟨[]⟩⟩
noncomputable def o786 (P : Params) : Obj := ⟨.type "tuple",none,.seq ⟨[]⟩ (nat_lit 0),⟨[]⟩⟩
noncomputable def o787 (P : Params) : Obj := ⟨.type "StopIteration",none,.fields ⟨[.ref (nat_lit 786),.none,.none,.none,.bool false,.none]⟩,⟨[]⟩⟩
noncomputable def o788 (P : Params) : Obj := ⟨.type "tuple",none,.seq ⟨[.int (.ofNat (nat_lit 76)) (nat_lit 2813),.str s270 (nat_lit 1258)]⟩ (nat_lit 0),⟨[]⟩⟩
noncomputable def o789 (P : Params) : Obj := ⟨.type "tuple",none,.seq ⟨[]⟩ (nat_lit 0),⟨[]⟩⟩
noncomputable def o790 (P : Params) : Obj := ⟨.none,none,.fields ⟨[]⟩,⟨[]⟩⟩
noncomputable def o791 (P : Params) : Obj := ⟨.type "tuple",none,.seq ⟨[.str s833 (nat_lit 2817),.str s834 (nat_lit 2818),.str s835 (nat_lit 2819),.str s836 (nat_lit 2820),.str s837 (nat_lit 2821),.str s838 (nat_lit 2822),.str s839 (nat_lit 2823),.str s349 (nat_lit 2824),.str s317 (nat_lit 2825),.str s840 (nat_lit 2826),.str s318 (nat_lit 2827),.str s841 (nat_lit 2828),.str s787 (nat_lit 2829)]⟩ (nat_lit 0),⟨[]⟩⟩
noncomputable def o792 (P : Params) : Obj := ⟨.type "tuple",none,.seq ⟨[]⟩ (nat_lit 0),⟨[]⟩⟩
noncomputable def o793 (P : Params) : Obj := ⟨.none,none,.func (fd (st 47) s825 s825 (nat_lit 0) [] .none .none .none .none none .none .none (nat_lit 0)),⟨[]⟩⟩
noncomputable def o794 (P : Params) : Obj := ⟨.type "code",none,.fields ⟨[.str s825 (nat_lit 2814),.str s825 (nat_lit 2815),.str s182 (nat_lit 2816),.int (.ofNat (nat_lit 766)) (nat_lit 0),.int (.ofNat (nat_lit 3)) (nat_lit 0),.int (.ofNat (nat_lit 0)) (nat_lit 0),.int (.ofNat (nat_lit 0)) (nat_lit 0),.int (.ofNat (nat_lit 3)) (nat_lit 0),.ref (nat_lit 789),.bool true,.int (.ofNat (nat_lit 318)) (nat_lit 0),.ref (nat_lit 790),.none,.ref (nat_lit 791),.ref (nat_lit 792),.ref (nat_lit 793),.int (.ofNat (nat_lit 2830)) (nat_lit 0),.int (.ofNat (nat_lit 766)) (nat_lit 0),.str s182 (nat_lit 2831)]⟩,⟨[]⟩⟩
noncomputable def o795 (P : Params) : Obj := ⟨.type "function",none,.func (fd (st 47) s825 s825 (nat_lit 3) [] (.ref (nat_lit 788)) .none .none (.str s727 (nat_lit 2298)) none (.ref (nat_lit 794)) .none (nat_lit 0)),⟨[]⟩⟩
noncomputable def o796 (P : Params) : Obj := ⟨.type "tuple",none,.seq ⟨[]⟩ (nat_lit 0),⟨[]⟩⟩
noncomputable def o797 (P : Params) : Obj := ⟨.none,none,.fields ⟨[]⟩,⟨[]⟩⟩
noncomputable def o798 (P : Params) : Obj := ⟨.type "tuple",none,.seq ⟨[.str s842 (nat_lit 2838),.str s843 (nat_lit 2839),.str s844 (nat_lit 2840),.str s845 (nat_lit 2841),.str s846 (nat_lit 2842)]⟩ (nat_lit 0),⟨[]⟩⟩
noncomputable def o799 (P : Params) : Obj := ⟨.type "tuple",none,.seq ⟨[]⟩ (nat_lit 0),⟨[]⟩⟩
noncomputable def o800 (P : Params) : Obj := ⟨.none,none,.func (fd (st 49) s826 s826 (nat_lit 0) [] .none .none .none .none none .none .none (nat_lit 0)),⟨[]⟩⟩
noncomputable def o801 (P : Params) : Obj := ⟨.type "code",none,.fields ⟨[.str s826 (nat_lit 2835),.str s826 (nat_lit 2836),.str s182 (nat_lit 2837),.int (.ofNat (nat_lit 805)) (nat_lit 0),.int (.ofNat (nat_lit 1)) (nat_lit 0),.int (.ofNat (nat_lit 0)) (nat_lit 0),.int (.ofNat (nat_lit 0)) (nat_lit 0),.int (.ofNat (nat_lit 3)) (nat_lit 0),.ref (nat_lit 796),.bool true,.int (.ofNat (nat_lit 318)) (nat_lit 0),.ref (nat_lit 797),.none,.ref (nat_lit 798),.ref (nat_lit 799),.ref (nat_lit 800),.int (.ofNat (nat_lit 2843)) (nat_lit 0),.int (.ofNat (nat_lit 805)) (nat_lit 0),.str s182 (nat_lit 2844)]⟩,⟨[]⟩⟩
noncomputable def o802 (P : Params) : Obj := ⟨.type "function",none,.func (fd (st 49) s826 s826 (nat_lit 3) [] .none .none .none (.str s822 (nat_lit 2833)) none (.ref (nat_lit 801)) .none (nat_lit 0)),⟨[]⟩⟩
noncomputable def o803 (P : Params) : Obj := ⟨.type "tuple",none,.seq ⟨[]⟩ (nat_lit 0),⟨[]⟩⟩
noncomputable def o804 (P : Params) : Obj := ⟨.none,none,.fields ⟨[]⟩,⟨[]⟩⟩
noncomputable def o805 (P : Params) : Obj := ⟨.type "tuple",none,.seq ⟨[.str s847 (nat_lit 2849)]⟩ (nat_lit 0),⟨[]⟩⟩
noncomputable def o806 (P : Params) : Obj := ⟨.type "tuple",none,.seq ⟨[]⟩ (nat_lit 0),⟨[]⟩⟩
noncomputable def o807 (P : Params) : Obj := ⟨.none,none,.func (fd (st 50) s827 s827 (nat_lit 0) [] .none .none .none .none none .none .none (nat_lit 0)),⟨[]⟩⟩
noncomputable def o808 (P : Params) : Obj := ⟨.type "code",none,.fields ⟨[.str s827 (nat_lit 2846),.str s827 (nat_lit 2847),.str s182 (nat_lit 2848),.int (.ofNat (nat_lit 817)) (nat_lit 0),.int (.ofNat (nat_lit 1)) (nat_lit 0),.int (.ofNat (nat_lit 0)) (nat_lit 0),.int (.ofNat (nat_lit 0)) (nat_lit 0),.int (.ofNat (nat_lit 3)) (nat_lit 0),.ref (nat_lit 803),.bool true,.int (.ofNat (nat_lit 318)) (nat_lit 0),.ref (nat_lit 804),.none,.ref (nat_lit 805),.ref (nat_lit 806),.ref (nat_lit 807),.int (.ofNat (nat_lit 2850)) (nat_lit 0),.int (.ofNat (nat_lit 817)) (nat_lit 0),.str s182 (nat_lit 2851)]⟩,⟨[]⟩⟩
noncomputable def o809 (P : Params) : Obj := ⟨.type "function",none,.func (fd (st 50) s827 s827 (nat_lit 3) [] .none .none .none (.str s822 (nat_lit 2833)) none (.ref (nat_lit 808)) .none (nat_lit 0)),⟨[]⟩⟩
noncomputable def o810 (P : Params) : Obj := ⟨.type "tuple",none,.seq ⟨[]⟩ (nat_lit 0),⟨[]⟩⟩
noncomputable def o811 (P : Params) : Obj := ⟨.none,none,.fields ⟨[]⟩,⟨[]⟩⟩
noncomputable def o812 (P : Params) : Obj := ⟨.type "tuple",none,.seq ⟨[.str s847 (nat_lit 2856),.str s848 (nat_lit 2857)]⟩ (nat_lit 0),⟨[]⟩⟩
noncomputable def o813 (P : Params) : Obj := ⟨.type "tuple",none,.seq ⟨[]⟩ (nat_lit 0),⟨[]⟩⟩
noncomputable def o814 (P : Params) : Obj := ⟨.none,none,.func (fd (st 51) s828 s828 (nat_lit 0) [] .none .none .none .none none .none .none (nat_lit 0)),⟨[]⟩⟩
noncomputable def o815 (P : Params) : Obj := ⟨.type "code",none,.fields ⟨[.str s828 (nat_lit 2853),.str s828 (nat_lit 2854),.str s182 (nat_lit 2855),.int (.ofNat (nat_lit 819)) (nat_lit 0),.int (.ofNat (nat_lit 1)) (nat_lit 0),.int (.ofNat (nat_lit 0)) (nat_lit 0),.int (.ofNat (nat_lit 0)) (nat_lit 0),.int (.ofNat (nat_lit 3)) (nat_lit 0),.ref (nat_lit 810),.bool true,.int (.ofNat (nat_lit 318)) (nat_lit 0),.ref (nat_lit 811),.none,.ref (nat_lit 812),.ref (nat_lit 813),.ref (nat_lit 814),.int (.ofNat (nat_lit 2858)) (nat_lit 0),.int (.ofNat (nat_lit 819)) (nat_lit 0),.str s182 (nat_lit 2859)]⟩,⟨[]⟩⟩
noncomputable def o816 (P : Params) : Obj := ⟨.type "function",none,.func (fd (st 51) s828 s828 (nat_lit 3) [] .none .none .none (.str s822 (nat_lit 2833)) none (.ref (nat_lit 815)) .none (nat_lit 0)),⟨[]⟩⟩
noncomputable def o817 (P : Params) : Obj := ⟨.type "tuple",none,.seq ⟨[]⟩ (nat_lit 0),⟨[]⟩⟩
noncomputable def o818 (P : Params) : Obj := ⟨.none,none,.fields ⟨[]⟩,⟨[]⟩⟩
noncomputable def o819 (P : Params) : Obj := ⟨.none,none,.func (fd (st 52) s829 s829 (nat_lit 0) [] .none .none .none .none none .none .none (nat_lit 0)),⟨[]⟩⟩
noncomputable def o820 (P : Params) : Obj := ⟨.type "code",none,.fields ⟨[.str s829 (nat_lit 2861),.str s829 (nat_lit 2862),.str s182 (nat_lit 2863),.int (.ofNat (nat_lit 824)) (nat_lit 0),.int (.ofNat (nat_lit 1)) (nat_lit 0),.int (.ofNat (nat_lit 0)) (nat_lit 0),.int (.ofNat (nat_lit 0)) (nat_lit 0),.int (.ofNat (nat_lit 3)) (nat_lit 0),.ref (nat_lit 817),.bool true,.int (.ofNat (nat_lit 318)) (nat_lit 0),.ref (nat_lit 818),.none,.none,.none,.ref (nat_lit 819),.int (.ofNat (nat_lit 2864)) (nat_lit 0),.int (.ofNat (nat_lit 824)) (nat_lit 0),.str s182 (nat_lit 2865)]⟩,⟨[]⟩⟩
noncomputable def o821 (P : Params) : Obj := ⟨.type "function",none,.func (fd (st 52) s829 s829 (nat_lit 3) [] .none .none .none (.str s822 (nat_lit 2833)) none (.ref (nat_lit 820)) .none (nat_lit 0)),⟨[]⟩⟩
noncomputable def o822 (P : Params) : Obj := ⟨.type "tuple",none,.seq ⟨[]⟩ (nat_lit 0),⟨[]⟩⟩
noncomputable def o823 (P : Params) : Obj := ⟨.none,none,.fields ⟨[]⟩,⟨[]⟩⟩
noncomputable def o824 (P : Params) : Obj := ⟨.none,none,.func (fd (st 53) s830 s830 (nat_lit 0) [] .none .none .none .none none .none .none (nat_lit 0)),⟨[]⟩⟩
noncomputable def o825 (P : Params) : Obj := ⟨.type "code",none,.fields ⟨[.str s830 (nat_lit 2867),.str s830 (nat_lit 2868),.str s182 (nat_lit 2869),.int (.ofNat (nat_lit 842)) (nat_lit 0),.int (.ofNat (nat_lit 3)) (nat_lit 0),.int (.ofNat (nat_lit 0)) (nat_lit 0),.int (.ofNat (nat_lit 0)) (nat_lit 0),.int (.ofNat (nat_lit 3)) (nat_lit 0),.ref (nat_lit 822),.bool true,.int (.ofNat (nat_lit 318)) (nat_lit 0),.ref (nat_lit 823),.none,.none,.none,.ref (nat_lit 824),.int (.ofNat (nat_lit 2870)) (nat_lit 0),.int (.ofNat (nat_lit 842)) (nat_lit 0),.str s182 (nat_lit 2871)]⟩,⟨[]⟩⟩
noncomputable def o826 (P : Params) : Obj := ⟨.type "function",none,.func (fd (st 53) s830 s830 (nat_lit 3) [] .none .none .none (.str s822 (nat_lit 2833)) none (.ref (nat_lit 825)) .none (nat_lit 0)),⟨[]⟩⟩
noncomputable def o827 (P : Params) : Obj := ⟨.type "tuple",none,.seq ⟨[]⟩ (nat_lit 0),⟨[]⟩⟩
noncomputable def o828 (P : Params) : Obj := ⟨.none,none,.fields ⟨[]⟩,⟨[]⟩⟩
noncomputable def o829 (P : Params) : Obj := ⟨.none,none,.func (fd (st 54) s831 s831 (nat_lit 0) [] .none .none .none .none none .none .none (nat_lit 0)),⟨[]⟩⟩
noncomputable def o830 (P : Params) : Obj := ⟨.type "code",none,.fields ⟨[.str s831 (nat_lit 2873),.str s831 (nat_lit 2874),.str s182 (nat_lit 2875),.int (.ofNat (nat_lit 867)) (nat_lit 0),.int (.ofNat (nat_lit 1)) (nat_lit 0),.int (.ofNat (nat_lit 0)) (nat_lit 0),.int (.ofNat (nat_lit 0)) (nat_lit 0),.int (.ofNat (nat_lit 3)) (nat_lit 0),.ref (nat_lit 827),.bool true,.int (.ofNat (nat_lit 318)) (nat_lit 0),.ref (nat_lit 828),.none,.none,.none,.ref (nat_lit 829),.int (.ofNat (nat_lit 2876)) (nat_lit 0),.int (.ofNat (nat_lit 867)) (nat_lit 0),.str s182 (nat_lit 2877)]⟩,⟨[]⟩⟩
noncomputable def o831 (P : Params) : Obj := ⟨.type "function",none,.func (fd (st 54) s831 s831 (nat_lit 3) [] .none .none .none (.str s822 (nat_lit 2833)) none (.ref (nat_lit 830)) .none (nat_lit 0)),⟨[]⟩⟩
noncomputable def T53 (P : Params) : BT := (n (o0 P) (n (o1 P) (n (o3f P) (n (o7 P) (n (o15 P) (n (o31 P) (n (o63 P) (tq134 P) (n (o191 P) (n (o319 P) (n (o575 P) e e) (n (o831 P) e e)) (n (o447 P) (n (o703 P) e e) e))) (n (o95 P) (n (o159 P) (n (o287 P) (n (o543 P) e e) (n (o799 P) e e)) (n (o415 P) (n (o671 P) e e) e)) (tq1 P))) (n (o47 P) (n (o79 P) (n (o143 P) (n (o271 P) (n (o527 P) e e) (n (o783 P) e e)) (n (o399 P) (n (o655 P) e e) e)) (tq3 P)) (n (o111 P) (n (o175 P) (n (o303 P) (n (o559 P) e e) (n (o815 P) e e)) (n (o431 P) (n (o687 P) e e) e)) (tq4 P)))) (n (o23 P) (n (o39 P) (tq135 P) (n (o103 P) (n (o167 P) (n (o295 P) (n (o551 P) e e) (n (o807 P) e e)) (n (o423 P) (n (o679 P) e e) e)) (tq7 P))) (n (o55 P) (n (o87 P) (n (o151 P) (n (o279 P) (n (o535 P) e e) (n (o791 P) e e)) (n (o407 P) (n (o663 P) e e) e)) (tq9 P)) (n (o119 P) (n (o183 P) (n (o311 P) (n (o567 P) e e) (n (o823 P) e e)) (n (o439 P) (n (o695 P) e e) e)) (tq10 P))))) (n (o11a P) (n (o19 P) (n (o35b P) (tq128 P) (n (o99 P) (n (o163 P) (n (o291 P) (n (o547 P) e e) (n (o803 P) e e)) (n (o419 P) (n (o675 P) e e) e)) (tq15 P))) (n (o51 P) (n (o83 P) (n (o147 P) (n (o275 P) (n (o531 P) e e) (n (o787 P) e e)) (n (o403 P) (n (o659 P) e e) e)) (tq17 P)) (n (o115 P) (n (o179 P) (n (o307 P) (n (o563 P) e e) (n (o819 P) e e)) (n (o435 P) (n (o691 P) e e) e)) (tq18 P)))) (n (o27 P) (n (o43 P) (n (o75 P) (n (o139 P) (n (o267 P) (n (o523 P) e e) (n (o779 P) e e)) (n (o395 P) (n (o651 P) e e) e)) (tq21 P)) (n (o107 P) (n (o171 P) (n (o299 P) (n (o555 P) e e) (n (o811 P) e e)) (n (o427 P) (n (o683 P) e e) e)) (tq22 P))) (n (o59 P) (n (o91 P) (n (o155 P) (n (o283 P) (n (o539 P) e e) (n (o795 P) e e)) (n (o411 P) (n (o667 P) e e) e)) (tq24 P)) (n (o123 P) (n (o187 P) (n (o315 P) (n (o571 P) e e) (n (o827 P) e e)) (n (o443 P) (n (o699 P) e e) e)) (tq106 P)))))) (n (o5 P) (n (o9 P) (n (o17 P) (n (o33 P) (tq136 P) (n (o97 P) (n (o161 P) (n (o289 P) (n (o545 P) e e) (n (o801 P) e e)) (n (o417 P) (n (o673 P) e e) e)) (tq28 P))) (n (o49 P) (n (o81 P) (n (o145 P) (n (o273 P) (n (o529 P) e e) (n (o785 P) e e)) (n (o401 P) (n (o657 P) e e) e)) (tq30 P)) (n (o113 P) (n (o177 P) (n (o305 P) (n (o561 P) e e) (n (o817 P) e e)) (n (o433 P) (n (o689 P) e e) e)) (tq31 P)))) (n (o25 P) (n (o41 P) (n (o73 P) (n (o137 P) (n (o265 P) (n (o521 P) e e) (n (o777 P) e e)) (n (o393 P) (n (o649 P) e e) e)) (tq34 P)) (n (o105 P) (n (o169 P) (n (o297 P) (n (o553 P) e e) (n (o809 P) e e)) (n (o425 P) (n (o681 P) e e) e)) (tq35 P))) (n (o57 P) (n (o89 P) (n (o153 P) (n (o281 P) (n (o537 P) e e) (n (o793 P) e e)) (n (o409 P) (n (o665 P) e e) e)) (tq37 P)) (n (o121 P) (n (o185 P) (n (o313 P) (n (o569 P) e e) (n (o825 P) e e)) (n (o441 P) (n (o697 P) e e) e)) (tq109 P))))) (n (o13 P) (n (o21 P) (n (o37 P) (tq137 P) (n (o101 P) (n (o165 P) (n (o293 P) (n (o549 P) e e) (n (o805 P) e e)) (n (o421 P) (n (o677 P) e e) e)) (tq41 P))) (n (o53 P) (n (o85 P) (n (o149 P) (n (o277 P) (n (o533 P) e e) (n (o789 P) e e)) (n (o405 P) (n (o661 P) e e) e)) (tq43 P)) (n (o117 P) (n (o181 P) (n (o309 P) (n (o565 P) e e) (n (o821 P) e e)) (n (o437 P) (n (o693 P) e e) e)) (tq44 P)))) (n (o29a P) (n (o45 P) (n (o77 P) (n (o141 P) (n (o269 P) (n (o525 P) e e) (n (o781 P) e e)) (n (o397 P) (n (o653 P) e e) e)) (tq47 P)) (n (o109 P) (n (o173 P) (n (o301 P) (n (o557 P) e e) (n (o813 P) e e)) (n (o429 P) (n (o685 P) e e) e)) (tq48 P))) (n (o61 P) (n (o93 P) (n (o157 P) (n (o285 P) (n (o541 P) e e) (n (o797 P) e e)) (n (o413 P) (n (o669 P) e e) e)) (tq50 P)) (n (o125 P) (n (o189 P) (n (o317 P) (n (o573 P) e e) (n (o829 P) e e)) (n (o445 P) (n (o701 P) e e) e)) (tq111 P))))))) (n (o2a P) (n (o4 P) (n (o8 P) (n (o16 P) (n (o32 P) (tq123 P) (n (o96 P) (n (o160 P) (n (o288 P) (n (o544 P) e e) (n (o800 P) e e)) (n (o416 P) (n (o672 P) e e) e)) (tq54 P))) (n (o48 P) (n (o80 P) (n (o144 P) (n (o272 P) (n (o528 P) e e) (n (o784 P) e e)) (n (o400 P) (n (o656 P) e e) e)) (tq56 P)) (n (o112 P) (n (o176 P) (n (o304 P) (n (o560 P) e e) (n (o816 P) e e)) (n (o432 P) (n (o688 P) e e) e)) (tq57 P)))) (n (o24 P) (n (o40 P) (n (o72 P) (n (o136 P) (n (o264 P) (n (o520 P) e e) (n (o776 P) e e)) (n (o392 P) (n (o648 P) e e) e)) (tq60 P)) (n (o104 P) (n (o168 P) (n (o296 P) (n (o552 P) e e) (n (o808 P) e e)) (n (o424 P) (n (o680 P) e e) e)) (tq61 P))) (n (o56 P) (n (o88 P) (n (o152 P) (n (o280 P) (n (o536 P) e e) (n (o792 P) e e)) (n (o408 P) (n (o664 P) e e) e)) (tq63 P)) (n (o120 P) (n (o184 P) (n (o312 P) (n (o568 P) e e) (n (o824 P) e e)) (n (o440 P) (n (o696 P) e e) e)) (tq114 P))))) (n (o12 P) (n (o20 P) (n (o36 P) (tq130 P) (n (o100 P) (n (o164 P) (n (o292 P) (n (o548 P) e e) (n (o804 P) e e)) (n (o420 P) (n (o676 P) e e) e)) (tq67 P))) (n (o52 P) (n (o84 P) (n (o148 P) (n (o276 P) (n (o532 P) e e) (n (o788 P) e e)) (n (o404 P) (n (o660 P) e e) e)) (tq69 P)) (n (o116 P) (n (o180 P) (n (o308 P) (n (o564 P) e e) (n (o820 P) e e)) (n (o436 P) (n (o692 P) e e) e)) (tq70 P)))) (n (o28 P) (n (o44 P) (n (o76 P) (n (o140 P) (n (o268 P) (n (o524 P) e e) (n (o780 P) e e)) (n (o396 P) (n (o652 P) e e) e)) (tq73 P)) (n (o108 P) (n (o172 P) (n (o300 P) (n (o556 P) e e) (n (o812 P) e e)) (n (o428 P) (n (o684 P) e e) e)) (tq74 P))) (n (o60 P) (n (o92 P) (n (o156 P) (n (o284 P) (n (o540 P) e e) (n (o796 P) e e)) (n (o412 P) (n (o668 P) e e) e)) (tq76 P)) (n (o124 P) (n (o188 P) (n (o316 P) (n (o572 P) e e) (n (o828 P) e e)) (n (o444 P) (n (o700 P) e e) e)) (tq116 P)))))) (n (o6 P) (n (o10 P) (n (o18 P) (n (o34 P) (tq132 P) (n (o98 P) (n (o162 P) (n (o290 P) (n (o546 P) e e) (n (o802 P) e e)) (n (o418 P) (n (o674 P) e e) e)) (tq80 P))) (n (o50 P) (n (o82 P) (n (o146 P) (n (o274 P) (n (o530 P) e e) (n (o786 P) e e)) (n (o402 P) (n (o658 P) e e) e)) (tq82 P)) (n (o114 P) (n (o178 P) (n (o306 P) (n (o562 P) e e) (n (o818 P) e e)) (n (o434 P) (n (o690 P) e e) e)) (tq83 P)))) (n (o26 P) (n (o42 P) (n (o74 P) (n (o138 P) (n (o266 P) (n (o522 P) e e) (n (o778 P) e e)) (n (o394 P) (n (o650 P) e e) e)) (tq86 P)) (n (o106 P) (n (o170 P) (n (o298 P) (n (o554 P) e e) (n (o810 P) e e)) (n (o426 P) (n (o682 P) e e) e)) (tq87 P))) (n (o58 P) (n (o90 P) (n (o154 P) (n (o282 P) (n (o538 P) e e) (n (o794 P) e e)) (n (o410 P) (n (o666 P) e e) e)) (tq89 P)) (n (o122 P) (n (o186 P) (n (o314 P) (n (o570 P) e e) (n (o826 P) e e)) (n (o442 P) (n (o698 P) e e) e)) (tq119 P))))) (n (o14 P) (n (o22 P) (n (o38 P) (tq138 P) (n (o102 P) (n (o166 P) (n (o294 P) (n (o550 P) e e) (n (o806 P) e e)) (n (o422 P) (n (o678 P) e e) e)) (tq93 P))) (n (o54 P) (n (o86 P) (n (o150 P) (n (o278 P) (n (o534 P) e e) (n (o790 P) e e)) (n (o406 P) (n (o662 P) e e) e)) (tq95 P)) (n (o118 P) (n (o182 P) (n (o310 P) (n (o566 P) e e) (n (o822 P) e e)) (n (o438 P) (n (o694 P) e e) e)) (tq96 P)))) (n (o30 P) (n (o46 P) (n (o78 P) (n (o142 P) (n (o270 P) (n (o526 P) e e) (n (o782 P) e e)) (n (o398 P) (n (o654 P) e e) e)) (tq99 P)) (n (o110 P) (n (o174 P) (n (o302 P) (n (o558 P) e e) (n (o814 P) e e)) (n (o430 P) (n (o686 P) e e) e)) (tq100 P))) (n (o62 P) (n (o94 P) (n (o158 P) (n (o286 P) (n (o542 P) e e) (n (o798 P) e e)) (n (o414 P) (n (o670 P) e e) e)) (tq102 P)) (n (o126 P) (n (o190 P) (n (o318 P) (n (o574 P) e e) (n (o830 P) e e)) (n (o446 P) (n (o702 P) e e) e)) (tq125 P))))))))
noncomputable def Hf (P : Params) : Heap := ⟨⟨[o0 P,o1 P,o2a P,o3f P,o4 P,o5 P,o6 P,o7 P,o8 P,o9 P,o10 P,o11a P,o12 P,o13 P,o14 P,o15 P,o16 P,o17 P,o18 P,o19 P,o20 P,o21 P,o22 P,o23 P,o24 P,o25 P,o26 P,o27 P,o28 P,o29a P,o30 P,o31 P,o32 P,o33 P,o34 P,o35b P,o36 P,o37 P,o38 P,o39 P,o40 P,o41 P,o42 P,o43 P,o44 P,o45 P,o46 P,o47 P,o48 P,o49 P,o50 P,o51 P,o52 P,o53 P,o54 P,o55 P,o56 P,o57 P,o58 P,o59 P,o60 P,o61 P,o62 P,o63 P,o64 P,o65 P,o66 P,o67 P,o68 P,o69 P,o70 P,o71 P,o72 P,o73 P,o74 P,o75 P,o76 P,o77 P,o78 P,o79 P,o80 P,o81 P,o82 P,o83 P,o84 P,o85 P,o86 P,o87 P,o88 P,o89 P,o90 P,o91 P,o92 P,o93 P,o94 P,o95 P,o96 P,o97 P,o98 P,o99 P,o100 P,o101 P,o102 P,o103 P,o104 P,o105 P,o106 P,o107 P,o108 P,o109 P,o110 P,o111 P,o112 P,o113 P,o114 P,o115 P,o116 P,o117 P,o118 P,o119 P,o120 P,o121 P,o122 P,o123 P,o124 P,o125 P,o126 P,o127 P,o128 P,o129 P,o130 P,o131 P,o132 P,o133 P,o134 P,o135 P,o136 P,o137 P,o138 P,o139 P,o140 P,o141 P,o142 P,o143 P,o144 P,o145 P,o146 P,o147 P,o148 P,o149 P,o150 P,o151 P,o152 P,o153 P,o154 P,o155 P,o156 P,o157 P,o158 P,o159 P,o160 P,o161 P,o162 P,o163 P,o164 P,o165 P,o166 P,o167 P,o168 P,o169 P,o170 P,o171 P,o172 P,o173 P,o174 P,o175 P,o176 P,o177 P,o178 P,o179 P,o180 P,o181 P,o182 P,o183 P,o184 P,o185 P,o186 P,o187 P,o188 P,o189 P,o190 P,o191 P,o192 P,o193 P,o194 P,o195 P,o196 P,o197 P,o198 P,o199 P,o200 P,o201 P,o202 P,o203 P,o204 P,o205 P,o206 P,o207 P,o208 P,o209 P,o210 P,o211 P,o212 P,o213 P,o214 P,o215 P,o216 P,o217 P,o218 P,o219 P,o220 P,o221 P,o222 P,o223 P,o224 P,o225 P,o226 P,o227 P,o228 P,o229 P,o230 P,o231 P,o232 P,o233 P,o234 P,o235 P,o236 P,o237 P,o238 P,o239 P,o240 P,o241 P,o242 P,o243 P,o244 P,o245 P,o246 P,o247 P,o248 P,o249 P,o250 P,o251 P,o252 P,o253 P,o254 P,o255 P,o256 P,o257 P,o258 P,o259 P,o260 P,o261 P,o262 P,o263 P,o264 P,o265 P,o266 P,o267 P,o268 P,o269 P,o270 P,o271 P,o272 P,o273 P,o274 P,o275 P,o276 P,o277 P,o278 P,o279 P,o280 P,o281 P,o282 P,o283 P,o284 P,o285 P,o286 P,o287 P,o288 P,o289 P,o290 P,o291 P,o292 P,o293 P,o294 P,o295 P,o296 P,o297 P,o298 P,o299 P,o300 P,o301 P,o302 P,o303 P,o304 P,o305 P,o306 P,o307 P,o308 P,o309 P,o310 P,o311 P,o312 P,o313 P,o314 P,o315 P,o316 P,o317 P,o318 P,o319 P,o320 P,o321 P,o322 P,o323 P,o324 P,o325 P,o326 P,o327 P,o328 P,o329 P,o330 P,o331 P,o332 P,o333 P,o334 P,o335 P,o336 P,o337 P,o338 P,o339 P,o340 P,o341 P,o342 P,o343 P,o344 P,o345 P,o346 P,o347 P,o348 P,o349 P,o350 P,o351 P,o352 P,o353 P,o354 P,o355 P,o356 P,o357 P,o358 P,o359 P,o360 P,o361 P,o362 P,o363 P,o364 P,o365 P,o366 P,o367 P,o368 P,o369 P,o370 P,o371 P,o372 P,o373 P,o374 P,o375 P,o376 P,o377 P,o378 P,o379 P,o380 P,o381 P,o382 P,o383 P,o384 P,o385 P,o386 P,o387 P,o388 P,o389 P,o390 P,o391 P,o392 P,o393 P,o394 P,o395 P,o396 P,o397 P,o398 P,o399 P,o400 P,o401 P,o402 P,o403 P,o404 P,o405 P,o406 P,o407 P,o408 P,o409 P,o410 P,o411 P,o412 P,o413 P,o414 P,o415 P,o416 P,o417 P,o418 P,o419 P,o420 P,o421 P,o422 P,o423 P,o424 P,o425 P,o426 P,o427 P,o428 P,o429 P,o430 P,o431 P,o432 P,o433 P,o434 P,o435 P,o436 P,o437 P,o438 P,o439 P,o440 P,o441 P,o442 P,o443 P,o444 P,o445 P,o446 P,o447 P,o448 P,o449 P,o450 P,o451 P,o452 P,o453 P,o454 P,o455 P,o456 P,o457 P,o458 P,o459 P,o460 P,o461 P,o462 P,o463 P,o464 P,o465 P,o466 P,o467 P,o468 P,o469 P,o470 P,o471 P,o472 P,o473 P,o474 P,o475 P,o476 P,o477 P,o478 P,o479 P,o480 P,o481 P,o482 P,o483 P,o484 P,o485 P,o486 P,o487 P,o488 P,o489 P,o490 P,o491 P,o492 P,o493 P,o494 P,o495 P,o496 P,o497 P,o498 P,o499 P,o500 P,o501 P,o502 P,o503 P,o504 P,o505 P,o506 P,o507 P,o508 P,o509 P,o510 P,o511 P,o512 P,o513 P,o514 P,o515 P,o516 P,o517 P,o518 P,o519 P,o520 P,o521 P,o522 P,o523 P,o524 P,o525 P,o526 P,o527 P,o528 P,o529 P,o530 P,o531 P,o532 P,o533 P,o534 P,o535 P,o536 P,o537 P,o538 P,o539 P,o540 P,o541 P,o542 P,o543 P,o544 P,o545 P,o546 P,o547 P,o548 P,o549 P,o550 P,o551 P,o552 P,o553 P,o554 P,o555 P,o556 P,o557 P,o558 P,o559 P,o560 P,o561 P,o562 P,o563 P,o564 P,o565 P,o566 P,o567 P,o568 P,o569 P,o570 P,o571 P,o572 P,o573 P,o574 P,o575 P,o576 P,o577 P,o578 P,o579 P,o580 P,o581 P,o582 P,o583 P,o584 P,o585 P,o586 P,o587 P,o588 P,o589 P,o590 P,o591 P,o592 P,o593 P,o594 P,o595 P,o596 P,o597 P,o598 P,o599 P,o600 P,o601 P,o602 P,o603 P,o604 P,o605 P,o606 P,o607 P,o608 P,o609 P,o610 P,o611 P,o612 P,o613 P,o614 P,o615 P,o616 P,o617 P,o618 P,o619 P,o620 P,o621 P,o622 P,o623 P,o624 P,o625 P,o626 P,o627 P,o628 P,o629 P,o630 P,o631 P,o632 P,o633 P,o634 P,o635 P,o636 P,o637 P,o638 P,o639 P,o640 P,o641 P,o642 P,o643 P,o644 P,o645 P,o646 P,o647 P,o648 P,o649 P,o650 P,o651 P,o652 P,o653 P,o654 P,o655 P,o656 P,o657 P,o658 P,o659 P,o660 P,o661 P,o662 P,o663 P,o664 P,o665 P,o666 P,o667 P,o668 P,o669 P,o670 P,o671 P,o672 P,o673 P,o674 P,o675 P,o676 P,o677 P,o678 P,o679 P,o680 P,o681 P,o682 P,o683 P,o684 P,o685 P,o686 P,o687 P,o688 P,o689 P,o690 P,o691 P,o692 P,o693 P,o694 P,o695 P,o696 P,o697 P,o698 P,o699 P,o700 P,o701 P,o702 P,o703 P,o704 P,o705 P,o706 P,o707 P,o708 P,o709 P,o710 P,o711 P,o712 P,o713 P,o714 P,o715 P,o716 P,o717 P,o718 P,o719 P,o720 P,o721 P,o722 P,o723 P,o724 P,o725 P,o726 P,o727 P,o728 P,o729 P,o730 P,o731 P,o732 P,o733 P,o734 P,o735 P,o736 P,o737 P,o738 P,o739 P,o740 P,o741 P,o742 P,o743 P,o744 P,o745 P,o746 P,o747 P,o748 P,o749 P,o750 P,o751 P,o752 P,o753 P,o754 P,o755 P,o756 P,o757 P,o758 P,o759 P,o760 P,o761 P,o762 P,o763 P,o764 P,o765 P,o766 P,o767b P,o768 P,o769a P,o770 P,o771 P,o772 P,o773 P,o774 P,o775 P,o776 P,o777 P,o778 P,o779 P,o780 P,o781 P,o782 P,o783 P,o784 P,o785 P,o786 P,o787 P,o788 P,o789 P,o790 P,o791 P,o792 P,o793 P,o794 P,o795 P,o796 P,o797 P,o798 P,o799 P,o800 P,o801 P,o802 P,o803 P,o804 P,o805 P,o806 P,o807 P,o808 P,o809 P,o810 P,o811 P,o812 P,o813 P,o814 P,o815 P,o816 P,o817 P,o818 P,o819 P,o820 P,o821 P,o822 P,o823 P,o824 P,o825 P,o826 P,o827 P,o828 P,o829 P,o830 P,o831 P]⟩,{}⟩
end
section
open PySem PySem.W
@[reducible] def rhsOf {α : Type} {a b : α} (_ : a = b) : α := b
@[reducible] noncomputable def a63 : Arguments := by
  have h : pA (st 6) = pA (st 6) := rfl
  conv at h => rhs; whnf
  exact rhsOf h
@[reducible] noncomputable def b63 : List Stmt := by
  have h : pB (st 6) = pB (st 6) := rfl
  conv at h => rhs; whnf
  exact rhsOf h
@[reducible] noncomputable def c63 : Scope := by
  have h : pS (st 6) = pS (st 6) := rfl
  conv at h => rhs; whnf
  exact rhsOf h
@[reducible] noncomputable def a90 : Arguments := by
  have h : pA (sub (st 8) 1) = pA (sub (st 8) 1) := rfl
  conv at h => rhs; whnf
  exact rhsOf h
@[reducible] noncomputable def b90 : List Stmt := by
  have h : pB (sub (st 8) 1) = pB (sub (st 8) 1) := rfl
  conv at h => rhs; whnf
  exact rhsOf h
@[reducible] noncomputable def c90 : Scope := by
  have h : pS (sub (st 8) 1) = pS (sub (st 8) 1) := rfl
  conv at h => rhs; whnf
  exact rhsOf h
@[reducible] noncomputable def a367 : Arguments := by
  have h : pA (sub (st 12) 1) = pA (sub (st 12) 1) := rfl
  conv at h => rhs; whnf
  exact rhsOf h
@[reducible] noncomputable def b367 : List Stmt := by
  have h : pB (sub (st 12) 1) = pB (sub (st 12) 1) := rfl
  conv at h => rhs; whnf
  exact rhsOf h
@[reducible] noncomputable def c367 : Scope := by
  have h : pS (sub (st 12) 1) = pS (sub (st 12) 1) := rfl
  conv at h => rhs; whnf
  exact rhsOf h
@[reducible] noncomputable def a374 : Arguments := by
  have h : pA (sub (st 12) 2) = pA (sub (st 12) 2) := rfl
  conv at h => rhs; whnf
  exact rhsOf h
@[reducible] noncomputable def b374 : List Stmt := by
  have h : pB (sub (st 12) 2) = pB (sub (st 12) 2) := rfl
  conv at h => rhs; whnf
  exact rhsOf h
@[reducible] noncomputable def c374 : Scope := by
  have h : pS (sub (st 12) 2) = pS (sub (st 12) 2) := rfl
  conv at h => rhs; whnf
  exact rhsOf h
@[reducible] noncomputable def a381 : Arguments := by
  have h : pA (sub (st 12) 3) = pA (sub (st 12) 3) := rfl
  conv at h => rhs; whnf
  exact rhsOf h
@[reducible] noncomputable def b381 : List Stmt := by
  have h : pB (sub (st 12) 3) = pB (sub (st 12) 3) := rfl
  conv at h => rhs; whnf
  exact rhsOf h
@[reducible] noncomputable def c381 : Scope := by
  have h : pS (sub (st 12) 3) = pS (sub (st 12) 3) := rfl
  conv at h => rhs; whnf
  exact rhsOf h
@[reducible] noncomputable def a543 : Arguments := by
  have h : pA (sub (st 12) 25) = pA (sub (st 12) 25) := rfl
  conv at h => rhs; whnf
  exact rhsOf h
@[reducible] noncomputable def b543 : List Stmt := by
  have h : pB (sub (st 12) 25) = pB (sub (st 12) 25) := rfl
  conv at h => rhs; whnf
  exact rhsOf h
@[reducible] noncomputable def c543 : Scope := by
  have h : pS (sub (st 12) 25) = pS (sub (st 12) 25) := rfl
  conv at h => rhs; whnf
  exact rhsOf h
@[reducible] noncomputable def a656 : Arguments := by
  have h : pA (sub (st 22) 0) = pA (sub (st 22) 0) := rfl
  conv at h => rhs; whnf
  exact rhsOf h
@[reducible] noncomputable def b656 : List Stmt := by
  have h : pB (sub (st 22) 0) = pB (sub (st 22) 0) := rfl
  conv at h => rhs; whnf
  exact rhsOf h
@[reducible] noncomputable def c656 : Scope := by
  have h : pS (sub (st 22) 0) = pS (sub (st 22) 0) := rfl
  conv at h => rhs; whnf
  exact rhsOf h
@[reducible] noncomputable def a663 : Arguments := by
  have h : pA (sub (st 22) 1) = pA (sub (st 22) 1) := rfl
  conv at h => rhs; whnf
  exact rhsOf h
@[reducible] noncomputable def b663 : List Stmt := by
  have h : pB (sub (st 22) 1) = pB (sub (st 22) 1) := rfl
  conv at h => rhs; whnf
  exact rhsOf h
@[reducible] noncomputable def c663 : Scope := by
  have h : pS (sub (st 22) 1) = pS (sub (st 22) 1) := rfl
  conv at h => rhs; whnf
  exact rhsOf h
@[reducible] noncomputable def a693 : Arguments := by
  have h : pA (sub (st 22) 5) = pA (sub (st 22) 5) := rfl
  conv at h => rhs; whnf
  exact rhsOf h
@[reducible] noncomputable def b693 : List Stmt := by
  have h : pB (sub (st 22) 5) = pB (sub (st 22) 5) := rfl
  conv at h => rhs; whnf
  exact rhsOf h
@[reducible] noncomputable def c693 : Scope := by
  have h : pS (sub (st 22) 5) = pS (sub (st 22) 5) := rfl
  conv at h => rhs; whnf
  exact rhsOf h
@[reducible] noncomputable def a700 : Arguments := by
  have h : pA (sub (st 22) 6) = pA (sub (st 22) 6) := rfl
  conv at h => rhs; whnf
  exact rhsOf h
@[reducible] noncomputable def b700 : List Stmt := by
  have h : pB (sub (st 22) 6) = pB (sub (st 22) 6) := rfl
  conv at h => rhs; whnf
  exact rhsOf h
@[reducible] noncomputable def c700 : Scope := by
  have h : pS (sub (st 22) 6) = pS (sub (st 22) 6) := rfl
  conv at h => rhs; whnf
  exact rhsOf h
@[reducible] noncomputable def a722 : Arguments := by
  have h : pA (sub (st 22) 9) = pA (sub (st 22) 9) := rfl
  conv at h => rhs; whnf
  exact rhsOf h
@[reducible] noncomputable def b722 : List Stmt := by
  have h : pB (sub (st 22) 9) = pB (sub (st 22) 9) := rfl
  conv at h => rhs; whnf
  exact rhsOf h
@[reducible] noncomputable def c722 : Scope := by
  have h : pS (sub (st 22) 9) = pS (sub (st 22) 9) := rfl
  conv at h => rhs; whnf
  exact rhsOf h
@[reducible] noncomputable def a729 : Arguments := by
  have h : pA (sub (st 22) 10) = pA (sub (st 22) 10) := rfl
  conv at h => rhs; whnf
  exact rhsOf h
@[reducible] noncomputable def b729 : List Stmt := by
  have h : pB (sub (st 22) 10) = pB (sub (st 22) 10) := rfl
  conv at h => rhs; whnf
  exact rhsOf h
@[reducible] noncomputable def c729 : Scope := by
  have h : pS (sub (st 22) 10) = pS (sub (st 22) 10) := rfl
  conv at h => rhs; whnf
  exact rhsOf h
@[reducible] noncomputable def a744 : Arguments := by
  have h : pA (st 23) = pA (st 23) := rfl
  conv at h => rhs; whnf
  exact rhsOf h
@[reducible] noncomputable def b744 : List Stmt := by
  have h : pB (st 23) = pB (st 23) := rfl
  conv at h => rhs; whnf
  exact rhsOf h
@[reducible] noncomputable def c744 : Scope := by
  have h : pS (st 23) = pS (st 23) := rfl
  conv at h => rhs; whnf
  exact rhsOf h
@[reducible] noncomputable def a751 : Arguments := by
  have h : pA (st 24) = pA (st 24) := rfl
  conv at h => rhs; whnf
  exact rhsOf h
@[reducible] noncomputable def b751 : List Stmt := by
  have h : pB (st 24) = pB (st 24) := rfl
  conv at h => rhs; whnf
  exact rhsOf h
@[reducible] noncomputable def c751 : Scope := by
  have h : pS (st 24) = pS (st 24) := rfl
  conv at h => rhs; whnf
  exact rhsOf h
@[reducible] noncomputable def a759 : Arguments := by
  have h : pA (st 27) = pA (st 27) := rfl
  conv at h => rhs; whnf
  exact rhsOf h
@[reducible] noncomputable def b759 : List Stmt := by
  have h : pB (st 27) = pB (st 27) := rfl
  conv at h => rhs; whnf
  exact rhsOf h
@[reducible] noncomputable def c759 : Scope := by
  have h : pS (st 27) = pS (st 27) := rfl
  conv at h => rhs; whnf
  exact rhsOf h
@[reducible] noncomputable def a795 : Arguments := by
  have h : pA (st 47) = pA (st 47) := rfl
  conv at h => rhs; whnf
  exact rhsOf h
@[reducible] noncomputable def b795 : List Stmt := by
  have h : pB (st 47) = pB (st 47) := rfl
  conv at h => rhs; whnf
  exact rhsOf h
@[reducible] noncomputable def c795 : Scope := by
  have h : pS (st 47) = pS (st 47) := rfl
  conv at h => rhs; whnf
  exact rhsOf h
@[reducible] noncomputable def a802 : Arguments := by
  have h : pA (st 49) = pA (st 49) := rfl
  conv at h => rhs; whnf
  exact rhsOf h
@[reducible] noncomputable def b802 : List Stmt := by
  have h : pB (st 49) = pB (st 49) := rfl
  conv at h => rhs; whnf
  exact rhsOf h
@[reducible] noncomputable def c802 : Scope := by
  have h : pS (st 49) = pS (st 49) := rfl
  conv at h => rhs; whnf
  exact rhsOf h
@[reducible] noncomputable def a809 : Arguments := by
  have h : pA (st 50) = pA (st 50) := rfl
  conv at h => rhs; whnf
  exact rhsOf h
@[reducible] noncomputable def b809 : List Stmt := by
  have h : pB (st 50) = pB (st 50) := rfl
  conv at h => rhs; whnf
  exact rhsOf h
@[reducible] noncomputable def c809 : Scope := by
  have h : pS (st 50) = pS (st 50) := rfl
  conv at h => rhs; whnf
  exact rhsOf h
@[reducible] noncomputable def a816 : Arguments := by
  have h : pA (st 51) = pA (st 51) := rfl
  conv at h => rhs; whnf
  exact rhsOf h
@[reducible] noncomputable def b816 : List Stmt := by
  have h : pB (st 51) = pB (st 51) := rfl
  conv at h => rhs; whnf
  exact rhsOf h
@[reducible] noncomputable def c816 : Scope := by
  have h : pS (st 51) = pS (st 51) := rfl
  conv at h => rhs; whnf
  exact rhsOf h
@[reducible] noncomputable def a821 : Arguments := by
  have h : pA (st 52) = pA (st 52) := rfl
  conv at h => rhs; whnf
  exact rhsOf h
@[reducible] noncomputable def b821 : List Stmt := by
  have h : pB (st 52) = pB (st 52) := rfl
  conv at h => rhs; whnf
  exact rhsOf h
@[reducible] noncomputable def c821 : Scope := by
  have h : pS (st 52) = pS (st 52) := rfl
  conv at h => rhs; whnf
  exact rhsOf h
@[reducible] noncomputable def a826 : Arguments := by
  have h : pA (st 53) = pA (st 53) := rfl
  conv at h => rhs; whnf
  exact rhsOf h
@[reducible] noncomputable def b826 : List Stmt := by
  have h : pB (st 53) = pB (st 53) := rfl
  conv at h => rhs; whnf
  exact rhsOf h
@[reducible] noncomputable def c826 : Scope := by
  have h : pS (st 53) = pS (st 53) := rfl
  conv at h => rhs; whnf
  exact rhsOf h
@[reducible] noncomputable def a831 : Arguments := by
  have h : pA (st 54) = pA (st 54) := rfl
  conv at h => rhs; whnf
  exact rhsOf h
@[reducible] noncomputable def b831 : List Stmt := by
  have h : pB (st 54) = pB (st 54) := rfl
  conv at h => rhs; whnf
  exact rhsOf h
@[reducible] noncomputable def c831 : Scope := by
  have h : pS (st 54) = pS (st 54) := rfl
  conv at h => rhs; whnf
  exact rhsOf h
end
section
open PySem PySem.W
noncomputable def bE : List Stmt := behindTheImports pw
noncomputable def env0 : Env := { scope := pw.main.scope, locals := mainNs, globals := mainNs, cells := [], code := .ref 36, frame := some 37 }
noncomputable def cE : Code := .body bE env0
noncomputable def tfr : Frame := topFrame ⟨0, 0, 0, 0⟩
noncomputable abbrev S (t : Params → BT) (m k : Nat) (w : World) (os : OsState) : SharedT := ⟨t w.params, m, {}, ⟨[]⟩, {}, k, os⟩
noncomputable abbrev dr (a k : Nat) : List Stmt := (bE.drop a).take k
noncomputable abbrev thq (l : List Stmt) (p : Pos) : Thread := ⟨(Fast.tw12563942051412417395 l env0).wrap doneF deadEnd id id, cE, p, [tfr]⟩
noncomputable abbrev runq (w : World) (N : Nat) (s : SharedT) (t : Thread) : Option (Flow × SharedT × Code × Pos) := Fast.tw10110043849684766642 Fast.tw14364793385576792824 pw w 34 (some (.ref 6)) 1 N s t
theorem p0 (w : World) (os : OsState) : runq w 4933 (S Tb 38 324 w os) (thq (dr 0 29) ⟨0, 0, 0, 0⟩) = some (.next, S T29 760 1260 w os, cE, ⟨745, 0, 745, 2⟩) := by kernel_rfl
theorem p29ff (w : World) (os : OsState) : runq ((w.withFollow "special-get-raises" false).withFollow "comprehension-iter-twice" false) 9552 (S T29 760 1260 ((w.withFollow "special-get-raises" false).withFollow "comprehension-iter-twice" false) os) (thq (dr 29 1) ⟨745, 0, 745, 2⟩) = some (.next, S T30 766 2288 ((w.withFollow "special-get-raises" false).withFollow "comprehension-iter-twice" false) os, cE, ⟨746, 0, 746, 11⟩) := by kernel_rfl
theorem p29ft (w : World) (os : OsState) : runq ((w.withFollow "special-get-raises" true).withFollow "comprehension-iter-twice" false) 9552 (S T29 760 1260 ((w.withFollow "special-get-raises" true).withFollow "comprehension-iter-twice" false) os) (thq (dr 29 1) ⟨745, 0, 745, 2⟩) = some (.next, S T30 766 2288 ((w.withFollow "special-get-raises" true).withFollow "comprehension-iter-twice" false) os, cE, ⟨746, 0, 746, 11⟩) := by kernel_rfl
theorem p29f (w : World) (os : OsState) : runq (w.withFollow "comprehension-iter-twice" false) 9552 (S T29 760 1260 (w.withFollow "comprehension-iter-twice" false) os) (thq (dr 29 1) ⟨745, 0, 745, 2⟩) = some (.next, S T30 766 2288 (w.withFollow "comprehension-iter-twice" false) os, cE, ⟨746, 0, 746, 11⟩) := byRow2 "special-get-raises" (P := fun w => runq (w.withFollow "comprehension-iter-twice" false) 9552 (S T29 760 1260 (w.withFollow "comprehension-iter-twice" false) os) (thq (dr 29 1) ⟨745, 0, 745, 2⟩) = some (.next, S T30 766 2288 (w.withFollow "comprehension-iter-twice" false) os, cE, ⟨746, 0, 746, 11⟩)) (fun w => p29ff w os) (fun w => p29ft w os) w
theorem p29tf (w : World) (os : OsState) : runq ((w.withFollow "special-get-raises" false).withFollow "comprehension-iter-twice" true) 9552 (S T29 760 1260 ((w.withFollow "special-get-raises" false).withFollow "comprehension-iter-twice" true) os) (thq (dr 29 1) ⟨745, 0, 745, 2⟩) = some (.next, S T30 766 2288 ((w.withFollow "special-get-raises" false).withFollow "comprehension-iter-twice" true) os, cE, ⟨746, 0, 746, 11⟩) := by kernel_rfl
theorem p29tt (w : World) (os : OsState) : runq ((w.withFollow "special-get-raises" true).withFollow "comprehension-iter-twice" true) 9552 (S T29 760 1260 ((w.withFollow "special-get-raises" true).withFollow "comprehension-iter-twice" true) os) (thq (dr 29 1) ⟨745, 0, 745, 2⟩) = some (.next, S T30 766 2288 ((w.withFollow "special-get-raises" true).withFollow "comprehension-iter-twice" true) os, cE, ⟨746, 0, 746, 11⟩) := by kernel_rfl
theorem p29t (w : World) (os : OsState) : runq (w.withFollow "comprehension-iter-twice" true) 9552 (S T29 760 1260 (w.withFollow "comprehension-iter-twice" true) os) (thq (dr 29 1) ⟨745, 0, 745, 2⟩) = some (.next, S T30 766 2288 (w.withFollow "comprehension-iter-twice" true) os, cE, ⟨746, 0, 746, 11⟩) := byRow2 "special-get-raises" (P := fun w => runq (w.withFollow "comprehension-iter-twice" true) 9552 (S T29 760 1260 (w.withFollow "comprehension-iter-twice" true) os) (thq (dr 29 1) ⟨745, 0, 745, 2⟩) = some (.next, S T30 766 2288 (w.withFollow "comprehension-iter-twice" true) os, cE, ⟨746, 0, 746, 11⟩)) (fun w => p29tf w os) (fun w => p29tt w os) w
theorem p29 (w : World) (os : OsState) : runq w 9552 (S T29 760 1260 w os) (thq (dr 29 1) ⟨745, 0, 745, 2⟩) = some (.next, S T30 766 2288 w os, cE, ⟨746, 0, 746, 11⟩) := byRow2 "comprehension-iter-twice" (P := fun w => runq w 9552 (S T29 760 1260 w os) (thq (dr 29 1) ⟨745, 0, 745, 2⟩) = some (.next, S T30 766 2288 w os, cE, ⟨746, 0, 746, 11⟩)) (fun w => p29f w os) (fun w => p29t w os) w
theorem p30 (w : World) (os : OsState) : runq w 109 (S T30 766 2288 w os) (thq (dr 30 7) ⟨746, 0, 746, 11⟩) = some (.next, S T37 770 2300 w os, cE, ⟨753, 0, 753, 8⟩) := by kernel_rfl
theorem p37f (w : World) (os : OsState) : runq (w.withFollow "special-get-raises" false) 3077 (S T37 770 2300 (w.withFollow "special-get-raises" false) os) (thq (dr 37 1) ⟨753, 0, 753, 8⟩) = some (.next, S T38 773 2508 (w.withFollow "special-get-raises" false) os, cE, ⟨754, 9, 754, 74⟩) := by kernel_rfl
theorem p37t (w : World) (os : OsState) : runq (w.withFollow "special-get-raises" true) 3077 (S T37 770 2300 (w.withFollow "special-get-raises" true) os) (thq (dr 37 1) ⟨753, 0, 753, 8⟩) = some (.next, S T38 773 2508 (w.withFollow "special-get-raises" true) os, cE, ⟨754, 9, 754, 74⟩) := by kernel_rfl
theorem p37 (w : World) (os : OsState) : runq w 3077 (S T37 770 2300 w os) (thq (dr 37 1) ⟨753, 0, 753, 8⟩) = some (.next, S T38 773 2508 w os, cE, ⟨754, 9, 754, 74⟩) := byRow2 "special-get-raises" (P := fun w => runq w 3077 (S T37 770 2300 w os) (thq (dr 37 1) ⟨753, 0, 753, 8⟩) = some (.next, S T38 773 2508 w os, cE, ⟨754, 9, 754, 74⟩)) (fun w => p37f w os) (fun w => p37t w os) w
theorem p38f (w : World) (os : OsState) : runq (w.withFollow "special-get-raises" false) 4327 (S T38 773 2508 (w.withFollow "special-get-raises" false) os) (thq (dr 38 2) ⟨754, 9, 754, 74⟩) = some (.next, S T40 776 2797 (w.withFollow "special-get-raises" false) os, cE, ⟨757, 9, 757, 110⟩) := by kernel_rfl
theorem p38t (w : World) (os : OsState) : runq (w.withFollow "special-get-raises" true) 4327 (S T38 773 2508 (w.withFollow "special-get-raises" true) os) (thq (dr 38 2) ⟨754, 9, 754, 74⟩) = some (.next, S T40 776 2797 (w.withFollow "special-get-raises" true) os, cE, ⟨757, 9, 757, 110⟩) := by kernel_rfl
theorem p38 (w : World) (os : OsState) : runq w 4327 (S T38 773 2508 w os) (thq (dr 38 2) ⟨754, 9, 754, 74⟩) = some (.next, S T40 776 2797 w os, cE, ⟨757, 9, 757, 110⟩) := byRow2 "special-get-raises" (P := fun w => runq w 4327 (S T38 773 2508 w os) (thq (dr 38 2) ⟨754, 9, 754, 74⟩) = some (.next, S T40 776 2797 w os, cE, ⟨757, 9, 757, 110⟩)) (fun w => p38f w os) (fun w => p38t w os) w
theorem p40f (w : World) (os : OsState) : runq (w.withFollow "special-get-raises" false) 414 (S T40 776 2797 (w.withFollow "special-get-raises" false) os) (thq (dr 40 13) ⟨757, 9, 757, 110⟩) = some (.next, S T53 832 2879 (w.withFollow "special-get-raises" false) os, cE, ⟨867, 0, 874, 88⟩) := by kernel_rfl
theorem p40t (w : World) (os : OsState) : runq (w.withFollow "special-get-raises" true) 414 (S T40 776 2797 (w.withFollow "special-get-raises" true) os) (thq (dr 40 13) ⟨757, 9, 757, 110⟩) = some (.next, S T53 832 2879 (w.withFollow "special-get-raises" true) os, cE, ⟨867, 0, 874, 88⟩) := by kernel_rfl
theorem p40 (w : World) (os : OsState) : runq w 414 (S T40 776 2797 w os) (thq (dr 40 13) ⟨757, 9, 757, 110⟩) = some (.next, S T53 832 2879 w os, cE, ⟨867, 0, 874, 88⟩) := byRow2 "special-get-raises" (P := fun w => runq w 414 (S T40 776 2797 w os) (thq (dr 40 13) ⟨757, 9, 757, 110⟩) = some (.next, S T53 832 2879 w os, cE, ⟨867, 0, 874, 88⟩)) (fun w => p40f w os) (fun w => p40t w os) w
end
section
open PySem PySem.W PyProof.Rows
noncomputable def Nn : Nat := 60000
theorem op1 (w : World) : Fast.tw10274390034422433532 Fast.tw14364793385576792824 (opening pw) w 1086 (Fast.tw1435165496053646825 (opening pw)).1 (Fast.tw1435165496053646825 (opening pw)).2 = some ⟨He w.params, ⟨[]⟩, {}, 318, (Fast.tw1435165496053646825 (opening pw)).1.os⟩ := by kernel_rfl
theorem op2 (w : World) : (fun os : OsState => (Fast.tw14289696077712309145 pw ⟨He w.params, ⟨[]⟩, {}, 318, os⟩).map (fun s => (s.heap, s.gens, s.drawn, s.toks))) = fun _ => some (H0 w.params, (⟨[]⟩ : Array GenState), ({} : Drawn), 318) := by kernel_rfl
theorem op3 : ∀ w : World, (fencedOpening treeTable pw w Nn).map (fun s => (s.heap, s.gens, s.drawn, s.toks)) = some (H0 w.params, (⟨[]⟩ : Array GenState), ({} : Drawn), 318) :=
  open_cut (M := 1086) (He := He) (fun w => by rw [Fast.te10274390034422433532, Fast.te14364793385576792824, Fast.te1435165496053646825]; exact op1 w) (by decide +kernel) (fun w => by rw [Fast.te14289696077712309145]; exact op2 w)
theorem sz1 (w : World) : ((H0 w.params).isNs mainGlobals && (⟨[]⟩ : Array GenState).size == 0, (H0 w.params).objs.size, Fast.tw8920871248978507458 (H0 w.params) mainGlobals (Str.ofString "__annotations__")) = (true, 34, some (.ref 6)) := by kernel_rfl
theorem sz2 (w : World) : ((H0 w.params).isNs mainGlobals && (⟨[]⟩ : Array GenState).size == 0, (H0 w.params).objs.size, (H0 w.params).nsMap mainGlobals (Str.ofString "__annotations__")) = (true, 34, some (.ref 6)) := by rw [Fast.te8920871248978507458]; exact sz1 w
theorem pr1 (w : World) (os : OsState) : Fast.tw15667345088766844465 Fast.tw14364793385576792824 pw w 34 (some (.ref 6)) 12 ⟨H0 w.params, ⟨[]⟩, {}, 318, os⟩ (topStub pw) = some (⟨Ha w.params, ⟨[]⟩, {}, 324, os⟩, ⟨Fast.tw11892475500146522536 Fast.tw14364793385576792824 cE, cE, ⟨0, 0, 0, 0⟩, [tfr]⟩) := by kernel_rfl
theorem pr2 (w : World) (os : OsState) : topGo treeTable pw w 34 (some (.ref 6)) 12 ⟨H0 w.params, ⟨[]⟩, {}, 318, os⟩ (topStub pw) = some (⟨Ha w.params, ⟨[]⟩, {}, 324, os⟩, ⟨denote treeTable cE, cE, ⟨0, 0, 0, 0⟩, [tfr]⟩) := by
  rw [Fast.te15667345088766844465, Fast.te14364793385576792824, Fast.te11892475500146522536]; exact pr1 w os
theorem bl1 (w : World) (os : OsState) : Fast.tw14374325043358763698 Fast.tw14364793385576792824 pw w 34 (some (.ref 6)) 1 1 ⟨Ha w.params, ⟨[]⟩, {}, 324, os⟩ ⟨(Fast.tw1066825118222455980 bE env0).wrap (fun _ => doneF .next) deadEnd id id, cE, ⟨0, 0, 0, 0⟩, [tfr]⟩ = some (.next, (S Tb 38 324 w os).abs, cE, ⟨0, 0, 0, 0⟩) := by kernel_rfl
theorem bl2 (w : World) (os : OsState) : segRun treeTable pw w 34 (some (.ref 6)) 1 1 ⟨Ha w.params, ⟨[]⟩, {}, 324, os⟩ ⟨(blockStart bE env0).wrap (fun _ => doneF .next) deadEnd id id, cE, ⟨0, 0, 0, 0⟩, [tfr]⟩ = some (.next, (S Tb 38 324 w os).abs, cE, ⟨0, 0, 0, 0⟩) := by
  rw [Fast.te14374325043358763698, Fast.te14364793385576792824, Fast.te1066825118222455980]; exact bl1 w os
theorem fi1 (w : World) (os : OsState) : Fast.tw14082659384304107361 Fast.tw14364793385576792824 pw w 34 (some (.ref 6)) 2 (S T53 832 2879 w os).abs ⟨doneF .next, cE, ⟨867, 0, 874, 88⟩, [tfr]⟩ = some ⟨Hf w.params, ⟨[]⟩, {}, 2879, os⟩ := by kernel_rfl
theorem fi2 (w : World) (os : OsState) : topRun treeTable pw w 34 (some (.ref 6)) 2 (S T53 832 2879 w os).abs ⟨doneF .next, cE, ⟨867, 0, 874, 88⟩, [tfr]⟩ = some ⟨Hf w.params, ⟨[]⟩, {}, 2879, os⟩ := by
  rw [Fast.te14082659384304107361, Fast.te14364793385576792824]; exact fi1 w os
theorem bEq : bE = dr 0 29 ++ (dr 29 1 ++ (dr 30 7 ++ (dr 37 1 ++ (dr 38 2 ++ (dr 40 13 ++ []))))) := by kernel_rfl
theorem P0 (w : World) (os : OsState) : segRunT treeTable pw w 34 (some (.ref 6)) 1 4933 (S Tb 38 324 w os) ⟨(execs (dr 0 29) env0).wrap doneF deadEnd id id, cE, ⟨0, 0, 0, 0⟩, [tfr]⟩ = some (.next, S T29 760 1260 w os, cE, ⟨745, 0, 745, 2⟩) := by
  rw [Fast.te10110043849684766642, Fast.te14364793385576792824, Fast.te12563942051412417395]; exact p0 w os
theorem P29 (w : World) (os : OsState) : segRunT treeTable pw w 34 (some (.ref 6)) 1 9552 (S T29 760 1260 w os) ⟨(execs (dr 29 1) env0).wrap doneF deadEnd id id, cE, ⟨745, 0, 745, 2⟩, [tfr]⟩ = some (.next, S T30 766 2288 w os, cE, ⟨746, 0, 746, 11⟩) := by
  rw [Fast.te10110043849684766642, Fast.te14364793385576792824, Fast.te12563942051412417395]; exact p29 w os
theorem P30 (w : World) (os : OsState) : segRunT treeTable pw w 34 (some (.ref 6)) 1 109 (S T30 766 2288 w os) ⟨(execs (dr 30 7) env0).wrap doneF deadEnd id id, cE, ⟨746, 0, 746, 11⟩, [tfr]⟩ = some (.next, S T37 770 2300 w os, cE, ⟨753, 0, 753, 8⟩) := by
  rw [Fast.te10110043849684766642, Fast.te14364793385576792824, Fast.te12563942051412417395]; exact p30 w os
theorem P37 (w : World) (os : OsState) : segRunT treeTable pw w 34 (some (.ref 6)) 1 3077 (S T37 770 2300 w os) ⟨(execs (dr 37 1) env0).wrap doneF deadEnd id id, cE, ⟨753, 0, 753, 8⟩, [tfr]⟩ = some (.next, S T38 773 2508 w os, cE, ⟨754, 9, 754, 74⟩) := by
  rw [Fast.te10110043849684766642, Fast.te14364793385576792824, Fast.te12563942051412417395]; exact p37 w os
theorem P38 (w : World) (os : OsState) : segRunT treeTable pw w 34 (some (.ref 6)) 1 4327 (S T38 773 2508 w os) ⟨(execs (dr 38 2) env0).wrap doneF deadEnd id id, cE, ⟨754, 9, 754, 74⟩, [tfr]⟩ = some (.next, S T40 776 2797 w os, cE, ⟨757, 9, 757, 110⟩) := by
  rw [Fast.te10110043849684766642, Fast.te14364793385576792824, Fast.te12563942051412417395]; exact p38 w os
theorem P40 (w : World) (os : OsState) : segRunT treeTable pw w 34 (some (.ref 6)) 1 414 (S T40 776 2797 w os) ⟨(execs (dr 40 13) env0).wrap doneF deadEnd id id, cE, ⟨757, 9, 757, 110⟩, [tfr]⟩ = some (.next, S T53 832 2879 w os, cE, ⟨867, 0, 874, 88⟩) := by
  rw [Fast.te10110043849684766642, Fast.te14364793385576792824, Fast.te12563942051412417395]; exact p40 w os
theorem run1 (w : World) (os : OsState) : topRun treeTable pw w 34 (some (.ref 6)) (4933 + (9552 + (109 + (3077 + (4327 + (414 + 2)))))) (S Tb 38 324 w os).abs (restOf bE env0 cE ⟨0, 0, 0, 0⟩ [tfr]) = some ⟨Hf w.params, ⟨[]⟩, {}, 2879, os⟩ := by
  rw [bEq]
  exact (piece_app (q := ⟨0, 0, 0, 0⟩) (env := env0) (segRun_of (P0 w os)) (piece_app (q := ⟨0, 0, 0, 0⟩) (env := env0) (segRun_of (P29 w os)) (piece_app (q := ⟨0, 0, 0, 0⟩) (env := env0) (segRun_of (P30 w os)) (piece_app (q := ⟨0, 0, 0, 0⟩) (env := env0) (segRun_of (P37 w os)) (piece_app (q := ⟨0, 0, 0, 0⟩) (env := env0) (segRun_of (P38 w os)) (piece_app (q := ⟨0, 0, 0, 0⟩) (env := env0) (segRun_of (P40 w os)) (piece_nil (fi2 w os))))))))
theorem run2 (w : World) (os : OsState) : topRun treeTable pw w 34 (some (.ref 6)) (12 + (1 + (4933 + (9552 + (109 + (3077 + (4327 + (414 + 2)))))))) ⟨H0 w.params, ⟨[]⟩, {}, 318, os⟩ (topStub pw) = some ⟨Hf w.params, ⟨[]⟩, {}, 2879, os⟩ :=
  go_top (pr2 w os) (piece_block (q := ⟨0, 0, 0, 0⟩) (env := env0) (bl2 w os) (run1 w os))
section
noncomputable def q : Program := view pw [54]
noncomputable def loose : List Str := [Str.ofString "_sre", Str.ofString "deque", Str.ofString "_wall", Str.ofString "_twin_re_1", Str.ofString "_whence", Str.ofString "_index", Str.ofString "UnsupportedOperation", Str.ofString "IOBase", Str.ofString "BufferedIOBase", Str.ofString "TextIOBase", Str.ofString "BytesIO", Str.ofString "StringIO", Str.ofString "_kind", Str.ofString "_fspath", Str.ofString "_check_arg_types", Str.ofString "isabs", Str.ofString "join", Str.ofString "join_path", Str.ofString "dirname", Str.ofString "shlex", Str.ofString "split", Str.ofString "join_shlex", Str.ofString "_find_unsafe", Str.ofString "quote", Str.ofString "quote_shlex", Str.ofString "CRLF", Str.ofString "NL", Str.ofString "_QUOPRI_MAP", Str.ofString "_QUOPRI_HEADER_MAP", Str.ofString "_QUOPRI_BODY_MAP", Str.ofString "ascii_lowercase", Str.ofString "ascii_uppercase", Str.ofString "ascii_letters", Str.ofString "digits", Str.ofString "quote_quoprimime", Str.ofString "_QUOPRI_BODY_ENCODE_MAP", Str.ofString "body_encode", Str.ofString "_law_words", Str.ofString "_law_safe", Str.ofString "_law_shown", Str.ofString "_law_pieces", Str.ofString "_law_told"]
noncomputable def Kf (P : Params) : Frag := (nat_lit 2, o2a P) :: (nat_lit 3, o3f P) :: (nat_lit 38, o38 P) :: (nat_lit 40, o40 P) :: (nat_lit 41, o41 P) :: (nat_lit 43, o43 P) :: (nat_lit 44, o44 P) :: (nat_lit 48, o48 P) :: (nat_lit 49, o49 P) :: (nat_lit 50, o50 P) :: (nat_lit 52, o52 P) :: (nat_lit 53, o53 P) :: (nat_lit 55, o55 P) :: (nat_lit 56, o56 P) :: (nat_lit 57, o57 P) :: (nat_lit 59, o59 P) :: (nat_lit 60, o60 P) :: (nat_lit 62, o62 P) :: (nat_lit 63, ⟨.type "function", none, .func (fnOf (Str.ofString "_index") (Str.ofString "_index") a63 b63 c63 .none .none .none (.str s275 (nat_lit 371)) none (.ref 62) .none), #[]⟩) :: (nat_lit 64, o64 P) :: (nat_lit 71, o71 P) :: (nat_lit 72, o72 P) :: (nat_lit 73, o73 P) :: (nat_lit 74, o74 P) :: (nat_lit 84, o84 P) :: (nat_lit 86, o86 P) :: (nat_lit 87, o87 P) :: (nat_lit 89, o89 P) :: (nat_lit 90, ⟨.type "function", none, .func (fnOf (Str.ofString "__new__") (Str.ofString "IOBase.__new__") a90 b90 c90 .none .none .none (.str s275 (nat_lit 371)) none (.ref 89) .none), #[]⟩) :: (nat_lit 91, o91 P) :: (nat_lit 92, o92 P) :: (nat_lit 93, o93 P) :: (nat_lit 94, o94 P) :: (nat_lit 95, o95 P) :: (nat_lit 96, o96 P) :: (nat_lit 99, o99 P) :: (nat_lit 106, o106 P) :: (nat_lit 107, o107 P) :: (nat_lit 108, o108 P) :: (nat_lit 111, o111 P) :: (nat_lit 118, o118 P) :: (nat_lit 119, o119 P) :: (nat_lit 120, o120 P) :: (nat_lit 123, o123 P) :: (nat_lit 130, o130 P) :: (nat_lit 131, o131 P) :: (nat_lit 133, o133 P) :: (nat_lit 134, o134 P) :: (nat_lit 136, o136 P) :: (nat_lit 137, o137 P) :: (nat_lit 138, o138 P) :: (nat_lit 140, o140 P) :: (nat_lit 141, o141 P) :: (nat_lit 143, o143 P) :: (nat_lit 144, o144 P) :: (nat_lit 145, o145 P) :: (nat_lit 147, o147 P) :: (nat_lit 148, o148 P) :: (nat_lit 150, o150 P) :: (nat_lit 151, o151 P) :: (nat_lit 152, o152 P) :: (nat_lit 154, o154 P) :: (nat_lit 155, o155 P) :: (nat_lit 157, o157 P) :: (nat_lit 158, o158 P) :: (nat_lit 159, o159 P) :: (nat_lit 160, o160 P) :: (nat_lit 162, o162 P) :: (nat_lit 163, o163 P) :: (nat_lit 165, o165 P) :: (nat_lit 166, o166 P) :: (nat_lit 167, o167 P) :: (nat_lit 169, o169 P) :: (nat_lit 170, o170 P) :: (nat_lit 172, o172 P) :: (nat_lit 173, o173 P) :: (nat_lit 174, o174 P) :: (nat_lit 176, o176 P) :: (nat_lit 177, o177 P) :: (nat_lit 179, o179 P) :: (nat_lit 180, o180 P) :: (nat_lit 181, o181 P) :: (nat_lit 183, o183 P) :: (nat_lit 184, o184 P) :: (nat_lit 186, o186 P) :: (nat_lit 187, o187 P) :: (nat_lit 188, o188 P) :: (nat_lit 190, o190 P) :: (nat_lit 191, o191 P) :: (nat_lit 193, o193 P) :: (nat_lit 194, o194 P) :: (nat_lit 195, o195 P) :: (nat_lit 197, o197 P) :: (nat_lit 198, o198 P) :: (nat_lit 200, o200 P) :: (nat_lit 201, o201 P) :: (nat_lit 202, o202 P) :: (nat_lit 204, o204 P) :: (nat_lit 205, o205 P) :: (nat_lit 207, o207 P) :: (nat_lit 208, o208 P) :: (nat_lit 209, o209 P) :: (nat_lit 211, o211 P) :: (nat_lit 212, o212 P) :: (nat_lit 214, o214 P) :: (nat_lit 215, o215 P) :: (nat_lit 216, o216 P) :: (nat_lit 218, o218 P) :: (nat_lit 219, o219 P) :: (nat_lit 221, o221 P) :: (nat_lit 222, o222 P) :: (nat_lit 223, o223 P) :: (nat_lit 225, o225 P) :: (nat_lit 226, o226 P) :: (nat_lit 228, o228 P) :: (nat_lit 229, o229 P) :: (nat_lit 230, o230 P) :: (nat_lit 232, o232 P) :: (nat_lit 233, o233 P) :: (nat_lit 235, o235 P) :: (nat_lit 236, o236 P) :: (nat_lit 237, o237 P) :: (nat_lit 239, o239 P) :: (nat_lit 240, o240 P) :: (nat_lit 242, o242 P) :: (nat_lit 243, o243 P) :: (nat_lit 244, o244 P) :: (nat_lit 246, o246 P) :: (nat_lit 247, o247 P) :: (nat_lit 249, o249 P) :: (nat_lit 250, o250 P) :: (nat_lit 251, o251 P) :: (nat_lit 252, o252 P) :: (nat_lit 254, o254 P) :: (nat_lit 255, o255 P) :: (nat_lit 257, o257 P) :: (nat_lit 258, o258 P) :: (nat_lit 259, o259 P) :: (nat_lit 260, o260 P) :: (nat_lit 262, o262 P) :: (nat_lit 263, o263 P) :: (nat_lit 265, o265 P) :: (nat_lit 266, o266 P) :: (nat_lit 267, o267 P) :: (nat_lit 268, o268 P) :: (nat_lit 270, o270 P) :: (nat_lit 271, o271 P) :: (nat_lit 273, o273 P) :: (nat_lit 274, o274 P) :: (nat_lit 275, o275 P) :: (nat_lit 276, o276 P) :: (nat_lit 278, o278 P) :: (nat_lit 279, o279 P) :: (nat_lit 281, o281 P) :: (nat_lit 282, o282 P) :: (nat_lit 283, o283 P) :: (nat_lit 285, o285 P) :: (nat_lit 286, o286 P) :: (nat_lit 288, o288 P) :: (nat_lit 289, o289 P) :: (nat_lit 290, o290 P) :: (nat_lit 292, o292 P) :: (nat_lit 293, o293 P) :: (nat_lit 295, o295 P) :: (nat_lit 296, o296 P) :: (nat_lit 297, o297 P) :: (nat_lit 298, o298 P) :: (nat_lit 300, o300 P) :: (nat_lit 301, o301 P) :: (nat_lit 303, o303 P) :: (nat_lit 304, o304 P) :: (nat_lit 305, o305 P) :: (nat_lit 306, o306 P) :: (nat_lit 308, o308 P) :: (nat_lit 309, o309 P) :: (nat_lit 311, o311 P) :: (nat_lit 312, o312 P) :: (nat_lit 313, o313 P) :: (nat_lit 315, o315 P) :: (nat_lit 316, o316 P) :: (nat_lit 318, o318 P) :: (nat_lit 319, o319 P) :: (nat_lit 320, o320 P) :: (nat_lit 322, o322 P) :: (nat_lit 323, o323 P) :: (nat_lit 325, o325 P) :: (nat_lit 326, o326 P) :: (nat_lit 327, o327 P) :: (nat_lit 329, o329 P) :: (nat_lit 330, o330 P) :: (nat_lit 332, o332 P) :: (nat_lit 333, o333 P) :: (nat_lit 334, o334 P) :: (nat_lit 336, o336 P) :: (nat_lit 337, o337 P) :: (nat_lit 339, o339 P) :: (nat_lit 340, o340 P) :: (nat_lit 341, o341 P) :: (nat_lit 343, o343 P) :: (nat_lit 344, o344 P) :: (nat_lit 346, o346 P) :: (nat_lit 347, o347 P) :: (nat_lit 348, o348 P) :: (nat_lit 349, o349 P) :: (nat_lit 350, o350 P) :: (nat_lit 353, o353 P) :: (nat_lit 360, o360 P) :: (nat_lit 361, o361 P) :: (nat_lit 363, o363 P) :: (nat_lit 364, o364 P) :: (nat_lit 366, o366 P) :: (nat_lit 367, ⟨.type "function", none, .func (fnOf (Str.ofString "__init__") (Str.ofString "StringIO.__init__") a367 b367 c367 (.ref 360) .none .none (.str s275 (nat_lit 371)) none (.ref 366) .none), #[]⟩) :: (nat_lit 368, o368 P) :: (nat_lit 370, o370 P) :: (nat_lit 371, o371 P) :: (nat_lit 373, o373 P) :: (nat_lit 374, ⟨.type "function", none, .func (fnOf (Str.ofString "__translated") (Str.ofString "StringIO.__translated") a374 b374 c374 .none .none .none (.str s275 (nat_lit 371)) none (.ref 373) .none), #[]⟩) :: (nat_lit 375, o375 P) :: (nat_lit 377, o377 P) :: (nat_lit 378, o378 P) :: (nat_lit 380, o380 P) :: (nat_lit 381, ⟨.type "function", none, .func (fnOf (Str.ofString "__check") (Str.ofString "StringIO.__check") a381 b381 c381 .none .none .none (.str s275 (nat_lit 371)) none (.ref 380) .none), #[]⟩) :: (nat_lit 382, o382 P) :: (nat_lit 384, o384 P) :: (nat_lit 385, o385 P) :: (nat_lit 387, o387 P) :: (nat_lit 388, o388 P) :: (nat_lit 389, o389 P) :: (nat_lit 391, o391 P) :: (nat_lit 392, o392 P) :: (nat_lit 394, o394 P) :: (nat_lit 395, o395 P) :: (nat_lit 396, o396 P) :: (nat_lit 398, o398 P) :: (nat_lit 399, o399 P) :: (nat_lit 401, o401 P) :: (nat_lit 402, o402 P) :: (nat_lit 403, o403 P) :: (nat_lit 404, o404 P) :: (nat_lit 406, o406 P) :: (nat_lit 407, o407 P) :: (nat_lit 409, o409 P) :: (nat_lit 410, o410 P) :: (nat_lit 411, o411 P) :: (nat_lit 412, o412 P) :: (nat_lit 414, o414 P) :: (nat_lit 415, o415 P) :: (nat_lit 417, o417 P) :: (nat_lit 418, o418 P) :: (nat_lit 419, o419 P) :: (nat_lit 420, o420 P) :: (nat_lit 422, o422 P) :: (nat_lit 423, o423 P) :: (nat_lit 425, o425 P) :: (nat_lit 426, o426 P) :: (nat_lit 427, o427 P) :: (nat_lit 428, o428 P) :: (nat_lit 430, o430 P) :: (nat_lit 431, o431 P) :: (nat_lit 433, o433 P) :: (nat_lit 434, o434 P) :: (nat_lit 435, o435 P) :: (nat_lit 436, o436 P) :: (nat_lit 438, o438 P) :: (nat_lit 439, o439 P) :: (nat_lit 441, o441 P) :: (nat_lit 442, o442 P) :: (nat_lit 443, o443 P) :: (nat_lit 445, o445 P) :: (nat_lit 446, o446 P) :: (nat_lit 448, o448 P) :: (nat_lit 449, o449 P) :: (nat_lit 450, o450 P) :: (nat_lit 452, o452 P) :: (nat_lit 453, o453 P) :: (nat_lit 455, o455 P) :: (nat_lit 456, o456 P) :: (nat_lit 457, o457 P) :: (nat_lit 459, o459 P) :: (nat_lit 460, o460 P) :: (nat_lit 462, o462 P) :: (nat_lit 463, o463 P) :: (nat_lit 464, o464 P) :: (nat_lit 466, o466 P) :: (nat_lit 467, o467 P) :: (nat_lit 469, o469 P) :: (nat_lit 470, o470 P) :: (nat_lit 471, o471 P) :: (nat_lit 473, o473 P) :: (nat_lit 474, o474 P) :: (nat_lit 476, o476 P) :: (nat_lit 477, o477 P) :: (nat_lit 478, o478 P) :: (nat_lit 480, o480 P) :: (nat_lit 481, o481 P) :: (nat_lit 483, o483 P) :: (nat_lit 484, o484 P) :: (nat_lit 485, o485 P) :: (nat_lit 487, o487 P) :: (nat_lit 488, o488 P) :: (nat_lit 490, o490 P) :: (nat_lit 491, o491 P) :: (nat_lit 492, o492 P) :: (nat_lit 494, o494 P) :: (nat_lit 495, o495 P) :: (nat_lit 497, o497 P) :: (nat_lit 498, o498 P) :: (nat_lit 499, o499 P) :: (nat_lit 501, o501 P) :: (nat_lit 502, o502 P) :: (nat_lit 504, o504 P) :: (nat_lit 505, o505 P) :: (nat_lit 506, o506 P) :: (nat_lit 508, o508 P) :: (nat_lit 509, o509 P) :: (nat_lit 511, o511 P) :: (nat_lit 512, o512 P) :: (nat_lit 513, o513 P) :: (nat_lit 515, o515 P) :: (nat_lit 516, o516 P) :: (nat_lit 518, o518 P) :: (nat_lit 519, o519 P) :: (nat_lit 520, o520 P) :: (nat_lit 521, o521 P) :: (nat_lit 523, o523 P) :: (nat_lit 524, o524 P) :: (nat_lit 526, o526 P) :: (nat_lit 527, o527 P) :: (nat_lit 528, o528 P) :: (nat_lit 529, o529 P) :: (nat_lit 531, o531 P) :: (nat_lit 532, o532 P) :: (nat_lit 534, o534 P) :: (nat_lit 535, o535 P) :: (nat_lit 536, o536 P) :: (nat_lit 537, o537 P) :: (nat_lit 539, o539 P) :: (nat_lit 540, o540 P) :: (nat_lit 542, o542 P) :: (nat_lit 543, ⟨.type "function", none, .func (fnOf (Str.ofString "read") (Str.ofString "StringIO.read") a543 b543 c543 (.ref 536) .none .none (.str s275 (nat_lit 371)) none (.ref 542) .none), #[]⟩) :: (nat_lit 544, o544 P) :: (nat_lit 545, o545 P) :: (nat_lit 547, o547 P) :: (nat_lit 548, o548 P) :: (nat_lit 550, o550 P) :: (nat_lit 551, o551 P) :: (nat_lit 552, o552 P) :: (nat_lit 553, o553 P) :: (nat_lit 555, o555 P) :: (nat_lit 556, o556 P) :: (nat_lit 558, o558 P) :: (nat_lit 559, o559 P) :: (nat_lit 560, o560 P) :: (nat_lit 562, o562 P) :: (nat_lit 563, o563 P) :: (nat_lit 565, o565 P) :: (nat_lit 566, o566 P) :: (nat_lit 567, o567 P) :: (nat_lit 569, o569 P) :: (nat_lit 570, o570 P) :: (nat_lit 572, o572 P) :: (nat_lit 573, o573 P) :: (nat_lit 574, o574 P) :: (nat_lit 576, o576 P) :: (nat_lit 577, o577 P) :: (nat_lit 579, o579 P) :: (nat_lit 580, o580 P) :: (nat_lit 581, o581 P) :: (nat_lit 583, o583 P) :: (nat_lit 584, o584 P) :: (nat_lit 586, o586 P) :: (nat_lit 587, o587 P) :: (nat_lit 588, o588 P) :: (nat_lit 590, o590 P) :: (nat_lit 591, o591 P) :: (nat_lit 593, o593 P) :: (nat_lit 594, o594 P) :: (nat_lit 595, o595 P) :: (nat_lit 596, o596 P) :: (nat_lit 597, o597 P) :: (nat_lit 600, o600 P) :: (nat_lit 602, o602 P) :: (nat_lit 603, o603 P) :: (nat_lit 605, o605 P) :: (nat_lit 606, o606 P) :: (nat_lit 607, o607 P) :: (nat_lit 609, o609 P) :: (nat_lit 610, o610 P) :: (nat_lit 612, o612 P) :: (nat_lit 613, o613 P) :: (nat_lit 614, o614 P) :: (nat_lit 616, o616 P) :: (nat_lit 617, o617 P) :: (nat_lit 619, o619 P) :: (nat_lit 620, o620 P) :: (nat_lit 621, o621 P) :: (nat_lit 623, o623 P) :: (nat_lit 624, o624 P) :: (nat_lit 626, o626 P) :: (nat_lit 627, o627 P) :: (nat_lit 628, o628 P) :: (nat_lit 630, o630 P) :: (nat_lit 631, o631 P) :: (nat_lit 633, o633 P) :: (nat_lit 634, o634 P) :: (nat_lit 635, o635 P) :: (nat_lit 637, o637 P) :: (nat_lit 638, o638 P) :: (nat_lit 640, o640 P) :: (nat_lit 641, o641 P) :: (nat_lit 649, o649 P) :: (nat_lit 650, o650 P) :: (nat_lit 652, o652 P) :: (nat_lit 653, o653 P) :: (nat_lit 655, o655 P) :: (nat_lit 656, ⟨.type "function", none, .func (fnOf (Str.ofString "__init__") (Str.ofString "shlex.__init__") a656 b656 c656 (.ref 649) .none .none (.str s243 (nat_lit 1087)) none (.ref 655) .none), #[]⟩) :: (nat_lit 657, o657 P) :: (nat_lit 659, o659 P) :: (nat_lit 660, o660 P) :: (nat_lit 662, o662 P) :: (nat_lit 663, ⟨.type "function", none, .func (fnOf (Str.ofString "punctuation_chars") (Str.ofString "shlex.punctuation_chars") a663 b663 c663 .none .none .none (.str s243 (nat_lit 1087)) none (.ref 662) .none), #[]⟩) :: (nat_lit 664, o664 P) :: (nat_lit 665, o665 P) :: (nat_lit 667, o667 P) :: (nat_lit 668, o668 P) :: (nat_lit 670, o670 P) :: (nat_lit 671, o671 P) :: (nat_lit 672, o672 P) :: (nat_lit 673, o673 P) :: (nat_lit 675, o675 P) :: (nat_lit 676, o676 P) :: (nat_lit 678, o678 P) :: (nat_lit 679, o679 P) :: (nat_lit 680, o680 P) :: (nat_lit 682, o682 P) :: (nat_lit 683, o683 P) :: (nat_lit 685, o685 P) :: (nat_lit 686, o686 P) :: (nat_lit 687, o687 P) :: (nat_lit 689, o689 P) :: (nat_lit 690, o690 P) :: (nat_lit 692, o692 P) :: (nat_lit 693, ⟨.type "function", none, .func (fnOf (Str.ofString "get_token") (Str.ofString "shlex.get_token") a693 b693 c693 .none .none .none (.str s243 (nat_lit 1087)) none (.ref 692) .none), #[]⟩) :: (nat_lit 694, o694 P) :: (nat_lit 696, o696 P) :: (nat_lit 697, o697 P) :: (nat_lit 699, o699 P) :: (nat_lit 700, ⟨.type "function", none, .func (fnOf (Str.ofString "read_token") (Str.ofString "shlex.read_token") a700 b700 c700 .none .none .none (.str s243 (nat_lit 1087)) none (.ref 699) .none), #[]⟩) :: (nat_lit 701, o701 P) :: (nat_lit 703, o703 P) :: (nat_lit 704, o704 P) :: (nat_lit 706, o706 P) :: (nat_lit 707, o707 P) :: (nat_lit 708, o708 P) :: (nat_lit 709, o709 P) :: (nat_lit 711, o711 P) :: (nat_lit 712, o712 P) :: (nat_lit 714, o714 P) :: (nat_lit 715, o715 P) :: (nat_lit 716, o716 P) :: (nat_lit 718, o718 P) :: (nat_lit 719, o719 P) :: (nat_lit 721, o721 P) :: (nat_lit 722, ⟨.type "function", none, .func (fnOf (Str.ofString "__iter__") (Str.ofString "shlex.__iter__") a722 b722 c722 .none .none .none (.str s243 (nat_lit 1087)) none (.ref 721) .none), #[]⟩) :: (nat_lit 723, o723 P) :: (nat_lit 725, o725 P) :: (nat_lit 726, o726 P) :: (nat_lit 728, o728 P) :: (nat_lit 729, ⟨.type "function", none, .func (fnOf (Str.ofString "__next__") (Str.ofString "shlex.__next__") a729 b729 c729 .none .none .none (.str s243 (nat_lit 1087)) none (.ref 728) .none), #[]⟩) :: (nat_lit 730, o730 P) :: (nat_lit 731, o731 P) :: (nat_lit 732, o732 P) :: (nat_lit 733, o733 P) :: (nat_lit 734, o734 P) :: (nat_lit 737, o737 P) :: (nat_lit 738, o738 P) :: (nat_lit 740, o740 P) :: (nat_lit 741, o741 P) :: (nat_lit 743, o743 P) :: (nat_lit 744, ⟨.type "function", none, .func (fnOf (Str.ofString "split") (Str.ofString "split") a744 b744 c744 (.ref 737) .none .none (.str s243 (nat_lit 1087)) none (.ref 743) .none), #[]⟩) :: (nat_lit 745, o745 P) :: (nat_lit 747, o747 P) :: (nat_lit 748, o748 P) :: (nat_lit 750, o750 P) :: (nat_lit 751, ⟨.type "function", none, .func (fnOf (Str.ofString "join") (Str.ofString "join") a751 b751 c751 .none .none .none (.str s243 (nat_lit 1087)) none (.ref 750) .none), #[]⟩) :: (nat_lit 752, o752 P) :: (nat_lit 753, o753 P) :: (nat_lit 755, o755 P) :: (nat_lit 756, o756 P) :: (nat_lit 758, o758 P) :: (nat_lit 759, ⟨.type "function", none, .func (fnOf (Str.ofString "quote") (Str.ofString "quote") a759 b759 c759 .none .none .none (.str s243 (nat_lit 1087)) none (.ref 758) .none), #[]⟩) :: (nat_lit 762, o762 P) :: (nat_lit 776, o776 P) :: (nat_lit 778, o778 P) :: (nat_lit 779, o779 P) :: (nat_lit 781, o781 P) :: (nat_lit 782, o782 P) :: (nat_lit 784, o784 P) :: (nat_lit 788, o788 P) :: (nat_lit 789, o789 P) :: (nat_lit 791, o791 P) :: (nat_lit 792, o792 P) :: (nat_lit 794, o794 P) :: (nat_lit 795, ⟨.type "function", none, .func (fnOf (Str.ofString "body_encode") (Str.ofString "body_encode") a795 b795 c795 (.ref 788) .none .none (.str s727 (nat_lit 2298)) none (.ref 794) .none), #[]⟩) :: (nat_lit 796, o796 P) :: (nat_lit 798, o798 P) :: (nat_lit 799, o799 P) :: (nat_lit 801, o801 P) :: (nat_lit 802, ⟨.type "function", none, .func (fnOf (Str.ofString "_law_words") (Str.ofString "_law_words") a802 b802 c802 .none .none .none (.str s822 (nat_lit 2833)) none (.ref 801) .none), #[]⟩) :: (nat_lit 803, o803 P) :: (nat_lit 805, o805 P) :: (nat_lit 806, o806 P) :: (nat_lit 808, o808 P) :: (nat_lit 809, ⟨.type "function", none, .func (fnOf (Str.ofString "_law_safe") (Str.ofString "_law_safe") a809 b809 c809 .none .none .none (.str s822 (nat_lit 2833)) none (.ref 808) .none), #[]⟩) :: (nat_lit 810, o810 P) :: (nat_lit 812, o812 P) :: (nat_lit 813, o813 P) :: (nat_lit 815, o815 P) :: (nat_lit 816, ⟨.type "function", none, .func (fnOf (Str.ofString "_law_shown") (Str.ofString "_law_shown") a816 b816 c816 .none .none .none (.str s822 (nat_lit 2833)) none (.ref 815) .none), #[]⟩) :: (nat_lit 817, o817 P) :: (nat_lit 820, o820 P) :: (nat_lit 821, ⟨.type "function", none, .func (fnOf (Str.ofString "_law_pieces") (Str.ofString "_law_pieces") a821 b821 c821 .none .none .none (.str s822 (nat_lit 2833)) none (.ref 820) .none), #[]⟩) :: (nat_lit 822, o822 P) :: (nat_lit 825, o825 P) :: (nat_lit 826, ⟨.type "function", none, .func (fnOf (Str.ofString "_law_told") (Str.ofString "_law_told") a826 b826 c826 .none .none .none (.str s822 (nat_lit 2833)) none (.ref 825) .none), #[]⟩) :: (nat_lit 827, o827 P) :: (nat_lit 830, o830 P) :: (nat_lit 831, ⟨.type "function", none, .func (fnOf (Str.ofString "law") (Str.ofString "law") a831 b831 c831 .none .none .none (.str s822 (nat_lit 2833)) none (.ref 830) .none), #[]⟩) :: []
noncomputable def Ka : List Addr := [nat_lit 2, nat_lit 3, nat_lit 38, nat_lit 40, nat_lit 41, nat_lit 43, nat_lit 44, nat_lit 48, nat_lit 49, nat_lit 50, nat_lit 52, nat_lit 53, nat_lit 55, nat_lit 56, nat_lit 57, nat_lit 59, nat_lit 60, nat_lit 62, nat_lit 63, nat_lit 64, nat_lit 71, nat_lit 72, nat_lit 73, nat_lit 74, nat_lit 84, nat_lit 86, nat_lit 87, nat_lit 89, nat_lit 90, nat_lit 91, nat_lit 92, nat_lit 93, nat_lit 94, nat_lit 95, nat_lit 96, nat_lit 99, nat_lit 106, nat_lit 107, nat_lit 108, nat_lit 111, nat_lit 118, nat_lit 119, nat_lit 120, nat_lit 123, nat_lit 130, nat_lit 131, nat_lit 133, nat_lit 134, nat_lit 136, nat_lit 137, nat_lit 138, nat_lit 140, nat_lit 141, nat_lit 143, nat_lit 144, nat_lit 145, nat_lit 147, nat_lit 148, nat_lit 150, nat_lit 151, nat_lit 152, nat_lit 154, nat_lit 155, nat_lit 157, nat_lit 158, nat_lit 159, nat_lit 160, nat_lit 162, nat_lit 163, nat_lit 165, nat_lit 166, nat_lit 167, nat_lit 169, nat_lit 170, nat_lit 172, nat_lit 173, nat_lit 174, nat_lit 176, nat_lit 177, nat_lit 179, nat_lit 180, nat_lit 181, nat_lit 183, nat_lit 184, nat_lit 186, nat_lit 187, nat_lit 188, nat_lit 190, nat_lit 191, nat_lit 193, nat_lit 194, nat_lit 195, nat_lit 197, nat_lit 198, nat_lit 200, nat_lit 201, nat_lit 202, nat_lit 204, nat_lit 205, nat_lit 207, nat_lit 208, nat_lit 209, nat_lit 211, nat_lit 212, nat_lit 214, nat_lit 215, nat_lit 216, nat_lit 218, nat_lit 219, nat_lit 221, nat_lit 222, nat_lit 223, nat_lit 225, nat_lit 226, nat_lit 228, nat_lit 229, nat_lit 230, nat_lit 232, nat_lit 233, nat_lit 235, nat_lit 236, nat_lit 237, nat_lit 239, nat_lit 240, nat_lit 242, nat_lit 243, nat_lit 244, nat_lit 246, nat_lit 247, nat_lit 249, nat_lit 250, nat_lit 251, nat_lit 252, nat_lit 254, nat_lit 255, nat_lit 257, nat_lit 258, nat_lit 259, nat_lit 260, nat_lit 262, nat_lit 263, nat_lit 265, nat_lit 266, nat_lit 267, nat_lit 268, nat_lit 270, nat_lit 271, nat_lit 273, nat_lit 274, nat_lit 275, nat_lit 276, nat_lit 278, nat_lit 279, nat_lit 281, nat_lit 282, nat_lit 283, nat_lit 285, nat_lit 286, nat_lit 288, nat_lit 289, nat_lit 290, nat_lit 292, nat_lit 293, nat_lit 295, nat_lit 296, nat_lit 297, nat_lit 298, nat_lit 300, nat_lit 301, nat_lit 303, nat_lit 304, nat_lit 305, nat_lit 306, nat_lit 308, nat_lit 309, nat_lit 311, nat_lit 312, nat_lit 313, nat_lit 315, nat_lit 316, nat_lit 318, nat_lit 319, nat_lit 320, nat_lit 322, nat_lit 323, nat_lit 325, nat_lit 326, nat_lit 327, nat_lit 329, nat_lit 330, nat_lit 332, nat_lit 333, nat_lit 334, nat_lit 336, nat_lit 337, nat_lit 339, nat_lit 340, nat_lit 341, nat_lit 343, nat_lit 344, nat_lit 346, nat_lit 347, nat_lit 348, nat_lit 349, nat_lit 350, nat_lit 353, nat_lit 360, nat_lit 361, nat_lit 363, nat_lit 364, nat_lit 366, nat_lit 367, nat_lit 368, nat_lit 370, nat_lit 371, nat_lit 373, nat_lit 374, nat_lit 375, nat_lit 377, nat_lit 378, nat_lit 380, nat_lit 381, nat_lit 382, nat_lit 384, nat_lit 385, nat_lit 387, nat_lit 388, nat_lit 389, nat_lit 391, nat_lit 392, nat_lit 394, nat_lit 395, nat_lit 396, nat_lit 398, nat_lit 399, nat_lit 401, nat_lit 402, nat_lit 403, nat_lit 404, nat_lit 406, nat_lit 407, nat_lit 409, nat_lit 410, nat_lit 411, nat_lit 412, nat_lit 414, nat_lit 415, nat_lit 417, nat_lit 418, nat_lit 419, nat_lit 420, nat_lit 422, nat_lit 423, nat_lit 425, nat_lit 426, nat_lit 427, nat_lit 428, nat_lit 430, nat_lit 431, nat_lit 433, nat_lit 434, nat_lit 435, nat_lit 436, nat_lit 438, nat_lit 439, nat_lit 441, nat_lit 442, nat_lit 443, nat_lit 445, nat_lit 446, nat_lit 448, nat_lit 449, nat_lit 450, nat_lit 452, nat_lit 453, nat_lit 455, nat_lit 456, nat_lit 457, nat_lit 459, nat_lit 460, nat_lit 462, nat_lit 463, nat_lit 464, nat_lit 466, nat_lit 467, nat_lit 469, nat_lit 470, nat_lit 471, nat_lit 473, nat_lit 474, nat_lit 476, nat_lit 477, nat_lit 478, nat_lit 480, nat_lit 481, nat_lit 483, nat_lit 484, nat_lit 485, nat_lit 487, nat_lit 488, nat_lit 490, nat_lit 491, nat_lit 492, nat_lit 494, nat_lit 495, nat_lit 497, nat_lit 498, nat_lit 499, nat_lit 501, nat_lit 502, nat_lit 504, nat_lit 505, nat_lit 506, nat_lit 508, nat_lit 509, nat_lit 511, nat_lit 512, nat_lit 513, nat_lit 515, nat_lit 516, nat_lit 518, nat_lit 519, nat_lit 520, nat_lit 521, nat_lit 523, nat_lit 524, nat_lit 526, nat_lit 527, nat_lit 528, nat_lit 529, nat_lit 531, nat_lit 532, nat_lit 534, nat_lit 535, nat_lit 536, nat_lit 537, nat_lit 539, nat_lit 540, nat_lit 542, nat_lit 543, nat_lit 544, nat_lit 545, nat_lit 547, nat_lit 548, nat_lit 550, nat_lit 551, nat_lit 552, nat_lit 553, nat_lit 555, nat_lit 556, nat_lit 558, nat_lit 559, nat_lit 560, nat_lit 562, nat_lit 563, nat_lit 565, nat_lit 566, nat_lit 567, nat_lit 569, nat_lit 570, nat_lit 572, nat_lit 573, nat_lit 574, nat_lit 576, nat_lit 577, nat_lit 579, nat_lit 580, nat_lit 581, nat_lit 583, nat_lit 584, nat_lit 586, nat_lit 587, nat_lit 588, nat_lit 590, nat_lit 591, nat_lit 593, nat_lit 594, nat_lit 595, nat_lit 596, nat_lit 597, nat_lit 600, nat_lit 602, nat_lit 603, nat_lit 605, nat_lit 606, nat_lit 607, nat_lit 609, nat_lit 610, nat_lit 612, nat_lit 613, nat_lit 614, nat_lit 616, nat_lit 617, nat_lit 619, nat_lit 620, nat_lit 621, nat_lit 623, nat_lit 624, nat_lit 626, nat_lit 627, nat_lit 628, nat_lit 630, nat_lit 631, nat_lit 633, nat_lit 634, nat_lit 635, nat_lit 637, nat_lit 638, nat_lit 640, nat_lit 641, nat_lit 649, nat_lit 650, nat_lit 652, nat_lit 653, nat_lit 655, nat_lit 656, nat_lit 657, nat_lit 659, nat_lit 660, nat_lit 662, nat_lit 663, nat_lit 664, nat_lit 665, nat_lit 667, nat_lit 668, nat_lit 670, nat_lit 671, nat_lit 672, nat_lit 673, nat_lit 675, nat_lit 676, nat_lit 678, nat_lit 679, nat_lit 680, nat_lit 682, nat_lit 683, nat_lit 685, nat_lit 686, nat_lit 687, nat_lit 689, nat_lit 690, nat_lit 692, nat_lit 693, nat_lit 694, nat_lit 696, nat_lit 697, nat_lit 699, nat_lit 700, nat_lit 701, nat_lit 703, nat_lit 704, nat_lit 706, nat_lit 707, nat_lit 708, nat_lit 709, nat_lit 711, nat_lit 712, nat_lit 714, nat_lit 715, nat_lit 716, nat_lit 718, nat_lit 719, nat_lit 721, nat_lit 722, nat_lit 723, nat_lit 725, nat_lit 726, nat_lit 728, nat_lit 729, nat_lit 730, nat_lit 731, nat_lit 732, nat_lit 733, nat_lit 734, nat_lit 737, nat_lit 738, nat_lit 740, nat_lit 741, nat_lit 743, nat_lit 744, nat_lit 745, nat_lit 747, nat_lit 748, nat_lit 750, nat_lit 751, nat_lit 752, nat_lit 753, nat_lit 755, nat_lit 756, nat_lit 758, nat_lit 759, nat_lit 762, nat_lit 776, nat_lit 778, nat_lit 779, nat_lit 781, nat_lit 782, nat_lit 784, nat_lit 788, nat_lit 789, nat_lit 791, nat_lit 792, nat_lit 794, nat_lit 795, nat_lit 796, nat_lit 798, nat_lit 799, nat_lit 801, nat_lit 802, nat_lit 803, nat_lit 805, nat_lit 806, nat_lit 808, nat_lit 809, nat_lit 810, nat_lit 812, nat_lit 813, nat_lit 815, nat_lit 816, nat_lit 817, nat_lit 820, nat_lit 821, nat_lit 822, nat_lit 825, nat_lit 826, nat_lit 827, nat_lit 830, nat_lit 831]
theorem Kas (P : Params) : Ka = (Kf P).map (·.1) := by kernel_rfl
noncomputable def Kg (P : Params) : Frag := (nat_lit 746, o746 P) :: (nat_lit 4, o4 P) :: Kf P
noncomputable def Kga : List Addr := nat_lit 746 :: nat_lit 4 :: Ka
theorem Kgas (P : Params) : Kga = (Kg P).map (·.1) := by kernel_rfl
noncomputable def hook : Hook := kHook Kg Kga Kgas
noncomputable def Xt (s : Shared) : Bool := xlAt q [] s && recOk (RowW.records PySem.Challenge.rw_oy0415_01.row.toRowW) s
theorem lk1 (w : World) : (fun os => staticsOk (Fast.tw5923862056798008813 pw.main.body) (H0 w.params) (Hf w.params) && namesBound pw (Hf w.params) && gensDone ⟨Hf w.params, ⟨[]⟩, {}, 2879, os⟩ && laidKept (H0 w.params) (Hf w.params)) = fun _ => true := by kernel_rfl
theorem lk2 (w : World) : (fun os => Fast.tw4187177175401517315 q loose (Fast.tw5923862056798008813 pw.main.body) Xt true ⟨Hf w.params, ⟨[]⟩, {}, 2879, os⟩) = fun _ => openGood q loose := by kernel_rfl
theorem lk3 (w : World) : (fun os => hook.obs ⟨Hf w.params, ⟨[]⟩, {}, 2879, os⟩) = fun _ => hook.val w := by kernel_rfl
section
theorem lk (w : World) : (fun os => ((staticsOk (importedModules pw.main.body) (H0 w.params) (Hf w.params) && namesBound pw (Hf w.params) && gensDone ⟨Hf w.params, ⟨[]⟩, {}, 2879, os⟩ && laidKept (H0 w.params) (Hf w.params)),
    openSeen q loose (importedModules pw.main.body) Xt true ⟨Hf w.params, ⟨[]⟩, {}, 2879, os⟩, hook.obs ⟨Hf w.params, ⟨[]⟩, {}, 2879, os⟩)) = fun _ => (true, openGood q loose, hook.val w) := by
  funext os
  have a := congrFun (lk1 w) os
  have b := congrFun (lk2 w) os
  have c := congrFun (lk3 w) os
  rw [Fast.te5923862056798008813, Fast.te4187177175401517315]
  exact Prod.ext a (Prod.ext b c)
theorem ws1 : Fast.tw9446332074065402090 PySem.Challenge.rw_oy0415_01 = true := by kernel_rfl
theorem ws : PySem.Challenge.rw_oy0415_01.wellSaid = true := by rw [Fast.te9446332074065402090]; exact ws1
theorem left : LeftO pw q loose Xt hook.obs hook.val Nn true :=
  LeftO.of_pieces op3 sz2 run2 (by decide +kernel) lk
abbrev rowL : OpenRow := PySem.Challenge.rw_oy0415_01.row
@[reducible] noncomputable def dL : DefRec := { name := Str.ofString "law", params := a831, body := b831, scope := c831, pos := (match st 54 with | .FunctionDef _ _ _ _ _ _ _ _ _ p => p | _ => ⟨0, 0, 0, 0⟩) }
theorem hdefL : defOf q rowL.name = some (dL, []) := by kernel_rfl
theorem hpL : rowL.prog.theDef rowL.name = some (dL.params, dL.body, dL.scope) := by kernel_rfl
theorem hkL : kwWritten? dL.params.kwonlyargs dL.params.kw_defaults = some [] := by kernel_rfl
theorem okL : (chainsOk q && opensWell rowL.prog && (frees rowL.toRowW && rowL.within.isEmpty)) = true := by decide +kernel
theorem bareL : rowL.prog.bare := ⟨rfl, rfl, rfl, rfl, rfl, by decide +kernel⟩
theorem promL : rowL.toRowW.promised := by w_witness2
theorem head (call : WalkO q loose (XL q []) hook.says rowL.toRowW dL [] fun f vs => PySem.call f vs) : PySem.Challenge.rw_oy0415_01.Holds := by
  refine PySem.W.holds_law ws fun said => ?_
  exact PySem.W.holds_open (q := q) (loose := loose) (Xt := Xt) (XP := XL q []) (Yf := hook.obs) (Ya := hook.val) (YP := hook.says) (N := Nn) left hook.of hook.keeps (fun s e => xl_of s (Bool.and_eq_true_iff.mp e).1) XL.keeps hdefL hpL hkL (fun s e => recFacts_of (Bool.and_eq_true_iff.mp e).2) (by rfl) (by assumption) okL bareL promL call
section
noncomputable def lkc : List (Str × Option Value) → (Str → Option Value) → Str → Option Value
  | [], r, y => r y
  | p :: l, r, y => if y = p.1 then p.2 else lkc l r y
theorem lkc_out (r : Str → Option Value) (y : Str) : ∀ l : List (Str × Option Value), (∀ p ∈ l, y ≠ p.1) → lkc l r y = r y
  | [], _ => rfl
  | p :: l, h => by
    rw [lkc, if_neg (h p (.head _))]
    exact lkc_out r y l fun q hq => h q (.tail _ hq)
theorem chain_eq2 {l1 l2 : List (Str × Option Value)} {r1 r2 : Str → Option Value} (hr : ∀ y, (∀ p ∈ l1 ++ l2, y ≠ p.1) → r1 y = r2 y) (hm : ((l1 ++ l2).map fun p => lkc l1 r1 p.1) = ((l1 ++ l2).map fun p => lkc l2 r2 p.1)) : lkc l1 r1 = lkc l2 r2 := by
  funext y
  by_cases h : ∃ p, p ∈ l1 ++ l2 ∧ y = p.1
  · obtain ⟨p, hp, rfl⟩ := h
    exact List.map_inj_left.mp hm p hp
  · have h' : ∀ p ∈ l1 ++ l2, y ≠ p.1 := fun p hp e => h ⟨p, hp, e⟩
    rw [lkc_out _ _ _ fun p hp => h' p (List.mem_append_left _ hp), lkc_out _ _ _ fun p hp => h' p (List.mem_append_right _ hp)]
    exact hr y h'
theorem chain_eq {l1 l2 : List (Str × Option Value)} {r : Str → Option Value} (hm : ((l1 ++ l2).map fun p => lkc l1 r p.1) = ((l1 ++ l2).map fun p => lkc l2 r p.1)) : lkc l1 r = lkc l2 r := chain_eq2 (fun _ _ => rfl) hm
noncomputable def AllF (f : Str → Option Value) : List (Str × Option Value) → Prop
  | [] => True
  | p :: l => f p.1 = p.2 ∧ AllF f l
theorem lkc_of {f : Str → Option Value} (y : Str) : ∀ l1 l2 : List (Str × Option Value), AllF f l2 → lkc l1 f y = lkc (l1 ++ l2) f y
  | p :: l1, l2, h => by
    rw [List.cons_append, lkc, lkc, lkc_of y l1 l2 h]
  | [], [], _ => rfl
  | [], p :: l2, h => by
    show f y = if y = p.1 then p.2 else lkc l2 f y
    by_cases e : y = p.1
    · rw [if_pos e, e]
      exact h.1
    · rw [if_neg e]
      exact lkc_of y [] l2 h.2
theorem chain_from {l1 l2 : List (Str × Option Value)} {f : Str → Option Value} (lf : List (Str × Option Value)) (hf : AllF f lf) (hn : ∀ y, (∀ p ∈ (l1 ++ lf) ++ l2, y ≠ p.1) → f y = none)
    (hm : (((l1 ++ lf) ++ l2).map fun p => lkc (l1 ++ lf) f p.1) = (((l1 ++ lf) ++ l2).map fun p => lkc l2 (fun _ => none) p.1)) : lkc l1 f = lkc l2 fun _ => none :=
  (funext fun y => lkc_of y l1 lf hf).trans (chain_eq2 hn hm)
noncomputable def stB (s : Stmt) : List Stmt × PySem.Expr := match s with
  | .While t b _ _ => (b, t)
  | .For t _ b _ _ => (b, t)
  | _ => ([], .Constant .none 0 ⟨0, 0, 0, 0⟩)
theorem code_defL {prog : Program} {w : World} {A A₀ : Around} {s : Shared} {K : Frag} {L : Addr} {h₀ base : Heap} {m mg mb : Str → Option Value} {news : List (Addr × Obj)} {p : Program} {loose : List Str} {mean : ExcName → Option Value}
    {env : Env} {outer : List Env} {R : Result → Shared → Prop} {name qual : Str} {params : Arguments} {body : List Stmt} {scope : Scope} {dV kV doc pm cdv ct oc : Value} {an od : Option Addr} {osl : Array (Option Value)} {f : Addr} {args : Args} {binds bl : List (Str × Value)}
    (B : Below A₀ base outer h₀) (F : Fr h₀ L s.heap m) (X₀ : K.In h₀) (N : News h₀ L s.heap news) (T : Top p loose mean mg mb h₀) (hA : A.frames = some (env :: outer)) (hf : env.frame = some L) (hke : env.scope.kind = .function)
    (ho : K.lookup f = some ⟨oc, od, .func (fnOf name qual params body scope dV kV doc pm an cdv ct), osl⟩) (hcd : codeIn K cdv qual = true) (hroom : A.depth < recursionLimit)
    (hbind : BindsTo s (fnOf name qual params body scope dV kV doc pm an cdv ct) args binds) (he : binds.reverse = bl) (hloc : ∀ y ∈ binds, scope.names.lookup y.1 = some .local)
    (h : ∀ g L' h₁ tk, Fr h₀ L g m → Fr g L' h₁ (fun y => bl.lookup y) → News g L' h₁ news → Below A base (env :: outer) g → K.In g → Top p loose mean mg mb g →
      wpAny (model prog w) (A.deeper (envOf qual scope L' f cdv)) (execs body (envOf qual scope L' f cdv))
        (fun fl s' => LeaveK h₀ L m g R (match fl with | .ret v => v | _ => .none) s')
        (fun e s' => wpAny (model prog w) (A.deeper (envOf qual scope L' f cdv)) (leaving (envOf qual scope L' f cdv) e) (fun _ s'' => R (.error e) s'') (fun e' s'' => R (.error e') s'') s')
        { s with heap := h₁, toks := tk })
    (hco : scope.isCoroutine = false) (hgen : scope.isGenerator = false) (hk : scope.kind = .function)
    (hcell : ∀ x ∈ scope.names, x.2 ≠ .cell) : codeAny (model prog w) A (.call (.ref f) args) R s := by
  subst he
  exact code_def B F X₀ N T hA hf hke ho hcd hroom hbind hloc (fun g L' h₁ => h g L' h₁ _) hco hgen hk hcell
theorem gen_tk {α : Type} {M : Model} {A : Around} {t : Sem α} {Q : α → Shared → Prop} {E : Value → Shared → Prop} {h : Heap} {g : Array GenState} {d : Drawn} {a b : Nat} {o : OsState} (H : ∀ k, wpAny M A t Q E ⟨h, g, d, k, o⟩) : wpAny M A t Q E ⟨h, g, d, a + b, o⟩ := H _
end
end
end
end
open PySem PySem.W PyProof.Rows
theorem reg : PySem.Challenge.rw_oy0415_01 = PySem.Challenge.rw_oy0415_01 ∧ Kf = Kf := by
  k_fill
  exact ⟨rfl, rfl⟩
local macro_rules | `(tactic| k_room) => `(tactic| ktr_room)
local macro_rules | `(tactic| k_enter) => `(tactic| (refine' code_defL ?k1 ?k2 ?k3 ?k4 ?k5 ?kA ?kF ?kK ?k6 ?k7 ?k8 ?k9 ?kE ?kB ?_ ?c2 ?c3 ?c4 ?c5; (case kA | kF => exact rfl); (case kK => first | exact rfl | assumption); (case k1 | k2 => k_asm); (case k3 | k4 | k5 => k_asm); (case k6 | k7 => k_is); (case k8 => k_room); (case k9 => first | exact BindsTo.of_eq rfl | exact binds_K (by k_in) rfl (by k_is) rfl rfl rfl | fail "k_enter: no rule for these arguments"); (case kE => kp_lit); (case c5 => decide); (case kB => exact locs rfl); (case c2 | c3 | c4 => exact rfl); k_whole; intro g' L' h' tk' FG' F' N' B' X' T'; (try dsimp only); (try k_lift B'); (try k_fold)))
local macro_rules | `(tactic| walk_at "ite") => `(tactic| (k_closed; (first | refine PySem.W.ite_pos (by decide +kernel) ?_ | refine PySem.W.ite_neg (by decide +kernel) ?_)))
section
open PySem PySem.W PyProof.Rows PySem.Builtin
def Halt (P : Prop) : Prop := P
theorem halt {P : Prop} (h : Halt P) : P := h
theorem unhalt {P : Prop} (h : P) : Halt P := h
theorem no_slots {K : Frag} {M : Model} {h : Heap} (X : K.In h) {C : Addr} {cd : ClassData} (e : clsIn K C = some cd) : Looks M h (Slots.slotNamesOf (.ref C)) cd.slotNames := (looks_clsIn X e).andThen .now
theorem obj_slots {M : Model} {h : Heap} : Looks M h (Slots.slotNamesOf (.type "object")) [] := .now
def flatIn (K : Frag) (C : Addr) : Bool := match K.lookup C with
  | some ⟨_, _, .cls cd, _⟩ => cd.slotNames.isEmpty
  | _ => false
theorem adds_no {K : Frag} {M : Model} {h : Heap} (X : K.In h) {C : Addr} {cd : ClassData} (e : clsIn K C = some cd) (e0 : cd.slotNames = []) {b : Value} (eb : cd.bases = [b]) {l : List Str} (hb : Looks M h (Slots.slotNamesOf b) l) : Looks M h (Slots.addsLayout (.ref C)) false := by
  unfold Slots.addsLayout
  refine (looks_clsIn X e).andThen ?_
  rw [eb, e0]
  intro A Q E s k q
  refine wpAny_bind ?_
  rw [List.forIn_cons]
  refine wpAny_bind (wpAny_bind (hb _ _ _ _ k (wpAny_pure ?_)))
  dsimp only
  rw [List.forIn_nil]
  refine wpAny_pure (wpAny_pure ?_)
  simpa using q
theorem made_none {K : Frag} {M : Model} {h : Heap} (X : K.In h) {C : Addr} {oc : Value} {od : Option Addr} {cd : ClassData} {sl : Array (Option Value)} (e : K.lookup C = some ⟨oc, od, .cls cd, sl⟩) {c : Value} {l : List Value} (em : cd.mro = c :: l) (e4 : sl[4]? = some (some .none)) : Looks M h (Bind.madeBy (.ref C)) none := by
  have hm : Looks M h (mroOf (.ref C)) cd.mro := (looks_clsIn X (by unfold clsIn; rw [e])).andThen .now
  intro A Q E s k q
  unfold Bind.madeBy
  refine wpAny_bind (hm A _ E s k ?_)
  rw [em, List.forIn_cons]
  refine wpAny_bind (wpAny_bind (wpAny_bind (wpAny_bind (wpAny_loadPart (k _ _ (X _ _ e)) (wpAny_pure ?_)))))
  dsimp only
  rw [e4]
  exact wpAny_pure (wpAny_pure (wpAny_pure q))
theorem solid_obj {M : Model} {h : Heap} : Looks M h (Slots.solid (.type "object")) (.type "object") := Looks.of_pure (by kernel_rfl)
theorem solid_ref {M : Model} {h : Heap} {b : Value} {l : List Value} (hm : Looks M h (mroOf b) l) (ha : ∀ c ∈ l, Looks M h (Slots.addsLayout c) false ∧ ((∃ a, c = .ref a) ∨ c = .type "object")) : Looks M h (Slots.solid b) (.type "object") := by
  refine hm.andThen ?_
  intro A Q E s k q
  clear hm
  refine wpAny_bind ?_
  induction l with
  | nil =>
    rw [List.forIn_nil]
    exact wpAny_pure (wpAny_pure q)
  | cons c l ih =>
    rw [List.forIn_cons]
    refine wpAny_bind (wpAny_bind ((ha c (.head _)).1 _ _ _ _ k ?_))
    simp only [Bool.false_eq_true, if_false]
    rcases (ha c (.head _)).2 with ⟨a, rfl⟩ | rfl
    · exact wpAny_pure (ih fun c hc => ha c (.tail _ hc))
    · dsimp only
      split
      · exact wpAny_pure (wpAny_pure (wpAny_pure q))
      · exact wpAny_pure (ih fun c hc => ha c (.tail _ hc))
theorem best_one {M : Model} {h : Heap} {b t : Value} (hs : Looks M h (Slots.solid b) t) : Looks M h (Slots.bestBase [b]) b := by
  intro A Q E s k q
  unfold Slots.bestBase
  dsimp only
  refine wpAny_bind ?_
  rw [List.forIn_cons]
  refine wpAny_bind (wpAny_bind (hs _ _ _ _ k (wpAny_pure ?_)))
  dsimp only
  rw [List.forIn_nil]
  exact wpAny_pure (wpAny_pure q)
theorem made_obj {M : Model} {h : Heap} : Looks M h (Bind.madeBy (.type "object")) (some "object.__new__") := by
  have hmro : mroOf (.type "object") = pure [.type "object"] := by kernel_rfl
  have hlk : typeLookup (.type "object") "__new__" = pure (some (.builtin "object.__new__")) := by rw [typeLookup_type, builtinLookup_eq_fast]; kernel_rfl
  have he : ("object.__new__".endsWith ".__new__") = true := by decide +kernel
  intro A Q E s k q
  unfold Bind.madeBy
  rw [hmro, pure_bind, List.forIn_cons]
  refine wpAny_bind (wpAny_bind ?_)
  dsimp only
  rw [hlk]
  refine wpAny_bind (wpAny_pure ?_)
  dsimp only
  rw [he]
  exact wpAny_pure (wpAny_pure (wpAny_pure q))
theorem static3 {M : Model} {h : Heap} {c0 c1 c2 : Addr} {d0 d1 d2 : ClassData} (hm : Looks M h (mroOf (.ref c0)) [.ref c0, .ref c1, .ref c2, .type "object"])
    (m0 : Looks M h (Bind.madeBy (.ref c0)) none) (m1 : Looks M h (Bind.madeBy (.ref c1)) none) (m2 : Looks M h (Bind.madeBy (.ref c2)) none)
    (k0 : Looks M h (classData c0) d0) (k1 : Looks M h (classData c1) d1) (k2 : Looks M h (classData c2) d2)
    (b0 : Looks M h (Slots.bestBase d0.bases) (.ref c1)) (b1 : Looks M h (Slots.bestBase d1.bases) (.ref c2)) (b2 : Looks M h (Slots.bestBase d2.bases) (.type "object")) :
    Looks M h (Bind.staticBase (.ref c0)) (.type "object") := by
  intro A Q E s k q
  unfold Bind.staticBase
  refine wpAny_bind (hm A _ E s k ?_)
  rw [List.forIn_cons]
  refine wpAny_bind (wpAny_bind (wpAny_bind (m0 _ _ _ _ k ?_)))
  simp only [Option.isSome_none, Bool.false_eq_true, if_false]
  refine wpAny_bind (k0 _ _ _ _ k (wpAny_bind (b0 _ _ _ _ k (wpAny_pure ?_))))
  dsimp only
  rw [List.forIn_cons]
  refine wpAny_bind (wpAny_bind (m1 _ _ _ _ k ?_))
  simp only [Option.isSome_none, Bool.false_eq_true, if_false]
  refine wpAny_bind (k1 _ _ _ _ k (wpAny_bind (b1 _ _ _ _ k (wpAny_pure ?_))))
  dsimp only
  rw [List.forIn_cons]
  refine wpAny_bind (wpAny_bind (m2 _ _ _ _ k ?_))
  simp only [Option.isSome_none, Bool.false_eq_true, if_false]
  refine wpAny_bind (k2 _ _ _ _ k (wpAny_bind (b2 _ _ _ _ k (wpAny_pure ?_))))
  dsimp only
  rw [List.forIn_cons]
  refine wpAny_bind (wpAny_bind (made_obj _ _ _ _ k ?_))
  simp only [Option.isSome_some, if_true]
  exact wpAny_pure (wpAny_pure (wpAny_pure q))
theorem here3 {M : Model} {h : Heap} {c0 : Addr} (hs : Looks M h (Bind.staticBase (.ref c0)) (.type "object")) : Looks M h (Bind.madeHere "object.__new__" (.ref c0)) () :=
  hs.andThen (made_obj.andThen (Looks.of_pure (by simp only [Option.map_some, bne_self_eq_false, Bool.false_eq_true, if_false])))
end
section
open PySem PySem.W PyProof.Rows PySem.Builtin PySem.Calls
theorem look_of {K : Frag} {a : Addr} {o : Obj} (e : K.lookup a = some o) : K.lookup a = some o := e
theorem cls_of {K : Frag} {C : Addr} {oc : Value} {od : Option Addr} {cd : ClassData} {sl : Array (Option Value)} (e : K.lookup C = some ⟨oc, od, .cls cd, sl⟩) : clsIn K C = some cd := by unfold clsIn; rw [e]
section
variable {P : Params}
theorem l597 : ∃ oc od cd sl, (Kf P).lookup 597 = some ⟨oc, od, .cls cd, sl⟩ ∧ cd.mro = [.ref 597, .ref 120, .ref 93, .type "object"] ∧ sl[4]? = some (some .none) ∧ cd.slotNames = [] ∧ cd.bases = [.ref 120] ∧ cd.abstract = false ∧ cd.hasDel = false :=
  ⟨_, _, _, _, rfl, rfl, rfl, rfl, rfl, rfl, rfl⟩
theorem l120 : ∃ oc od cd sl, (Kf P).lookup 120 = some ⟨oc, od, .cls cd, sl⟩ ∧ cd.mro = [.ref 120, .ref 93, .type "object"] ∧ sl[4]? = some (some .none) ∧ cd.slotNames = [] ∧ cd.bases = [.ref 93] :=
  ⟨_, _, _, _, rfl, rfl, rfl, rfl, rfl⟩
theorem l93 : ∃ oc od cd sl, (Kf P).lookup 93 = some ⟨oc, od, .cls cd, sl⟩ ∧ cd.mro = [.ref 93, .type "object"] ∧ sl[4]? = some (some .none) ∧ cd.slotNames = [] ∧ cd.bases = [.type "object"] :=
  ⟨_, _, _, _, rfl, rfl, rfl, rfl, rfl⟩
end
theorem made597' {P : Params} {M : Model} {h : Heap} (X : (Kf P).In h) : Looks M h (Bind.madeBy (.ref 597)) none ∧ Looks M h (Bind.staticBase (.ref 597)) (.type "object") := by
  obtain ⟨_, _, d0, _, e0, r0, s0, n0, b0, _, _⟩ := l597 (P := P)
  obtain ⟨_, _, d1, _, e1, r1, s1, n1, b1⟩ := l120 (P := P)
  obtain ⟨_, _, d2, _, e2, r2, s2, n2, b2⟩ := l93 (P := P)
  have k0 := looks_clsIn (M := M) X (cls_of e0)
  have k1 := looks_clsIn (M := M) X (cls_of e1)
  have k2 := looks_clsIn (M := M) X (cls_of e2)
  have g0 : Looks M h (mroOf (.ref 597)) d0.mro := k0.andThen .now
  have g1 : Looks M h (mroOf (.ref 120)) d1.mro := k1.andThen .now
  have g2 : Looks M h (mroOf (.ref 93)) d2.mro := k2.andThen .now
  have a2 : Looks M h (Slots.addsLayout (.ref 93)) false := adds_no X (cls_of e2) n2 b2 obj_slots
  have a1 : Looks M h (Slots.addsLayout (.ref 120)) false := adds_no X (cls_of e1) n1 b1 (no_slots X (cls_of e2))
  have a3 : Looks M h (Slots.addsLayout (.type "object")) false := .now
  have m0 := made_none (M := M) X e0 r0 s0
  have m1 := made_none (M := M) X e1 r1 s1
  have m2 := made_none (M := M) X e2 r2 s2
  refine ⟨m0, static3 (d0 := d0) (d1 := d1) (d2 := d2) (r0 ▸ g0) m0 m1 m2 k0 k1 k2 ?_ ?_ ?_⟩
  · rw [b0]
    refine best_one (solid_ref (l := [.ref 120, .ref 93, .type "object"]) (r1 ▸ g1) fun c hc => ?_)
    simp only [List.mem_cons, List.not_mem_nil, or_false] at hc
    rcases hc with rfl | rfl | rfl
    · exact ⟨a1, .inl ⟨_, rfl⟩⟩
    · exact ⟨a2, .inl ⟨_, rfl⟩⟩
    · exact ⟨a3, .inr rfl⟩
  · rw [b1]
    refine best_one (solid_ref (l := [.ref 93, .type "object"]) (r2 ▸ g2) fun c hc => ?_)
    simp only [List.mem_cons, List.not_mem_nil, or_false] at hc
    rcases hc with rfl | rfl
    · exact ⟨a2, .inl ⟨_, rfl⟩⟩
    · exact ⟨a3, .inr rfl⟩
  · rw [b2]
    exact best_one solid_obj
theorem st597 {P : Params} {M : Model} {h : Heap} (X : (Kf P).In h) : Looks M h (Bind.staticBase (.ref 597)) (.type "object") := (made597' X).2
theorem made597 {P : Params} {M : Model} {h : Heap} (X : (Kf P).In h) : Looks M h (Bind.madeBy (.ref 597)) none ∧ Looks M h (Bind.madeHere "object.__new__" (.ref 597)) () := ⟨(made597' X).1, here3 (st597 X)⟩
end
section
open PySem PySem.W PyProof.Rows PySem.Builtin PySem.Calls
theorem new597 {P : Params} {prog : Program} {w : World} {A : Around} {h : Heap} {R : Result → Shared → Prop} {g : Array GenState} {d : Drawn} {t : Nat} {os : OsState} (X : (Kf P).In h)
    (hq : R (.ok (.ret (.ref (h.objs.size + 1)))) ⟨(h.push emptyDict).push (instObj 597 h.objs.size), g, d, t, os⟩) :
    codeAny (model prog w) A (.call (.builtin "object.__new__") ⟨[.ref 597], []⟩) R ⟨h, g, d, t, os⟩ := by
  obtain ⟨oc, od, d0, sl, e0, r0, s0, n0, b0, e1, e2⟩ := l597 (P := P)
  have hC := X _ _ e0
  have here : Looks (model prog w) h (Bind.madeHere "object.__new__" (.ref 597)) () := (made597 X).2
  have typ : Looks (model prog w) h (isInstance (.ref 597) (.type "type")) true := looks_instIn (K := Kf P) X rfl
  have top : Looks (model prog w) h (isSubtype (.ref 597) (.type "object")) true := looks_mroIn (K := Kf P) X rfl
  have self : Looks (model prog w) h (isSubtype (.ref 597) (.ref 597)) true := looks_mroIn (K := Kf P) X rfl
  have base := Looks.of_pure (M := model prog w) (h := h) (t := (pure () : Sem Unit)) rfl
  have F := PySem.F.objNew
  refine codeAny_call_builtin_code (Code.quiet_builtin _ F.quiet) ?_
  simp only [checkBuiltinCall, F.kind, F.split, F.row]
  have args : Bind.checkArgs "object.__new__" ⟨.hand, "object.__new__", "__new__", .cls, []⟩ ⟨[.ref 597], []⟩ = pure () := by kernel_rfl
  rw [args]
  have stat : Looks (model prog w) h (Bind.staticBase (.ref 597)) (.type "object") := st597 X
  have made := made_obj (M := model prog w) (h := h)
  repeat (first | simp only [bne_self_eq_false, Bool.false_eq_true, if_false] | lk)
  all_goals
    refine codeAny_builtin F.entry ?_
    unfold Builtin.«object.__new__»
    have fin : ∀ A', wpAny (model prog w) A' (do
        let d ← if typeHasDict (.ref 597) then some <$> alloc { cls := .type "dict", data := .dict #[] } else pure none
        ret (← newObj (.ref 597) .plain d)) (fun fin s' => match fin with | .done f => R (.ok f) s' | .again c' => c'.quiet = true ∧ codeAny (model prog w) A c' R s') (fun e s' => R (.error e) s') ⟨h, g, d, t, os⟩ := by
      intro A'
      show wpAny _ _ ((alloc emptyDict >>= fun x => pure (some x)) >>= _) _ _ _
      refine wpAny_bind (wpAny_bind (wpAny_alloc (wpAny_pure (wpAny_bind ?_))))
      show wpAny _ _ (newObjAsIs _ _ _) _ _ _
      unfold newObjAsIs classHasDel
      refine wpAny_bind (wpAny_alloc (wpAny_bind (wpAny_bind (wpAny_load (Heap.get?_push_of_some _ (Heap.get?_push_of_some _ hC)) (wpAny_pure ?_)))))
      rw [e2]
      refine wpAny_pure (wpAny_pure ?_)
      show R _ _
      rw [Heap.size_push]
      exact hq
    repeat lk
    repeat (first | simp only [e1, Bool.false_eq_true, if_false] | exact fin _ | lk)
theorem call597 {P : Params} {prog : Program} {w : World} {A : Around} {h : Heap} {R : Result → Shared → Prop} {g : Array GenState} {d : Drawn} {t : Nat} {os : OsState} (X : (Kf P).In h) {v : Value}
    (hq : wpAny (model prog w) (A.under (.builtin "type.__call__" ⟨[.ref 597, v], []⟩)) (getAttr (.ref 597) "__new__") (fun new s₁ => wpAny (model prog w) (A.under (.builtin "type.__call__" ⟨[.ref 597, v], []⟩)) (call new [.ref 597, v]) (fun obj s₂ =>
        Halt (∃ x dx oa, obj = .ref x ∧ s₂.heap.get? x = some (instObj 597 dx) ∧ s₂.heap.get? dx = some oa ∧ (Kf P).In s₂.heap ∧
          codeAny (model prog w) (A.under (.builtin "type.__call__" ⟨[.ref 597, v], []⟩)) (.call (.ref 367) ⟨[.ref x, v], []⟩) (InitBack x R) s₂)) (fun e s' => R (.error e) s') s₁) (fun e s' => R (.error e) s') ⟨h, g, d, t, os⟩) :
    codeAny (model prog w) A (.call (.ref 597) ⟨[v], []⟩) R ⟨h, g, d, t, os⟩ := by
  obtain ⟨oc, od, d0, sl, e0, r0, s0, n0, b0, e1, e2⟩ := l597 (P := P)
  have hC := X _ _ e0
  have made : Looks (model prog w) h (Bind.madeBy (.ref 597)) none := (made597 X).1
  have typ : Looks (model prog w) h (isInstance (.ref 597) (.type "type")) true := looks_instIn (K := Kf P) X rfl
  have call : Looks (model prog w) h (specialOf (.ref 597) "__call__") (some (.builtin "type.__call__")) := looks_specialIn (K := Kf P) X rfl
  refine codeAny_of_tree ?_
  show wpAny _ _ (callAny (.ref 597) _) _ _ _
  refine nd_load hC ?_
  show wpAny _ _ (callAny.viaDunder (.ref 597) _) _ _ _
  unfold callAny.viaDunder
  refine wpAny_bind (call.at ?_)
  dsimp only
  rw [tc_bind]
  refine wpAny_bind (wpAny_pure (wpAny_bind (wpAny_pure ?_)))
  refine wpAny_pure (a := Fin.again (.call (.builtin "type.__call__") ⟨.ref 597 :: [v], []⟩)) (And.intro rfl ?_)
  refine codeAny_call_builtin_at (Code.quiet_builtin _ (by decide +kernel)) entry_typeCall (check_slot tc_kind tc_split typ (tc_args _ _ _) ?_)
  unfold Builtin.«type.__call__»
  have hm : Looks (model prog w) h (mroOf (.ref 597)) d0.mro := ((Looks.ld (part := none) hC).andThen .now).andThen .now
  have e4 : d0.mro.isEmpty = false := by rw [r0]; rfl
  repeat ((fail_if_success (with_reducible show wpAny _ _ (getAttr _ _) _ _ _)); first | simp only [e4, Bool.false_eq_true, if_false] | lk)
  refine wpAny_mono hq (fun new s₁ h₁ => ?_) fun _ _ x => x
  refine wpAny_bind (wpAny_holding (wpAny_mono h₁ (fun obj s₂ h₂ => ?_) fun _ _ x => x))
  obtain ⟨x, dx, oa, rfl, hx, hdx, X₂, h₂⟩ := h₂
  obtain ⟨h, g, d, t, os⟩ := s₂
  have self : Looks (model prog w) h (isSubtype (.ref 597) (.ref 597)) true := looks_mroIn (K := Kf P) X₂ rfl
  have t1 : Looks (model prog w) h (typeOf (.ref x)) (.ref 597) := (Looks.ld hx).andThen .now
  have i1 : Looks (model prog w) h (typeLookup (.ref 597) "__init__") (some (.ref 367)) := looks_findIn (K := Kf P) X₂ rfl
  have b1 : Looks (model prog w) h (bindSpecial (.ref 367) (.ref x)) (.ref 367, [.ref x]) := bind_fn (K := Kf P) X₂ _ rfl
  unfold isInstance callSpecial? specialOf
  repeat (first | with_reducible refine wpAny_call ?_ | lk)
  refine codeAny_mono h₂ fun r s' z => ?_
  rcases r with e | (v | _ | _ | _) <;> first | exact z | exact z.elim | skip
  obtain ⟨rfl, z⟩ := z
  exact wpAny_pure (wpAny_pure z)
end
section
local macro_rules | `(tactic| walk_at "execs cons") => `(tactic| (first | (k_fold; walk_at "execs cons") | (with_reducible refine gen_tk ?_; intro tk9; walk_at "execs cons")))
abbrev sioD (P : Params) (k0 k1 k2 t0 t1 t2 : Tok) (nl buf : Str) (pos : Int) : Obj :=
  dictOf [⟨PyData.keyHash P (Str.ofString "_StringIO__newline"), .str (Str.ofString "_StringIO__newline") k0, .str nl t0⟩,
    ⟨PyData.keyHash P (Str.ofString "_StringIO__buf"), .str (Str.ofString "_StringIO__buf") k1, .str buf t1⟩,
    ⟨PyData.keyHash P (Str.ofString "_StringIO__pos"), .str (Str.ofString "_StringIO__pos") k2, .int pos t2⟩] 3
abbrev ofL (l : List Nat) : Str := ⟨l.toArray⟩
theorem ofL_len (l : List Nat) : (ofL l).length = l.length := by simp [ofL, Str.length]
theorem slice_one {l : List Nat} {i : Nat} {c : Nat} (h : l[i]? = some c) (j : Int) (hj : j = (i : Int) + 1) : Txt.slice (ofL l) (some (i : Int)) (some j) = ofL [c] := by
  subst hj
  obtain ⟨hl, e⟩ := List.getElem?_eq_some_iff.mp h
  have := StrLaws.sliceText_nat (ofL l) (a := i) (b := i + 1) (Nat.le_succ _) (by rw [ofL_len]; omega)
  have e2 : ((i : Int) + 1) = ((i + 1 : Nat) : Int) := by omega
  rw [e2]
  refine Eq.trans this ?_
  have e3 : ((ofL l).cps.toList.drop i).take (i + 1 - i) = [c] := by
    rw [Nat.add_sub_cancel_left]
    simp [ofL, List.drop_eq_getElem_cons hl, e]
  rw [e3]
theorem read_spec {prog : Program} {w : World} {p : Program} {loose : List Str} {mean : ExcName → Option Value} {mg mb : Str → Option Value}
    {dp un : Nat} {gd : Option (List Code)} {cn : Str} {cs : Scope} {a : Addr} {ccd : Value} {cl : List (Str × Addr)} {outer : List Env} {A₀ : Around} {base h₀ : Heap} {L : Addr} {m : Str → Option Value} {s : Shared} {Q E : Value → Shared → Prop}
    (B : Below A₀ base outer h₀) (F : Fr h₀ L s.heap m) (X : (Kf w.params).In h₀) (T : Top p loose mean mg mb h₀) (hk : cs.kind = .function)
    {sio ds : Addr} {k0 k1 k2 t0 t1 t2 tk : Tok} {nl : Str} {buf : List Nat} {pos : Int} {i c : Nat} {own : List (Addr × Obj)}
    (N : News h₀ L s.heap ((sio, instObj 597 ds) :: (ds, sioD w.params k0 k1 k2 t0 t1 t2 nl (ofL buf) pos) :: own)) (hne : sio ≠ ds) (ho : OwnOff own [sio, ds])
    (hb : buf.length < 1000000) (hi : pos = (i : Int)) (hpos : buf[i]? = some c) (hd : dp + 3 < recursionLimit) (hu : un + 30 < cLine)
    (hret : ∀ (t t' : Tok) (h' : Heap) (tk' : Nat), Fr h₀ L h' m → News h₀ L h' ((sio, instObj 597 ds) :: (ds, sioD w.params k0 k1 k2 t0 t1 t' nl (ofL buf) ((i + 1 : Nat) : Int)) :: own) → Q (.str (ofL [c]) t) { s with heap := h', toks := tk' }) :
    wpAny (model prog w) (ktrTop dp un gd cn cs L a ccd cl outer) (call (.ref 543) [.ref sio, .int 1 tk]) Q E s := by
  subst hi
  have hlt : i < (ofL buf).length := by rw [ofL_len]; exact (List.getElem?_eq_some_iff.mp hpos).1
  have hlb : (ofL buf).length < 1000000 := by rw [ofL_len]; exact hb
  refine wpAny_call ?_
  k_dflt k_enter
  k_steps
  · rw [slice_one hpos _ rfl]
    exact hret _ _ _ _ (by assumption) (by assumption)
  · have e : (((ofL buf).length : Nat) : Int) = ((i + 1 : Nat) : Int) := by omega
    rw [slice_one hpos _ (by omega)]
    have N9 := ‹News h₀ L _ _›
    rw [e] at N9
    exact hret _ _ _ _ (by assumption) N9
theorem read_end {prog : Program} {w : World} {p : Program} {loose : List Str} {mean : ExcName → Option Value} {mg mb : Str → Option Value}
    {dp un : Nat} {gd : Option (List Code)} {cn : Str} {cs : Scope} {a : Addr} {ccd : Value} {cl : List (Str × Addr)} {outer : List Env} {A₀ : Around} {base h₀ : Heap} {L : Addr} {m : Str → Option Value} {s : Shared} {Q E : Value → Shared → Prop}
    (B : Below A₀ base outer h₀) (F : Fr h₀ L s.heap m) (X : (Kf w.params).In h₀) (T : Top p loose mean mg mb h₀) (hk : cs.kind = .function)
    {sio ds : Addr} {k0 k1 k2 t0 t1 t2 tk : Tok} {nl : Str} {buf : List Nat} {pos : Int} {own : List (Addr × Obj)}
    (N : News h₀ L s.heap ((sio, instObj 597 ds) :: (ds, sioD w.params k0 k1 k2 t0 t1 t2 nl (ofL buf) pos) :: own)) (hne : sio ≠ ds) (ho : OwnOff own [sio, ds])
    (hb : buf.length < 1000000) (hi : pos = (buf.length : Int)) (hd : dp + 3 < recursionLimit) (hu : un + 30 < cLine)
    (hret : ∀ (t : Tok) (h' : Heap) (tk' : Nat), Fr h₀ L h' m → News h₀ L h' ((sio, instObj 597 ds) :: (ds, sioD w.params k0 k1 k2 t0 t1 t2 nl (ofL buf) pos) :: own) → Q (.str (Str.ofString "") t) { s with heap := h', toks := tk' }) :
    wpAny (model prog w) (ktrTop dp un gd cn cs L a ccd cl outer) (call (.ref 543) [.ref sio, .int 1 tk]) Q E s := by
  subst hi
  have hlt : buf.length = (ofL buf).length := by rw [ofL_len]
  have hlb : (ofL buf).length < 1000000 := by rw [ofL_len]; exact hb
  refine wpAny_call ?_
  k_dflt k_enter
  k_steps
  · exact hret _ _ _ (by assumption) (by assumption)
section
theorem off2 {own : List (Addr × Obj)} {sio ds lx dl : Addr} {o1 o2 : Obj} (ho : OwnOff own [sio, ds, lx, dl]) (n2 : sio ≠ lx) (n3 : sio ≠ dl) (n4 : ds ≠ lx) (n5 : ds ≠ dl) : OwnOff ((lx, o1) :: (dl, o2) :: own) [sio, ds] := by
  intro p hp b hb
  simp only [List.mem_cons, List.not_mem_nil, or_false] at hp hb
  rcases hp with rfl | rfl | hp
  · rcases hb with rfl | rfl <;> (dsimp only; first | exact Ne.symm n2 | exact Ne.symm n4)
  · rcases hb with rfl | rfl <;> (dsimp only; first | exact Ne.symm n3 | exact Ne.symm n5)
  · exact ho p hp b (by rcases hb with rfl | rfl <;> simp)
local macro_rules | `(tactic| walk_at "call ref") => `(tactic| (k_here; (with_reducible show wpAny _ _ (call (Value.ref 543) [Value.ref _, Value.int 1 _]) _ _ _); k_dflt (refine' read_spec ?zB ?zF ?zX ?zT ?zK ?zN ?zne ?zo ?zb ?zi ?zp ?zd ?zu ?_; (case zK => first | exact rfl | assumption); (case zB | zF => k_asm); (case zX | zT => k_asm); (case zN | zne => k_asm); (case zo => exact off2 (by assumption) (by assumption) (by assumption) (by assumption) (by assumption)); (case zb | zi | zp => k_asm); (case zd => ktr_room); (case zu => ktr_units)); intro t9 t8 h9 tk9 F9 N9))
theorem truthy_one {prog : Program} {w : World} {A : Around} {E : Value → Shared → Prop} {s : Shared} {c : Nat} {t : Tok} {Q : Bool → Shared → Prop} (h : Q true { s with toks := s.toks + 1 + 1 }) : wpAny (model prog w) A (truthy (.str (ofL [c]) t)) Q E s :=
  P.truthy_str (by rw [ofL_len]; simp) (by rw [ofL_len]; exact h)
local macro_rules | `(tactic| walk_at "truthy str") => `(tactic| (k_here; (with_reducible show wpAny _ _ (truthy (Value.str (ofL [_]) _)) _ _ _); refine truthy_one ?_))
theorem truthy_ofL {prog : Program} {w : World} {A : Around} {E : Value → Shared → Prop} {s : Shared} {l : List Nat} {t : Tok} {Q : Bool → Shared → Prop} (hl : l.length < 1000000) (h : Q (!l.isEmpty) { s with toks := s.toks + 1 + 1 }) : wpAny (model prog w) A (truthy (.str (ofL l) t)) Q E s :=
  P.truthy_str (by rw [ofL_len]; omega) (by
    have e : (((ofL l).length : Int) != 0) = !l.isEmpty := by
      rw [ofL_len]
      cases l <;> simp
      omega
    rw [e]; exact h)
theorem ofL_app (a b : List Nat) : ofL a ++ ofL b = ofL (a ++ b) := by
  show Str.mk (a.toArray ++ b.toArray) = Str.mk (a ++ b).toArray
  simp
theorem iadd_ofL {prog : Program} {w : World} {A : Around} {E : Value → Shared → Prop} {s : Shared} {a b : List Nat} {t u : Tok} {Q : Value → Shared → Prop} (hl : a.length < 1000000) (hb : b.length < 1000000) (h : ∀ t' k, Q (.str (ofL (a ++ b)) t') { s with toks := k }) : wpAny (model prog w) A (inplaceOp .Add (.str (ofL a) t) (.str (ofL b) u)) Q E s :=
  SBL.iadd (hsz := by rw [ofL_len, ofL_len, sizeLine_eq]; omega) fun t' k _ => by rw [ofL_app]; exact h t' k
local macro_rules | `(tactic| walk_at "truthy str") => `(tactic| (k_here; (with_reducible show wpAny _ _ (truthy (Value.str (ofL _) _)) _ _ _); (fail_if_success (with_reducible show wpAny _ _ (truthy (Value.str (ofL [_]) _)) _ _ _)); refine truthy_ofL (by assumption) ?_))
local macro_rules | `(tactic| walk_at "inplaceOp Add str str") => `(tactic| (k_here; (with_reducible show wpAny _ _ (inplaceOp _ (Value.str (ofL _) _) (Value.str (ofL [_]) _)) _ _ _); refine iadd_ofL (by assumption) (by simp) ?_; intro t9 k9))
noncomputable def wBody0 (l : List Stmt) : List Stmt := (stB (l.getD 2 (.Pass ⟨0, 0, 0, 0⟩))).1
@[reducible] noncomputable def wB : List Stmt := by
  have h : wBody0 b700 = wBody0 b700 := rfl
  conv at h => rhs; whnf
  exact rhsOf h
abbrev en (P : Params) (x : String) (k : Tok) (v : Value) : DictEntry := ⟨PyData.keyHash P (Str.ofString x), .str (Str.ofString x) k, v⟩
abbrev lexD (P : Params) (k v : Nat → Tok) (sio q1 q2 : Addr) (cms : Str) (state : Value) (token : Str) (line : Int) (tt tl : Tok) : Obj :=
  dictOf [en P "instream" (k 0) (.ref sio), en P "infile" (k 1) .none, en P "posix" (k 2) (.bool true), en P "eof" (k 3) .none, en P "commenters" (k 4) (.str cms (v 4)),
    en P "wordchars" (k 5) (.str (Str.ofString "abcdfeghijklmnopqrstuvwxyzABCDEFGHIJKLMNOPQRSTUVWXYZ0123456789_ßàáâãäåæçèéêëìíîïðñòóôõöøùúûüýþÿÀÁÂÃÄÅÆÇÈÉÊËÌÍÎÏÐÑÒÓÔÕÖØÙÚÛÜÝÞ") (v 5)),
    en P "whitespace" (k 6) (.str (Str.ofString " \t\x0d\n") (v 6)), en P "whitespace_split" (k 7) (.bool true), en P "quotes" (k 8) (.str (Str.ofString "'\"") (v 8)), en P "escape" (k 9) (.str (Str.ofString "\\") (v 9)),
    en P "escapedquotes" (k 10) (.str (Str.ofString "\"") (v 10)), en P "state" (k 11) state, en P "pushback" (k 12) (.ref q1), en P "lineno" (k 13) (.int line tl), en P "debug" (k 14) (.int 0 (v 14)),
    en P "token" (k 15) (.str token tt), en P "filestack" (k 16) (.ref q2), en P "source" (k 17) .none, en P "_punctuation_chars" (k 18) (.str (Str.ofString "") (v 18))] 19
abbrev LB (P : Params) (sio ds lx dl : Addr) (k v k' v' : Nat → Tok) (q1 q2 : Addr) (cms nl : Str) (buf : List Nat) (pos : Int) (tp : Tok) (state : Value) (token : List Nat) (line : Int) (tt tl : Tok) (own : List (Addr × Obj)) : List (Addr × Obj) :=
  (sio, instObj 597 ds) :: (ds, sioD P (k' 0) (k' 1) (k' 2) (v' 0) (v' 1) tp nl (ofL buf) pos) :: (lx, instObj 732 dl) :: (dl, lexD P k v sio q1 q2 cms state (ofL token) line tt tl) :: own
abbrev RM (lx : Addr) (nc : Option Value) (qb : Bool) (es : Str) (te : Tok) : Str → Option Value := fun y =>
  if y = Str.ofString "nextchar" then nc else if y = Str.ofString "quoted" then some (.bool qb) else if y = Str.ofString "escapedstate" then some (.str es te) else if y = Str.ofString "self" then some (.ref lx) else none
theorem RM_nc (lx : Addr) (nc x : Option Value) (qb : Bool) (es : Str) (te : Tok) : (fun y => if y = Str.ofString "nextchar" then x else RM lx nc qb es te y) = RM lx x qb es te := by
  funext y
  unfold RM
  by_cases h : y = Str.ofString "nextchar" <;> simp [h]
theorem RM_q (lx : Addr) (nc : Option Value) (qb b : Bool) (es : Str) (te : Tok) : (fun y => if y = Str.ofString "quoted" then some (.bool b) else RM lx nc qb es te y) = RM lx nc b es te := by
  funext y
  unfold RM
  by_cases h : y = Str.ofString "quoted"
  · subst h
    rw [if_pos rfl, if_neg (by decide +kernel), if_pos rfl]
  · simp [h]
abbrev occ (x : Str) (c : Nat) : Bool := (Builtin.Str.occurrences x (ofL [c]) 0 x.length 1).isEmpty
theorem occ_eq (x : Str) (c : Nat) : occ x c = !decide (c ∈ x.cps.toList) := by
  have := StrLaws.found_one x c
  unfold occ
  rw [← this, Bool.not_not]
abbrev Left9 (w : World) (h₀ : Heap) (L : Addr) (sio ds lx dl q1 q2 : Addr) (k v k' v' : Nat → Tok) (cms nl : Str) (buf : List Nat) (own : List (Addr × Obj)) (es : Str) (te : Tok) (s : Shared) (Q : Flow → Shared → Prop)
    (f : Flow) (nc : List Nat) (qb : Bool) (pos : Nat) (state : Tok → Value) (token : List Nat) : Prop :=
  ∀ (t1 t2 t3 t4 t5 : Tok) (line : Int) (h : Heap) (tk : Nat), Fr h₀ L h (RM lx (some (.str (ofL nc) t5)) qb es te) →
    News h₀ L h (LB w.params sio ds lx dl k v k' v' q1 q2 cms nl buf (pos : Int) t1 (state t2) token line t3 t4 own) → -16777216 - pos ≤ line → line ≤ 16777216 + pos → Q f { s with heap := h, toks := tk }
theorem nTail {h₀ h : Heap} {L : Addr} {p : Addr × Obj} {l : List (Addr × Obj)} (N : News h₀ L h (p :: l)) : News h₀ L h l := fun q hq => N q (.tail _ hq)
theorem frc {h₀ h : Heap} {L : Addr} {m m' : Str → Option Value} (F : Fr h₀ L h m) (e : m = m') : Fr h₀ L h m' := e ▸ F
noncomputable def wBody3 : List Stmt → List Stmt
  | _ :: _ :: _ :: r => r
  | _ => []
@[reducible] noncomputable def wB3 : List Stmt := by
  have h : wBody3 wB = wBody3 wB := rfl
  conv at h => rhs; whnf
  exact rhsOf h
section
local macro_rules | `(tactic| walk_at "execs cons") => `(tactic| (k_here; (with_reducible show wpAny _ _ (execs wB3 _) _ _ _); refine halt ?_))
theorem turn_head {prog : Program} {w : World} {p : Program} {loose : List Str} {mean : ExcName → Option Value} {mg mb : Str → Option Value}
    {dp un : Nat} {gd : Option (List Code)} {outer : List Env} {A₀ : Around} {base h₀ : Heap} {L : Addr} {s : Shared} {Q : Flow → Shared → Prop} {E : Value → Shared → Prop}
    {sio ds lx dl q1 q2 : Addr} {k v k' v' : Nat → Tok} {cms nl : Str} {buf : List Nat} {pos : Int} {tp : Tok} {token : List Nat} {line : Int} {tt tl te : Tok} {state : Value} {nc : Option Value} {qb : Bool} {es : Str} {i c : Nat} {own : List (Addr × Obj)}
    (B : Below A₀ base outer h₀) (F : Fr h₀ L s.heap (RM lx nc qb es te)) (X : (Kf w.params).In h₀) (T : Top p loose mean mg mb h₀)
    (N : News h₀ L s.heap (LB w.params sio ds lx dl k v k' v' q1 q2 cms nl buf pos tp state token line tt tl own))
    (ho : OwnOff own [sio, ds, lx, dl]) (n1 : sio ≠ ds) (n2 : sio ≠ lx) (n3 : sio ≠ dl) (n4 : ds ≠ lx) (n5 : ds ≠ dl) (n6 : lx ≠ dl)
    (hb : buf.length < 1000000) (hi : pos = (i : Int)) (hpos : buf[i]? = some c) (hd : dp + 6 < recursionLimit) (hu : un + 60 < cLine)
    (hl1 : -16777216 - i ≤ line) (hl2 : line ≤ 16777216 + i)
    (hr : ∀ (t1 t4 t5 : Tok) (line' : Int) (h : Heap) (tk : Nat), Fr h₀ L h (RM lx (some (.str (ofL [c]) t5)) qb es te) →
      News h₀ L h (LB w.params sio ds lx dl k v k' v' q1 q2 cms nl buf ((i + 1 : Nat) : Int) t1 state token line' tt t4 own) → -16777216 - (i + 1 : Nat) ≤ line' → line' ≤ 16777216 + (i + 1 : Nat) →
      wpAny (model prog w) (ktrTop dp un gd (Str.ofString "shlex.read_token") c700 L 700 (.ref 699) [] outer) (execs wB3 (envOf (Str.ofString "shlex.read_token") c700 L 700 (.ref 699))) Q E { s with heap := h, toks := tk }) :
    wpAny (model prog w) (ktrTop dp un gd (Str.ofString "shlex.read_token") c700 L 700 (.ref 699) [] outer) (execs wB (envOf (Str.ofString "shlex.read_token") c700 L 700 (.ref 699))) Q E s := by
  k_steps
  all_goals
    refine unhalt ?_
    exact hr _ _ _ _ _ _ (frc (by assumption) (RM_nc _ _ _ _ _ _)) (by first | assumption | exact nTail (by assumption)) (by omega) (by omega)
end
theorem word_turn {prog : Program} {w : World} {p : Program} {loose : List Str} {mean : ExcName → Option Value} {mg mb : Str → Option Value}
    {dp un : Nat} {gd : Option (List Code)} {outer : List Env} {A₀ : Around} {base h₀ : Heap} {L : Addr} {s : Shared} {Q : Flow → Shared → Prop} {E : Value → Shared → Prop}
    {sio ds lx dl q1 q2 : Addr} {k v k' v' : Nat → Tok} {cms nl : Str} {buf : List Nat} {pos : Int} {tp : Tok} {token : List Nat} {line : Int} {tt tl te ts : Tok} {nc : Option Value} {qb : Bool} {es : Str} {i c : Nat} {own : List (Addr × Obj)}
    (B : Below A₀ base outer h₀) (F : Fr h₀ L s.heap (RM lx nc qb es te)) (X : (Kf w.params).In h₀) (T : Top p loose mean mg mb h₀)
    (N : News h₀ L s.heap (LB w.params sio ds lx dl k v k' v' q1 q2 cms nl buf pos tp (.str (Str.ofString "a") ts) token line tt tl own))
    (ho : OwnOff own [sio, ds, lx, dl]) (n1 : sio ≠ ds) (n2 : sio ≠ lx) (n3 : sio ≠ dl) (n4 : ds ≠ lx) (n5 : ds ≠ dl) (n6 : lx ≠ dl)
    (hb : buf.length < 1000000) (hi : pos = (i : Int)) (hpos : buf[i]? = some c) (hd : dp + 6 < recursionLimit) (hu : un + 60 < cLine)
    (htl : token.length < 1000000) (hl1 : -16777216 - i ≤ line) (hl2 : line ≤ 16777216 + i) (hcm : occ cms c = true) (hesc : occ (Str.ofString "\\") c = true) (htq : token = [] → qb = true)
    (r1 : occ (Str.ofString " \t\x0d\n") c = false → Left9 w h₀ L sio ds lx dl q1 q2 k v k' v' cms nl buf own es te s Q .brk [c] qb (i + 1) (fun t => .str (Str.ofString " ") t) token)
    (r2 : occ (Str.ofString " \t\x0d\n") c = true → occ (Str.ofString "'\"") c = false → Left9 w h₀ L sio ds lx dl q1 q2 k v k' v' cms nl buf own es te s Q .next [c] qb (i + 1) (fun t => .str (ofL [c]) t) token)
    (r3 : occ (Str.ofString " \t\x0d\n") c = true → occ (Str.ofString "'\"") c = true → Left9 w h₀ L sio ds lx dl q1 q2 k v k' v' cms nl buf own es te s Q .next [c] qb (i + 1) (fun t => .str (Str.ofString "a") t) (token ++ [c])) :
    wpAny (model prog w) (ktrTop dp un gd (Str.ofString "shlex.read_token") c700 L 700 (.ref 699) [] outer) (execs wB (envOf (Str.ofString "shlex.read_token") c700 L 700 (.ref 699))) Q E s := by
  have hpc : occ (Str.ofString "") c = true := by rw [occ_eq, show (Str.ofString "").cps.toList = [] from by decide +kernel]; rfl
  refine turn_head B F X T N ho n1 n2 n3 n4 n5 n6 hb hi hpos hd hu hl1 hl2 ?_
  clear F N
  intro t1 t4 t5 line' h9 tk9 F9 N9 hl1 hl2
  k_steps
  all_goals first
    | (exfalso; simp_all; done)
    | (show Q Flow.brk _; exact r1 (by assumption) _ _ _ _ _ _ _ _ (by first | assumption | exact frc (by assumption) (RM_nc _ _ _ _ _ _)) (by first | assumption | exact nTail (by assumption)) (by omega) (by omega))
    | (exact r2 (by assumption) (by assumption) _ _ _ _ _ _ _ _ (by first | assumption | exact frc (by assumption) (RM_nc _ _ _ _ _ _)) (by first | assumption | exact nTail (by assumption)) (by omega) (by omega))
    | (exact r3 (by assumption) (by assumption) _ _ _ _ _ _ _ _ (by first | assumption | exact frc (by assumption) (RM_nc _ _ _ _ _ _)) (by first | assumption | exact nTail (by assumption)) (by omega) (by omega))
end
section
local macro_rules | `(tactic| walk_at "call ref") => `(tactic| (k_here; (with_reducible show wpAny _ _ (call (Value.ref 543) [Value.ref _, Value.int 1 _]) _ _ _); k_dflt (refine' read_spec ?zB ?zF ?zX ?zT ?zK ?zN ?zne ?zo ?zb ?zi ?zp ?zd ?zu ?_; (case zK => first | exact rfl | assumption); (case zB | zF => k_asm); (case zX | zT => k_asm); (case zN | zne => k_asm); (case zo => exact off2 (by assumption) (by assumption) (by assumption) (by assumption) (by assumption)); (case zb | zi | zp => k_asm); (case zd => ktr_room); (case zu => ktr_units)); intro t9 t8 h9 tk9 F9 N9))
local macro_rules | `(tactic| walk_at "truthy str") => `(tactic| (k_here; (with_reducible show wpAny _ _ (truthy (Value.str (ofL [_]) _)) _ _ _); refine truthy_one ?_))
local macro_rules | `(tactic| walk_at "truthy str") => `(tactic| (k_here; (with_reducible show wpAny _ _ (truthy (Value.str (ofL _) _)) _ _ _); (fail_if_success (with_reducible show wpAny _ _ (truthy (Value.str (ofL [_]) _)) _ _ _)); refine truthy_ofL (by assumption) ?_))
local macro_rules | `(tactic| walk_at "inplaceOp Add str str") => `(tactic| (k_here; (with_reducible show wpAny _ _ (inplaceOp _ (Value.str (ofL _) _) (Value.str (ofL [_]) _)) _ _ _); refine iadd_ofL (by assumption) (by simp) ?_; intro t9 k9))
theorem empty_eq : Str.ofString "" = ofL [] := by decide +kernel
local macro_rules | `(tactic| walk_at "call ref") => `(tactic| (k_here; (with_reducible show wpAny _ _ (call (Value.ref 543) [Value.ref _, Value.int 1 _]) _ _ _); k_dflt (refine' read_end ?zB ?zF ?zX ?zT ?zK ?zN ?zne ?zo ?zb ?zi ?zd ?zu ?_; (case zK => first | exact rfl | assumption); (case zB | zF => k_asm); (case zX | zT => k_asm); (case zN | zne => k_asm); (case zo => exact off2 (by assumption) (by assumption) (by assumption) (by assumption) (by assumption)); (case zb => k_asm); (case zi => first | k_asm | exact rfl); (case zd => ktr_room); (case zu => ktr_units)); intro t9 h9 tk9 F9 N9; rw [empty_eq]))
theorem RM_q2 (lx : Addr) (nc x : Option Value) (qb b : Bool) (es : Str) (te : Tok) : (fun y => if y = Str.ofString "quoted" then some (.bool b) else if y = Str.ofString "nextchar" then x else RM lx nc qb es te y) = RM lx x b es te :=
  chain_eq (l1 := [(_, _), (_, _), (_, _), (_, _)]) (l2 := [(_, _), (_, _)]) (by kernel_rfl)
theorem ne_nl {c : Nat} (h10 : c ≠ 10) : (ofL [c] == Str.ofString "\n") = false := by
  rw [beq_eq_false_iff_ne]
  intro e
  rw [show Str.ofString "\n" = ofL [10] from by decide +kernel] at e
  simp only [Str.mk.injEq, List.toArray_inj] at e
  exact h10 (by simpa using e)
theorem occ_nil (c : Nat) : occ (Str.ofString "") c = true := by rw [occ_eq, show (Str.ofString "").cps.toList = [] from by decide +kernel]; rfl
theorem wc_not_q {c : Nat} (h : occ (Str.ofString "abcdfeghijklmnopqrstuvwxyzABCDEFGHIJKLMNOPQRSTUVWXYZ0123456789_ßàáâãäåæçèéêëìíîïðñòóôõöøùúûüýþÿÀÁÂÃÄÅÆÇÈÉÊËÌÍÎÏÐÑÒÓÔÕÖØÙÚÛÜÝÞ") c = false) : occ (Str.ofString "'\"") c = true := by
  rw [occ_eq] at h ⊢
  have h1 : c ∈ (Str.ofString "abcdfeghijklmnopqrstuvwxyzABCDEFGHIJKLMNOPQRSTUVWXYZ0123456789_ßàáâãäåæçèéêëìíîïðñòóôõöøùúûüýþÿÀÁÂÃÄÅÆÇÈÉÊËÌÍÎÏÐÑÒÓÔÕÖØÙÚÛÜÝÞ").cps.toList := by simpa using h
  have h2 : ∀ x ∈ (Str.ofString "abcdfeghijklmnopqrstuvwxyzABCDEFGHIJKLMNOPQRSTUVWXYZ0123456789_ßàáâãäåæçèéêëìíîïðñòóôõöøùúûüýþÿÀÁÂÃÄÅÆÇÈÉÊËÌÍÎÏÐÑÒÓÔÕÖØÙÚÛÜÝÞ").cps.toList, ¬ x ∈ (Str.ofString "'\"").cps.toList := by decide +kernel
  simpa using h2 c h1
theorem gap_turn {prog : Program} {w : World} {p : Program} {loose : List Str} {mean : ExcName → Option Value} {mg mb : Str → Option Value}
    {dp un : Nat} {gd : Option (List Code)} {outer : List Env} {A₀ : Around} {base h₀ : Heap} {L : Addr} {s : Shared} {Q : Flow → Shared → Prop} {E : Value → Shared → Prop}
    {sio ds lx dl q1 q2 : Addr} {k v k' v' : Nat → Tok} {cms nl : Str} {buf : List Nat} {pos : Int} {tp : Tok} {line : Int} {tt tl te ts : Tok} {nc : Option Value} {es : Str} {i c : Nat} {own : List (Addr × Obj)}
    (B : Below A₀ base outer h₀) (F : Fr h₀ L s.heap (RM lx nc false es te)) (X : (Kf w.params).In h₀) (T : Top p loose mean mg mb h₀)
    (N : News h₀ L s.heap (LB w.params sio ds lx dl k v k' v' q1 q2 cms nl buf pos tp (.str (Str.ofString " ") ts) [] line tt tl own))
    (ho : OwnOff own [sio, ds, lx, dl]) (n1 : sio ≠ ds) (n2 : sio ≠ lx) (n3 : sio ≠ dl) (n4 : ds ≠ lx) (n5 : ds ≠ dl) (n6 : lx ≠ dl)
    (hb : buf.length < 1000000) (hi : pos = (i : Int)) (hpos : buf[i]? = some c) (hd : dp + 6 < recursionLimit) (hu : un + 60 < cLine)
    (hl1 : -16777216 - i ≤ line) (hl2 : line ≤ 16777216 + i) (hcm : occ cms c = true) (hesc : occ (Str.ofString "\\") c = true)
    (r1 : occ (Str.ofString " \t\x0d\n") c = false → Left9 w h₀ L sio ds lx dl q1 q2 k v k' v' cms nl buf own es te s Q .cont [c] false (i + 1) (fun t => .str (Str.ofString " ") t) [])
    (r2 : occ (Str.ofString " \t\x0d\n") c = true → occ (Str.ofString "'\"") c = false → Left9 w h₀ L sio ds lx dl q1 q2 k v k' v' cms nl buf own es te s Q .next [c] false (i + 1) (fun t => .str (ofL [c]) t) [])
    (r3 : occ (Str.ofString " \t\x0d\n") c = true → occ (Str.ofString "'\"") c = true → Left9 w h₀ L sio ds lx dl q1 q2 k v k' v' cms nl buf own es te s Q .next [c] false (i + 1) (fun t => .str (Str.ofString "a") t) [c]) :
    wpAny (model prog w) (ktrTop dp un gd (Str.ofString "shlex.read_token") c700 L 700 (.ref 699) [] outer) (execs wB (envOf (Str.ofString "shlex.read_token") c700 L 700 (.ref 699))) Q E s := by
  have hpc := occ_nil c
  have htl : ([] : List Nat).length < 1000000 := by decide
  refine turn_head B F X T N ho n1 n2 n3 n4 n5 n6 hb hi hpos hd hu hl1 hl2 ?_
  clear F N
  intro t1 t4 t5 line' h9 tk9 F9 N9 hl1 hl2
  k_steps
  all_goals first
    | (exfalso; simp_all; done)
    | (show Q Flow.cont _; exact r1 (by assumption) _ _ _ _ _ _ _ _ (by first | assumption | exact frc (by assumption) (RM_nc _ _ _ _ _ _)) (by first | assumption | exact nTail (by assumption)) (by omega) (by omega))
    | (exact r2 (by assumption) (by assumption) _ _ _ _ _ _ _ _ (by first | assumption | exact frc (by assumption) (RM_nc _ _ _ _ _ _)) (by first | assumption | exact nTail (by assumption)) (by omega) (by omega))
    | (exact r3 (by assumption) (by assumption) _ _ _ _ _ _ _ _ (by first | assumption | exact frc (by assumption) (RM_nc _ _ _ _ _ _)) (by first | assumption | exact nTail (by assumption)) (by omega) (by omega))
    | (exact r3 (by assumption) (wc_not_q (by assumption)) _ _ _ _ _ _ _ _ (by first | assumption | exact frc (by assumption) (RM_nc _ _ _ _ _ _)) (by first | assumption | exact nTail (by assumption)) (by omega) (by omega))
theorem quote_turn {prog : Program} {w : World} {p : Program} {loose : List Str} {mean : ExcName → Option Value} {mg mb : Str → Option Value}
    {dp un : Nat} {gd : Option (List Code)} {outer : List Env} {A₀ : Around} {base h₀ : Heap} {L : Addr} {s : Shared} {Q : Flow → Shared → Prop} {E : Value → Shared → Prop}
    {sio ds lx dl q1 q2 : Addr} {k v k' v' : Nat → Tok} {cms nl : Str} {buf : List Nat} {pos : Int} {tp : Tok} {token : List Nat} {line : Int} {tt tl te ts : Tok} {nc : Option Value} {qb : Bool} {es : Str} {i c qc : Nat} {own : List (Addr × Obj)}
    (B : Below A₀ base outer h₀) (F : Fr h₀ L s.heap (RM lx nc qb es te)) (X : (Kf w.params).In h₀) (T : Top p loose mean mg mb h₀)
    (N : News h₀ L s.heap (LB w.params sio ds lx dl k v k' v' q1 q2 cms nl buf pos tp (.str (ofL [qc]) ts) token line tt tl own))
    (ho : OwnOff own [sio, ds, lx, dl]) (n1 : sio ≠ ds) (n2 : sio ≠ lx) (n3 : sio ≠ dl) (n4 : ds ≠ lx) (n5 : ds ≠ dl) (n6 : lx ≠ dl)
    (hb : buf.length < 1000000) (hi : pos = (i : Int)) (hpos : buf[i]? = some c) (hd : dp + 6 < recursionLimit) (hu : un + 60 < cLine)
    (htl : token.length < 1000000) (hl1 : -16777216 - i ≤ line) (hl2 : line ≤ 16777216 + i) (hqc : qc = 39 ∨ qc = 34) (hE : occ (Str.ofString "\\") c = true ∨ occ (Str.ofString "\"") qc = true)
    (r1 : c = qc → Left9 w h₀ L sio ds lx dl q1 q2 k v k' v' cms nl buf own es te s Q .next [c] true (i + 1) (fun t => .str (Str.ofString "a") t) token)
    (r2 : c ≠ qc → Left9 w h₀ L sio ds lx dl q1 q2 k v k' v' cms nl buf own es te s Q .next [c] true (i + 1) (fun t => .str (ofL [qc]) t) (token ++ [c])) :
    wpAny (model prog w) (ktrTop dp un gd (Str.ofString "shlex.read_token") c700 L 700 (.ref 699) [] outer) (execs wB (envOf (Str.ofString "shlex.read_token") c700 L 700 (.ref 699))) Q E s := by
  have q1' : (ofL [qc] == Str.ofString " ") = false := by rcases hqc with rfl | rfl <;> decide +kernel
  have q2' : occ (Str.ofString "'\"") qc = false := by rcases hqc with rfl | rfl <;> decide +kernel
  have heq : (ofL [c] == ofL [qc]) = true ↔ c = qc := by rw [beq_iff_eq]; simp [ofL]
  have hne : (ofL [c] == ofL [qc]) = false ↔ c ≠ qc := by rw [beq_eq_false_iff_ne]; simp [ofL]
  refine turn_head B F X T N ho n1 n2 n3 n4 n5 n6 hb hi hpos hd hu hl1 hl2 ?_
  clear F N
  intro t1 t4 t5 line' h9 tk9 F9 N9 hl1 hl2
  k_steps
  all_goals first
    | (exact r1 (heq.mp (by assumption)) _ _ _ _ _ _ _ _ (by first | assumption | exact frc (by assumption) (RM_q2 _ _ _ _ _ _ _) | exact frc (by assumption) (RM_q _ _ _ _ _ _)) (by first | assumption | exact nTail (by assumption)) (by omega) (by omega))
    | (exact r2 (hne.mp (by assumption)) _ _ _ _ _ _ _ _ (by first | assumption | exact frc (by assumption) (RM_q2 _ _ _ _ _ _ _) | exact frc (by assumption) (RM_q _ _ _ _ _ _)) (by first | assumption | exact nTail (by assumption)) (by omega) (by omega))
    | (exfalso; simp_all; done)
section
theorem gap_end {prog : Program} {w : World} {p : Program} {loose : List Str} {mean : ExcName → Option Value} {mg mb : Str → Option Value}
    {dp un : Nat} {gd : Option (List Code)} {outer : List Env} {A₀ : Around} {base h₀ : Heap} {L : Addr} {s : Shared} {Q : Flow → Shared → Prop} {E : Value → Shared → Prop}
    {sio ds lx dl q1 q2 : Addr} {k v k' v' : Nat → Tok} {cms nl : Str} {buf : List Nat} {pos : Int} {tp : Tok} {token : List Nat} {line : Int} {tt tl te ts : Tok} {nc : Option Value} {qb : Bool} {es : Str}  {own : List (Addr × Obj)}
    (B : Below A₀ base outer h₀) (F : Fr h₀ L s.heap (RM lx nc qb es te)) (X : (Kf w.params).In h₀) (T : Top p loose mean mg mb h₀)
    (N : News h₀ L s.heap (LB w.params sio ds lx dl k v k' v' q1 q2 cms nl buf pos tp (.str (Str.ofString " ") ts) token line tt tl own))
    (ho : OwnOff own [sio, ds, lx, dl]) (n1 : sio ≠ ds) (n2 : sio ≠ lx) (n3 : sio ≠ dl) (n4 : ds ≠ lx) (n5 : ds ≠ dl) (n6 : lx ≠ dl)
    (hb : buf.length < 1000000) (hi : pos = (buf.length : Int)) (hd : dp + 6 < recursionLimit) (hu : un + 60 < cLine)
    (htl : token.length < 1000000) (hl1 : -16777216 - buf.length ≤ line) (hl2 : line ≤ 16777216 + buf.length)
    (r1 : Left9 w h₀ L sio ds lx dl q1 q2 k v k' v' cms nl buf own es te s Q .brk [] qb buf.length (fun _ => .none) token) :
    wpAny (model prog w) (ktrTop dp un gd (Str.ofString "shlex.read_token") c700 L 700 (.ref 699) [] outer) (execs wB (envOf (Str.ofString "shlex.read_token") c700 L 700 (.ref 699))) Q E s := by
  subst hi
  k_steps
  all_goals first
    | (show Q Flow.brk _; exact r1 _ 0 _ _ _ _ _ _ (frc (by assumption) (RM_nc _ _ _ _ _ _)) (by first | assumption | exact nTail (by assumption)) (by omega) (by omega))
    | (show Q Flow.brk _; exact r1 _ 0 _ _ _ _ _ _ (frc (by assumption) (RM_nc _ _ _ _ _ _)) (by have N9 := ‹News h₀ L _ _›; rw [empty_eq] at N9; first | exact N9 | exact nTail N9) (by omega) (by omega))
theorem word_end {prog : Program} {w : World} {p : Program} {loose : List Str} {mean : ExcName → Option Value} {mg mb : Str → Option Value}
    {dp un : Nat} {gd : Option (List Code)} {outer : List Env} {A₀ : Around} {base h₀ : Heap} {L : Addr} {s : Shared} {Q : Flow → Shared → Prop} {E : Value → Shared → Prop}
    {sio ds lx dl q1 q2 : Addr} {k v k' v' : Nat → Tok} {cms nl : Str} {buf : List Nat} {pos : Int} {tp : Tok} {token : List Nat} {line : Int} {tt tl te ts : Tok} {nc : Option Value} {qb : Bool} {es : Str}  {own : List (Addr × Obj)}
    (B : Below A₀ base outer h₀) (F : Fr h₀ L s.heap (RM lx nc qb es te)) (X : (Kf w.params).In h₀) (T : Top p loose mean mg mb h₀)
    (N : News h₀ L s.heap (LB w.params sio ds lx dl k v k' v' q1 q2 cms nl buf pos tp (.str (Str.ofString "a") ts) token line tt tl own))
    (ho : OwnOff own [sio, ds, lx, dl]) (n1 : sio ≠ ds) (n2 : sio ≠ lx) (n3 : sio ≠ dl) (n4 : ds ≠ lx) (n5 : ds ≠ dl) (n6 : lx ≠ dl)
    (hb : buf.length < 1000000) (hi : pos = (buf.length : Int)) (hd : dp + 6 < recursionLimit) (hu : un + 60 < cLine)
    (htl : token.length < 1000000) (hl1 : -16777216 - buf.length ≤ line) (hl2 : line ≤ 16777216 + buf.length)
    (r1 : Left9 w h₀ L sio ds lx dl q1 q2 k v k' v' cms nl buf own es te s Q .brk [] qb buf.length (fun _ => .none) token) :
    wpAny (model prog w) (ktrTop dp un gd (Str.ofString "shlex.read_token") c700 L 700 (.ref 699) [] outer) (execs wB (envOf (Str.ofString "shlex.read_token") c700 L 700 (.ref 699))) Q E s := by
  subst hi
  k_steps
  all_goals first
    | (show Q Flow.brk _; exact r1 _ 0 _ _ _ _ _ _ (frc (by assumption) (RM_nc _ _ _ _ _ _)) (by first | assumption | exact nTail (by assumption)) (by omega) (by omega))
    | (show Q Flow.brk _; exact r1 _ 0 _ _ _ _ _ _ (frc (by assumption) (RM_nc _ _ _ _ _ _)) (by have N9 := ‹News h₀ L _ _›; rw [empty_eq] at N9; first | exact N9 | exact nTail N9) (by omega) (by omega))
theorem none_end {prog : Program} {w : World} {p : Program} {loose : List Str} {mean : ExcName → Option Value} {mg mb : Str → Option Value}
    {dp un : Nat} {gd : Option (List Code)} {outer : List Env} {A₀ : Around} {base h₀ : Heap} {L : Addr} {s : Shared} {Q : Flow → Shared → Prop} {E : Value → Shared → Prop}
    {sio ds lx dl q1 q2 : Addr} {k v k' v' : Nat → Tok} {cms nl : Str} {buf : List Nat} {pos : Int} {tp : Tok} {token : List Nat} {line : Int} {tt tl te ts : Tok} {nc : Option Value} {qb : Bool} {es : Str}  {own : List (Addr × Obj)}
    (B : Below A₀ base outer h₀) (F : Fr h₀ L s.heap (RM lx nc qb es te)) (X : (Kf w.params).In h₀) (T : Top p loose mean mg mb h₀)
    (N : News h₀ L s.heap (LB w.params sio ds lx dl k v k' v' q1 q2 cms nl buf pos tp .none token line tt tl own))
    (ho : OwnOff own [sio, ds, lx, dl]) (n1 : sio ≠ ds) (n2 : sio ≠ lx) (n3 : sio ≠ dl) (n4 : ds ≠ lx) (n5 : ds ≠ dl) (n6 : lx ≠ dl)
    (hb : buf.length < 1000000) (hi : pos = (buf.length : Int)) (hd : dp + 6 < recursionLimit) (hu : un + 60 < cLine)
    (htl : token.length < 1000000) (hl1 : -16777216 - buf.length ≤ line) (hl2 : line ≤ 16777216 + buf.length)
    (r1 : Left9 w h₀ L sio ds lx dl q1 q2 k v k' v' cms nl buf own es te s Q .brk [] qb buf.length (fun _ => .none) []) :
    wpAny (model prog w) (ktrTop dp un gd (Str.ofString "shlex.read_token") c700 L 700 (.ref 699) [] outer) (execs wB (envOf (Str.ofString "shlex.read_token") c700 L 700 (.ref 699))) Q E s := by
  subst hi
  k_steps
  all_goals first
    | (show Q Flow.brk _; exact r1 _ 0 _ _ _ _ _ _ (frc (by assumption) (RM_nc _ _ _ _ _ _)) (by first | assumption | exact nTail (by assumption)) (by omega) (by omega))
    | (show Q Flow.brk _; exact r1 _ 0 _ _ _ _ _ _ (frc (by assumption) (RM_nc _ _ _ _ _ _)) (by have N9 := ‹News h₀ L _ _›; rw [empty_eq] at N9; first | exact N9 | exact nTail N9) (by omega) (by omega))
end
end
end
section
local macro_rules | `(tactic| walk_at "truthy str") => `(tactic| (k_here; (with_reducible show wpAny _ _ (truthy (Value.str (ofL [_]) _)) _ _ _); refine truthy_one ?_))
local macro_rules | `(tactic| walk_at "truthy str") => `(tactic| (k_here; (with_reducible show wpAny _ _ (truthy (Value.str (ofL _) _)) _ _ _); (fail_if_success (with_reducible show wpAny _ _ (truthy (Value.str (ofL [_]) _)) _ _ _)); refine truthy_ofL (by assumption) ?_))
local macro_rules | `(tactic| walk_at "inplaceOp Add str str") => `(tactic| (k_here; (with_reducible show wpAny _ _ (inplaceOp _ (Value.str (ofL _) _) (Value.str (ofL [_]) _)) _ _ _); refine iadd_ofL (by assumption) (by simp) ?_; intro t9 k9))
noncomputable def fullL (cm : Bool) (s : LS) (l : List Nat) : Option (List (List Nat)) := (runL cm s l).bind fun x => (endL x.2).map (x.1 ++ ·)
theorem full_nil (cm : Bool) (s : LS) : fullL cm s [] = endL s := by
  simp only [fullL, runL, Option.bind_some]
  cases endL s <;> simp
theorem full_cons (cm : Bool) (s : LS) (c : Nat) (r : List Nat) : fullL cm s (c :: r) = match stepL cm c s with
    | none => none
    | some (s', none) => fullL cm s' r
    | some (s', some t) => (fullL cm s' r).map (t :: ·) := by
  simp only [fullL, runL]
  cases stepL cm c s with
  | none => rfl
  | some x =>
    obtain ⟨s', o⟩ := x
    cases o with
    | none => rfl
    | some t =>
      dsimp only
      cases runL cm s' r with
      | none => rfl
      | some y =>
        simp only [Option.map_some, Option.bind_some]
        cases endL y.2 <;> simp
abbrev Lx (cm : Bool) (buf : List Nat) (st : Value) (j : Nat) (out : List (List Nat)) : Prop :=
  (∃ t, st = .str (Str.ofString " ") t ∧ j ≤ buf.length ∧ fullL cm .gap (buf.drop j) = some out) ∨ (st = .none ∧ j = buf.length ∧ out = [])
abbrev TokR (cm : Bool) (buf : List Nat) (out : List (List Nat)) (r st : Value) (j : Nat) : Prop :=
  (out = [] ∧ r = .none ∧ Lx cm buf st j []) ∨ (∃ t out' tk, out = t :: out' ∧ r = .str (ofL t) tk ∧ Lx cm buf st j out')
theorem while_inv {prog : Program} {w : World} {A : Around} {E : Value → Shared → Prop} {env : Env} {test : PySem.Expr} {body : List Stmt} {pos : Pos} {Q : Flow → Shared → Prop} (hE : PassesOwn (model prog w) A env E)
    (I : Nat → Shared → Prop)
    (turn : ∀ n s, I n s → wpAny (model prog w) A (isTrue test env (eval test env)) (fun b s₂ => WhlIf b (wpAny (model prog w) A (execs body env) (fun f s₃ => match f with
        | .next | .cont => ∃ m, m < n ∧ I m s₃
        | .brk => Q .next s₃
        | .ret v => Q (.ret v) s₃) E s₂) (wpAny (model prog w) A (execs [] env) Q E s₂)) E s)
    (n : Nat) {s : Shared} (h : I n s) : wpAny (model prog w) A (exec (.While test body [] pos) env) Q E s := by
  refine whl_start 0 ?_
  induction n using Nat.strongRecOn generalizing s with
  | ind n ih =>
    refine whl_turn (k := 0) hE (wpAny_mono (turn n s h) (fun b s₂ h₂ => ?_) fun _ _ x => x)
    unfold WhlIf at h₂ ⊢
    split
    · rename_i hb
      rw [if_pos hb] at h₂
      refine wpAny_mono h₂ (fun f s₃ h₃ => ?_) fun _ _ x => x
      cases f with
      | next => obtain ⟨m, hm, hi⟩ := h₃; exact ih m hm hi
      | cont => obtain ⟨m, hm, hi⟩ := h₃; exact ih m hm hi
      | brk => exact h₃
      | ret v => exact h₃
    · rename_i hb
      rw [if_neg hb] at h₂
      exact h₂
theorem RM_start (lx : Addr) (te : Tok) {f : Str → Option Value} (h0 : f (Str.ofString "self") = some (.ref lx)) (h1 : ∀ y, y ≠ Str.ofString "self" → f y = none) :
    (fun y => if y = Str.ofString "escapedstate" then some (.str (Str.ofString " ") te) else if y = Str.ofString "quoted" then some (.bool false) else f y) = RM lx none false (Str.ofString " ") te :=
  have g : ∀ x ∈ ["nextchar"], f (Str.ofString x) = none := fun x hx => h1 _ ((by decide +kernel : ∀ x ∈ ["nextchar"], Str.ofString x ≠ Str.ofString "self") x hx)
  chain_from (l1 := [(_, _), (_, _)]) (l2 := [(_, _), (_, _), (_, _), (_, _)]) [(_, _), (_, _)] ⟨h0, g _ (.head _), trivial⟩ (fun y h => h1 y (h (_, _) (.tail _ (.tail _ (.head _))))) (by kernel_rfl)
abbrev Inv (cm : Bool) (buf : List Nat) (out : List (List Nat)) (st : Value) (token : List Nat) (qb : Bool) (i : Nat) : Prop := i ≤ buf.length ∧ token.length ≤ i ∧ (
  (∃ t, st = .str (Str.ofString " ") t ∧ token = [] ∧ qb = false ∧ fullL cm .gap (buf.drop i) = some out)
  ∨ (∃ t, st = .str (Str.ofString "a") t ∧ (token = [] → qb = true) ∧ fullL cm (.word token) (buf.drop i) = some out)
  ∨ (∃ t q, st = .str (ofL [q]) t ∧ (q = 39 ∨ q = 34) ∧ fullL cm (.quote q token) (buf.drop i) = some out)
  ∨ (st = .none ∧ i = buf.length ∧ token = [] ∧ qb = false ∧ out = []))
abbrev Fin9 (cm : Bool) (buf : List Nat) (out : List (List Nat)) (st : Value) (token : List Nat) (qb : Bool) (j : Nat) : Prop :=
  (out = [] ∧ token = [] ∧ qb = false ∧ Lx cm buf st j []) ∨ (∃ out', out = token :: out' ∧ (token = [] → qb = true) ∧ Lx cm buf st j out')
abbrev InvS (w : World) (h₀ : Heap) (L : Addr) (sio ds lx dl q1 q2 : Addr) (k v k' v' : Nat → Tok) (cms nl : Str) (buf : List Nat) (own : List (Addr × Obj)) (es : Str) (te : Tok) (cm : Bool) (out : List (List Nat)) (s : Shared) (n : Nat) (s₁ : Shared) : Prop :=
  ∃ (h : Heap) (tk : Nat) (nc : Option Value) (qb : Bool) (tp : Tok) (st : Value) (token : List Nat) (line : Int) (tt tl : Tok) (i : Nat), s₁ = { s with heap := h, toks := tk } ∧ n + i = buf.length ∧
    Fr h₀ L h (RM lx nc qb es te) ∧ News h₀ L h (LB w.params sio ds lx dl k v k' v' q1 q2 cms nl buf (i : Int) tp st token line tt tl own) ∧ -16777216 - (i : Int) ≤ line ∧ line ≤ 16777216 + (i : Int) ∧ Inv cm buf out st token qb i
theorem drop_at {buf : List Nat} {i c : Nat} (h : buf[i]? = some c) : buf.drop i = c :: buf.drop (i + 1) := by
  obtain ⟨hl, e⟩ := List.getElem?_eq_some_iff.mp h
  rw [List.drop_eq_getElem_cons hl, e]
theorem cms_ok {cm : Bool} {cms : Str} (hcms : cms = if cm then Str.ofString "#" else Str.ofString "") {c : Nat} (h : ¬ (cm = true ∧ c = 35)) : occ cms c = true := by
  subst hcms
  rw [occ_eq]
  cases cm with
  | false => rw [show (if false = true then Str.ofString "#" else Str.ofString "").cps.toList = [] from by decide +kernel]; rfl
  | true =>
    rw [show (if true = true then Str.ofString "#" else Str.ofString "").cps.toList = [35] from by decide +kernel]
    simpa using h
theorem esc_ok {c : Nat} (h : c ≠ 92) : occ (Str.ofString "\\") c = true := by
  rw [occ_eq, show (Str.ofString "\\").cps.toList = [92] from by decide +kernel]
  simpa using h
theorem nb_f {b : Bool} (h : (!b) = false) : b = true := by
  cases b
  · cases h
  · rfl
theorem nb_t {b : Bool} (h : (!b) = true) : b = false := by
  cases b
  · rfl
  · cases h
theorem occ_in {x : Str} {c : Nat} (h : occ x c = false) : c ∈ x.cps.toList := of_decide_eq_true (nb_f (occ_eq x c ▸ h))
theorem occ_out {x : Str} {c : Nat} (h : occ x c = true) : c ∉ x.cps.toList := of_decide_eq_false (nb_t (occ_eq x c ▸ h))
theorem wsC_in {c : Nat} (h : wsC c = true) : c ∈ [32, 9, 13, 10] := by
  rcases Bool.or_eq_true _ _ ▸ h with h | h
  · rcases Bool.or_eq_true _ _ ▸ h with h | h
    · rcases Bool.or_eq_true _ _ ▸ h with h | h
      · rw [eq_of_beq h]; decide
      · rw [eq_of_beq h]; decide
    · rw [eq_of_beq h]; decide
  · rw [eq_of_beq h]; decide
theorem ws_list : (Str.ofString " \t\x0d\n").cps.toList = [32, 9, 13, 10] := by decide +kernel
theorem qu_list : (Str.ofString "'\"").cps.toList = [39, 34] := by decide +kernel
theorem ws_yes {c : Nat} (h : occ (Str.ofString " \t\x0d\n") c = false) : wsC c = true := (by decide : ∀ x ∈ [32, 9, 13, 10], wsC x = true) c (ws_list ▸ occ_in h)
theorem ws_no {c : Nat} (h : occ (Str.ofString " \t\x0d\n") c = true) : wsC c = false := Bool.eq_false_iff.mpr fun e => occ_out h (ws_list ▸ wsC_in e)
theorem qu_yes {c : Nat} (h : occ (Str.ofString "'\"") c = false) : c = 39 ∨ c = 34 := (by decide : ∀ x ∈ [39, 34], x = 39 ∨ x = 34) c (qu_list ▸ occ_in h)
theorem qu_no {c : Nat} (h : occ (Str.ofString "'\"") c = true) : ¬ (c = 39 ∨ c = 34) := fun e => occ_out h (qu_list ▸ by rcases e with rfl | rfl <;> decide)
theorem eq_ok {q : Nat} (h : q ≠ 34) : occ (Str.ofString "\"") q = true := by
  rw [occ_eq, show (Str.ofString "\"").cps.toList = [34] from by decide +kernel]
  simpa using h
theorem sign_ok {cm : Bool} {cms : Str} (hcms : cms = if cm then Str.ofString "#" else Str.ofString "") {c : Nat} {s : LS} (hs : s = .gap ∨ ∃ t, s = .word t) (h : stepL cm c s ≠ none) : occ cms c = true ∧ occ (Str.ofString "\\") c = true := by
  have h2 : ¬ (c = 92 ∨ (cm = true ∧ c = 35)) := by
    intro hc
    have hw : wsC c = false := by rcases hc with rfl | ⟨_, rfl⟩ <;> decide
    rcases hs with rfl | ⟨t, rfl⟩ <;> simp [stepL, hw, hc] at h
  exact ⟨cms_ok hcms fun x => h2 (.inr x), esc_ok fun x => h2 (.inl x)⟩
theorem loop_spec {prog : Program} {w : World} {p : Program} {loose : List Str} {mean : ExcName → Option Value} {mg mb : Str → Option Value}
    {dp un : Nat} {gd : Option (List Code)} {outer : List Env} {A₀ : Around} {base h₀ : Heap} {L : Addr} {s : Shared} {Q : Flow → Shared → Prop} {E : Value → Shared → Prop}
    {sio ds lx dl q1 q2 : Addr} {k v k' v' : Nat → Tok} {cms nl : Str} {buf : List Nat} {pos : Int} {tp : Tok} {line : Int} {tt tl te : Tok} {st : Value} {es : Str} {i : Nat} {own : List (Addr × Obj)} {cm : Bool} {out : List (List Nat)} {q0 q9 : Pos} {z0 : Nat}
    (B : Below A₀ base outer h₀) (F : Fr h₀ L s.heap (RM lx none false es te)) (X : (Kf w.params).In h₀) (T : Top p loose mean mg mb h₀)
    (N : News h₀ L s.heap (LB w.params sio ds lx dl k v k' v' q1 q2 cms nl buf pos tp st [] line tt tl own))
    (ho : OwnOff own [sio, ds, lx, dl]) (n1 : sio ≠ ds) (n2 : sio ≠ lx) (n3 : sio ≠ dl) (n4 : ds ≠ lx) (n5 : ds ≠ dl) (n6 : lx ≠ dl)
    (hb : buf.length < 1000000) (hi : pos = (i : Int)) (hd : dp + 6 < recursionLimit) (hu : un + 60 < cLine)
    (hl1 : -16777216 - i ≤ line) (hl2 : line ≤ 16777216 + i) (hcms : cms = if cm then Str.ofString "#" else Str.ofString "") (hx : Lx cm buf st i out)
    (hE : PassesOwn (model prog w) (ktrTop dp un gd (Str.ofString "shlex.read_token") c700 L 700 (.ref 699) [] outer) (envOf (Str.ofString "shlex.read_token") c700 L 700 (.ref 699)) E)
    (hret : ∀ (nc : Option Value) (qb : Bool) (st' : Value) (token : List Nat) (j : Nat) (line' : Int) (t1 t3 t4 : Tok) (h' : Heap) (tk' : Nat), Fr h₀ L h' (RM lx nc qb es te) → News h₀ L h' (LB w.params sio ds lx dl k v k' v' q1 q2 cms nl buf (j : Int) t1 st' token line' t3 t4 own) →
      -16777216 - j ≤ line' → line' ≤ 16777216 + j → token.length < 1000000 → Fin9 cm buf out st' token qb j → Q .next { s with heap := h', toks := tk' }) :
    wpAny (model prog w) (ktrTop dp un gd (Str.ofString "shlex.read_token") c700 L 700 (.ref 699) [] outer) (exec (.While (.Constant (.bool true) z0 q0) wB [] q9) (envOf (Str.ofString "shlex.read_token") c700 L 700 (.ref 699))) Q E s := by
  subst hi
  refine while_inv hE (InvS w h₀ L sio ds lx dl q1 q2 k v k' v' cms nl buf own es te cm out s) (fun n s₁ hI => ?_) (buf.length - i) ⟨s.heap, s.toks, none, false, tp, st, [], line, tt, tl, i, rfl, ?_, F, N, hl1, hl2, ?_⟩
  · obtain ⟨h, tk, nc, qb, tp, st, token, line, tt, tl, i, rfl, hn, F, N, hl1, hl2, hi, htl, hI⟩ := hI
    have htl' : token.length < 1000000 := by omega
    walk1
    walk1
    walk1
    walk1
    rcases Nat.lt_or_eq_of_le hi with hlt | rfl
    · obtain ⟨c, hc⟩ : ∃ c, buf[i]? = some c := ⟨_, List.getElem?_eq_getElem hlt⟩
      have hdrop := drop_at hc
      rcases hI with ⟨t, rfl, rfl, rfl, hf⟩ | ⟨t, rfl, htq, hf⟩ | ⟨t, q, rfl, hq, hf⟩ | ⟨rfl, h0, _⟩
      · rw [hdrop, full_cons] at hf
        have hne : stepL cm c .gap ≠ none := by
          intro e
          rw [e] at hf
          cases hf
        obtain ⟨hcm, hesc⟩ := sign_ok hcms (.inl rfl) hne
        refine gap_turn B F X T N ho n1 n2 n3 n4 n5 n6 hb rfl hc hd hu hl1 hl2 hcm hesc (fun a => ?_) (fun a b => ?_) (fun a b => ?_)
        · intro t1 t2 t3 t4 t5 line' h' tk' F' N' b1 b2
          have hs : stepL cm c .gap = some (.gap, none) := by simp [stepL, ws_yes a]
          rw [hs] at hf
          exact ⟨buf.length - (i + 1), by omega, h', tk', _, _, _, _, _, _, _, _, i + 1, rfl, by omega, F', N', b1, b2, hlt, Nat.zero_le _, .inl ⟨_, rfl, rfl, rfl, hf⟩⟩
        · intro t1 t2 t3 t4 t5 line' h' tk' F' N' b1 b2
          have hq := qu_yes b
          have hs : stepL cm c .gap = some (.quote c [], none) := by
            have : ¬ (c = 92 ∨ (cm = true ∧ c = 35)) := by omega
            simp [stepL, ws_no a, this, hq]
          rw [hs] at hf
          exact ⟨buf.length - (i + 1), by omega, h', tk', _, _, _, _, _, _, _, _, i + 1, rfl, by omega, F', N', b1, b2, hlt, Nat.zero_le _, .inr (.inr (.inl ⟨_, c, rfl, hq, hf⟩))⟩
        · intro t1 t2 t3 t4 t5 line' h' tk' F' N' b1 b2
          have hs : stepL cm c .gap = some (.word [c], none) := by
            have hq := qu_no b
            have : ¬ (c = 92 ∨ (cm = true ∧ c = 35)) := fun x => hne (by simp [stepL, ws_no a, x])
            simp only [stepL, ws_no a, this, hq, if_false, Bool.false_eq_true]
          rw [hs] at hf
          exact ⟨buf.length - (i + 1), by omega, h', tk', _, _, _, _, _, _, _, _, i + 1, rfl, by omega, F', N', b1, b2, hlt, by simp, .inr (.inl ⟨_, rfl, (fun x => nomatch x), hf⟩)⟩
      · rw [hdrop, full_cons] at hf
        have hne : stepL cm c (.word token) ≠ none := by
          intro e
          rw [e] at hf
          cases hf
        obtain ⟨hcm, hesc⟩ := sign_ok hcms (.inr ⟨_, rfl⟩) hne
        refine word_turn B F X T N ho n1 n2 n3 n4 n5 n6 hb rfl hc hd hu htl' hl1 hl2 hcm hesc htq (fun a => ?_) (fun a b => ?_) (fun a b => ?_)
        · intro t1 t2 t3 t4 t5 line' h' tk' F' N' b1 b2
          have hs : stepL cm c (.word token) = some (.gap, some token) := by simp [stepL, ws_yes a]
          rw [hs] at hf
          dsimp only at hf
          obtain ⟨out', ho', rfl⟩ := Option.map_eq_some_iff.mp hf
          exact hret _ _ _ _ (i + 1) _ _ _ _ _ _ F' N' b1 b2 htl' (.inr ⟨out', rfl, htq, .inl ⟨_, rfl, hlt, ho'⟩⟩)
        · intro t1 t2 t3 t4 t5 line' h' tk' F' N' b1 b2
          have hq := qu_yes b
          have hs : stepL cm c (.word token) = some (.quote c token, none) := by
            have : ¬ (c = 92 ∨ (cm = true ∧ c = 35)) := by omega
            simp [stepL, ws_no a, this, hq]
          rw [hs] at hf
          exact ⟨buf.length - (i + 1), by omega, h', tk', _, _, _, _, _, _, _, _, i + 1, rfl, by omega, F', N', b1, b2, hlt, by omega, .inr (.inr (.inl ⟨_, c, rfl, hq, hf⟩))⟩
        · intro t1 t2 t3 t4 t5 line' h' tk' F' N' b1 b2
          have hs : stepL cm c (.word token) = some (.word (token ++ [c]), none) := by
            have hq := qu_no b
            have : ¬ (c = 92 ∨ (cm = true ∧ c = 35)) := fun x => hne (by simp [stepL, ws_no a, x])
            simp only [stepL, ws_no a, this, hq, if_false, Bool.false_eq_true]
          rw [hs] at hf
          exact ⟨buf.length - (i + 1), by omega, h', tk', _, _, _, _, _, _, _, _, i + 1, rfl, by omega, F', N', b1, b2, hlt, by simp; omega, .inr (.inl ⟨_, rfl, (fun x => by simp at x), hf⟩)⟩
      · rw [hdrop, full_cons] at hf
        have hne : stepL cm c (.quote q token) ≠ none := by
          intro e
          rw [e] at hf
          cases hf
        have hE' : occ (Str.ofString "\\") c = true ∨ occ (Str.ofString "\"") q = true ∨ c = q := by
          by_cases h1 : c = 92
          · by_cases h2 : q = 34
            · by_cases h3 : c = q
              · exact .inr (.inr h3)
              · exact absurd (by simp [stepL, h1, h2]) hne
            · exact .inr (.inl (eq_ok h2))
          · exact .inl (esc_ok h1)
        have hE : occ (Str.ofString "\\") c = true ∨ occ (Str.ofString "\"") q = true := by
          rcases hE' with z | z | z
          · exact .inl z
          · exact .inr z
          · exact .inl (esc_ok (by omega))
        refine quote_turn B F X T N ho n1 n2 n3 n4 n5 n6 hb rfl hc hd hu htl' hl1 hl2 hq hE (fun a => ?_) (fun a => ?_)
        · intro t1 t2 t3 t4 t5 line' h' tk' F' N' b1 b2
          have hs : stepL cm c (.quote q token) = some (.word token, none) := by simp [stepL, a]
          rw [hs] at hf
          exact ⟨buf.length - (i + 1), by omega, h', tk', _, _, _, _, _, _, _, _, i + 1, rfl, by omega, F', N', b1, b2, hlt, by omega, .inr (.inl ⟨_, rfl, (fun _ => rfl), hf⟩)⟩
        · intro t1 t2 t3 t4 t5 line' h' tk' F' N' b1 b2
          have hs : stepL cm c (.quote q token) = some (.quote q (token ++ [c]), none) := by
            have : ¬ (c = 92 ∧ q = 34) := fun x => hne (by simp [stepL, x])
            simp only [stepL, a, this, if_false]
          rw [hs] at hf
          exact ⟨buf.length - (i + 1), by omega, h', tk', _, _, _, _, _, _, _, _, i + 1, rfl, by omega, F', N', b1, b2, hlt, by simp; omega, .inr (.inr (.inl ⟨_, q, rfl, hq, hf⟩))⟩
      · omega
    · rcases hI with ⟨t, rfl, rfl, rfl, hf⟩ | ⟨t, rfl, htq, hf⟩ | ⟨t, q, rfl, hq, hf⟩ | ⟨rfl, h0, rfl, rfl, rfl⟩
      · rw [List.drop_length, full_nil] at hf
        refine gap_end B F X T N ho n1 n2 n3 n4 n5 n6 hb rfl hd hu htl' hl1 hl2 ?_
        intro t1 t2 t3 t4 t5 line' h' tk' F' N' b1 b2
        exact hret _ _ _ _ buf.length _ _ _ _ _ _ F' N' b1 b2 htl' (.inl ⟨(Option.some.inj hf).symm, rfl, rfl, .inr ⟨rfl, rfl, rfl⟩⟩)
      · rw [List.drop_length, full_nil] at hf
        refine word_end B F X T N ho n1 n2 n3 n4 n5 n6 hb rfl hd hu htl' hl1 hl2 ?_
        intro t1 t2 t3 t4 t5 line' h' tk' F' N' b1 b2
        exact hret _ _ _ _ buf.length _ _ _ _ _ _ F' N' b1 b2 htl' (.inr ⟨[], (Option.some.inj hf).symm, htq, .inr ⟨rfl, rfl, rfl⟩⟩)
      · rw [List.drop_length, full_nil] at hf
        cases hf
      · refine none_end (ts := 0) B F X T N ho n1 n2 n3 n4 n5 n6 hb rfl hd hu htl' hl1 hl2 ?_
        intro t1 t2 t3 t4 t5 line' h' tk' F' N' b1 b2
        exact hret _ _ _ _ buf.length _ _ _ _ _ _ F' N' b1 b2 htl' (.inl ⟨rfl, rfl, rfl, .inr ⟨rfl, rfl, rfl⟩⟩)
  · rcases hx with ⟨t, _, h, _⟩ | ⟨_, h, _⟩ <;> omega
  · rcases hx with ⟨t, h1, h2, h3⟩ | ⟨h1, h2, h3⟩
    · exact ⟨h2, Nat.zero_le _, .inl ⟨t, h1, rfl, rfl, h3⟩⟩
    · exact ⟨Nat.le_of_eq h2, Nat.zero_le _, .inr (.inr (.inr ⟨h1, h2, rfl, rfl, h3⟩))⟩
section
local macro_rules | `(tactic| walk_at "exec While") => `(tactic| (k_here; refine halt ?_))
local macro_rules | `(tactic| walk_at "last exec While") => `(tactic| (k_here; refine halt ?_))
theorem look1 {y x : Str} {v : Value} (h : y ≠ x) : List.lookup y [(x, v)] = none := by
  rw [List.lookup_cons, beq_eq_false_iff_ne.mpr h]
  rfl
theorem ne_empty {t : List Nat} (h : t ≠ []) : (ofL t == Str.ofString "") = false := by
  rw [beq_eq_false_iff_ne]
  intro e
  rw [show Str.ofString "" = ofL [] from by decide +kernel] at e
  simp only [Str.mk.injEq, List.toArray_inj] at e
  exact h (by simpa using e)
theorem token_spec {prog : Program} {w : World} {p : Program} {loose : List Str} {mean : ExcName → Option Value} {mg mb : Str → Option Value}
    {dp un : Nat} {gd : Option (List Code)} {cn : Str} {cs : Scope} {a : Addr} {ccd : Value} {cl : List (Str × Addr)} {outer : List Env} {A₀ : Around} {base h₀ : Heap} {L : Addr} {m : Str → Option Value} {s : Shared} {Q E : Value → Shared → Prop}
    (B : Below A₀ base outer h₀) (F : Fr h₀ L s.heap m) (X : (Kf w.params).In h₀) (T : Top p loose mean mg mb h₀) (hk : cs.kind = .function)
    {sio ds lx dl q1 q2 : Addr} {k v k' v' : Nat → Tok} {cms nl : Str} {buf : List Nat} {pos : Int} {tp : Tok} {line : Int} {tt tl : Tok} {st : Value} {i : Nat} {own : List (Addr × Obj)} {cm : Bool} {out : List (List Nat)}
    (N : News h₀ L s.heap (LB w.params sio ds lx dl k v k' v' q1 q2 cms nl buf pos tp st [] line tt tl own))
    (ho : OwnOff own [sio, ds, lx, dl]) (n1 : sio ≠ ds) (n2 : sio ≠ lx) (n3 : sio ≠ dl) (n4 : ds ≠ lx) (n5 : ds ≠ dl) (n6 : lx ≠ dl)
    (hb : buf.length < 1000000) (hi : pos = (i : Int)) (hd : dp + 8 < recursionLimit) (hu : un + 100 < cLine)
    (hl1 : -16777216 - i ≤ line) (hl2 : line ≤ 16777216 + i) (hcms : cms = if cm then Str.ofString "#" else Str.ofString "") (hx : Lx cm buf st i out)
    (hret : ∀ (r st' : Value) (j : Nat) (line' : Int) (t1 t3 t4 : Tok) (h' : Heap) (tk' : Nat), Fr h₀ L h' m → News h₀ L h' (LB w.params sio ds lx dl k v k' v' q1 q2 cms nl buf (j : Int) t1 st' [] line' t3 t4 own) →
      -16777216 - j ≤ line' → line' ≤ 16777216 + j → TokR cm buf out r st' j → Q r { s with heap := h', toks := tk' }) :
    wpAny (model prog w) (ktrTop dp un gd cn cs L a ccd cl outer) (call (.ref 700) [.ref lx]) Q E s := by
  refine wpAny_call ?_
  k_dflt k_enter
  k_steps
  refine unhalt ?_
  have F8 := frc ‹Fr _ _ _ (fun y => if y = Str.ofString "escapedstate" then _ else _)› (RM_start lx _ rfl (fun y hy => look1 hy))
  refine loop_spec ‹Below (ktrTop _ _ _ _ _ _ _ _ _ _) _ _ _› F8 (by assumption) (by assumption) (by assumption) (by assumption) n1 n2 n3 n4 n5 n6 hb hi (by ktr_room) (by ktr_units) hl1 hl2 hcms hx (by first | passes_own | with_unfolding_all passes_own) ?_
  intro nc qb st' token j line' t1 t3 t4 h' tk' F9 N9 b1 b2 htl hfin
  clear F8
  have F := F9
  have N := N9
  clear F9 N9
  dsimp only
  rcases hfin with ⟨rfl, rfl, rfl, hl⟩ | ⟨out', rfl, htq, hl⟩
  · k_steps
    all_goals (have N9 := ‹News h₀ L _ _›; rw [empty_eq] at N9; exact hret _ _ _ _ _ _ _ _ _ (by assumption) N9 b1 b2 (.inl ⟨rfl, rfl, hl⟩))
  · by_cases ht : token = []
    · subst ht
      have hq := htq rfl
      subst hq
      k_steps
      all_goals (have N9 := ‹News h₀ L _ _›; rw [empty_eq] at N9; exact hret _ _ _ _ _ _ _ _ _ (by assumption) N9 b1 b2 (.inr ⟨_, _, _, rfl, rfl, hl⟩))
    · have hte := ne_empty ht
      cases qb
      all_goals
        k_steps
        all_goals (have N9 := ‹News h₀ L _ _›; rw [empty_eq] at N9; exact hret _ _ _ _ _ _ _ _ _ (by assumption) N9 b1 b2 (.inr ⟨_, _, _, rfl, rfl, hl⟩))
end
section
local macro_rules | `(tactic| k_enter) => `(tactic| (kp_kind "both"; (refine' kp_both ?k1 ?k2 ?k3 ?k4 ?k5 ?kA ?kF ?kK ?k6 ?k7 ?k8 ?kV ?kX ?kQ ?kM ?kN ?kD ?kR ?kP ?kS ?kT ?kB ?_ ?c2 ?c3 ?c4 ?c5; (case kA | kF => exact rfl); (case kK => first | exact rfl | assumption); (case k1 | k2 => k_asm); (case k3 | k4 | k5 => k_asm); (case k6 | k7 => k_is); (case k8 => k_room); (case kV | kX => kp_lit); (case kQ | kM | kN => exact rfl); (case kD => kp_flats); (case kR | kP => exact rfl); (case kS => exact fun _ => rfl); (case kT => exact fun _ _ => rfl); (case kB => exact fun _ _ => locs rfl); (case c5 => decide); (case c2 | c3 | c4 => exact rfl); k_whole; intro C' D' o' g' L' h' tk' l1 l2 lo' hs' fs' FG' F' N' B' X' T'; (try k_lt l1); (try k_lt2 l2); (try dsimp only); (try k_lift B'); (try k_fold))))
theorem new597_K {P : Params} {prog : Program} {w : World} {A : Around} {s : Shared} {h₀ : Heap} {L : Addr} {m : Str → Option Value} {news : List (Addr × Obj)} {Q E : Value → Shared → Prop} (F : Fr h₀ L s.heap m) (N : News h₀ L s.heap news) (X : (Kf P).In h₀)
    (h : ∀ x dx h', Fr h₀ L h' m → News h₀ L h' ((x, instObj 597 dx) :: (dx, emptyDict) :: news) → (∀ p ∈ news, p.1 < dx) → dx < x → Q (.ref x) { s with heap := h' }) :
    wpAny (model prog w) A (call (.builtin "object.__new__") [.ref 597]) Q E s := by
  obtain ⟨hh, g, d, t, os⟩ := s
  refine wpAny_call (new597 (X.keeps F.keep) ?_)
  refine h _ hh.objs.size _ ((F.push _).push _) ?_ (fun p hp => Heap.lt_size (N p hp).1) (Nat.lt_succ_self _)
  have := (N.push F emptyDict).push (F.push _) (instObj 597 hh.objs.size)
  rwa [Heap.size_push] at this
local macro_rules | `(tactic| walk_at "call builtin:object.__new__") => `(tactic| (k_here; k_dflt (refine' new597_K ?k1 ?k2 ?k3 ?_; (case k1 | k2 | k3 => k_asm); k_whole); intro x' dx' h' F' N' l1 l2; have l1c := l1; (try k_lt l1); (try k_sweep)))
theorem off_lt {own : List (Addr × Obj)} {x dx : Addr} (h : ∀ p ∈ own, p.1 < dx) (l : dx < x) : OwnOff own [x, dx] := by
  intro p hp b hb
  have := h p hp
  simp only [List.mem_cons, List.not_mem_nil, or_false] at hb
  rcases hb with rfl | rfl
  · exact Nat.ne_of_lt (Nat.lt_trans this l)
  · exact Nat.ne_of_lt this
local macro_rules | `(tactic| walk_at "zz") => `(tactic| skip)
theorem sio_spec {prog : Program} {w : World} {p : Program} {loose : List Str} {mean : ExcName → Option Value} {mg mb : Str → Option Value}
    {dp un : Nat} {gd : Option (List Code)} {cn : Str} {cs : Scope} {a : Addr} {ccd : Value} {cl : List (Str × Addr)} {outer : List Env} {A₀ : Around} {base h₀ : Heap} {L : Addr} {m : Str → Option Value} {s : Shared} {Q E : Value → Shared → Prop}
    (B : Below A₀ base outer h₀) (F : Fr h₀ L s.heap m) (X : (Kf w.params).In h₀) (T : Top p loose mean mg mb h₀) (hk : cs.kind = .function)
    {buf : List Nat} {tb : Tok} {own : List (Addr × Obj)} 
    (N : News h₀ L s.heap own)
    (hb : buf.length < 1000000) (hd : dp + 8 < recursionLimit) (hu : un + 100 < cLine)
    (hret : ∀ (sio ds : Addr) (nl : Str) (k0 k1 k2 t0 t1 t2 : Tok) (h' : Heap) (tk' : Nat), Fr h₀ L h' m → News h₀ L h' ((sio, instObj 597 ds) :: (ds, sioD w.params k0 k1 k2 t0 t1 t2 nl (ofL buf) ((0 : Nat) : Int)) :: own) →
      (∀ p ∈ own, p.1 < ds) → ds < sio → Q (.ref sio) { s with heap := h', toks := tk' }) :
    wpAny (model prog w) (ktrTop dp un gd cn cs L a ccd cl outer) (call (.ref 597) [.str (ofL buf) tb]) Q E s := by
  refine wpAny_call ?_
  have Xs := X.keeps F.keep
  refine call597 Xs ?_
  k_steps
  case _ =>
    rename_i x' dx' h9 _ _ l2 l1c _ F9 N9 _ _
    have ho : OwnOff own [x', dx'] := off_lt (fun p hp => l1c p (.tail _ (.tail _ hp))) l2
    have hne : x' ≠ dx' := Nat.ne_of_gt l2
    have N8 : News h₀ L h9 ((x', instObj 597 dx') :: (dx', emptyDict) :: own) := fun q hq => N9 q (by
      simp only [List.mem_cons] at hq ⊢
      rcases hq with h | h | h <;> simp [h])
    refine unhalt ⟨_, _, _, rfl, (N8 _ (.head _)).1, (N8 _ (.tail _ (.head _))).1, X.keeps F9.keep, ?_⟩
    have F := F9
    have lo9 : ∀ p ∈ own, p.1 < dx' := fun p hp => l1c p (.tail _ (.tail _ hp))
    clear N9 F9 l1c
    k_dflt k_enter
    k_steps
    all_goals exact hret _ _ _ _ _ _ _ _ _ _ _ (by assumption) (by assumption) lo9 l2
end
end
section
local macro_rules | `(tactic| walk_at "truthy ref") => `(tactic| (k_here; k_dflt (refine' dq_truthyN ?zN ?zx ?_; (case zN => k_asm); (case zx => repeat (first | exact List.mem_cons_self | apply List.mem_cons_of_mem)))))
local macro_rules | `(tactic| walk_at "call ref") => `(tactic| (k_here; (with_reducible show wpAny _ _ (call (Value.ref 700) _) _ _ _); refine halt ?_))
theorem get_spec {prog : Program} {w : World} {p : Program} {loose : List Str} {mean : ExcName → Option Value} {mg mb : Str → Option Value}
    {dp un : Nat} {gd : Option (List Code)} {cn : Str} {cs : Scope} {a : Addr} {ccd : Value} {cl : List (Str × Addr)} {outer : List Env} {A₀ : Around} {base h₀ : Heap} {L : Addr} {m : Str → Option Value} {s : Shared} {Q E : Value → Shared → Prop}
    (B : Below A₀ base outer h₀) (F : Fr h₀ L s.heap m) (X : (Kf w.params).In h₀) (T : Top p loose mean mg mb h₀) (hk : cs.kind = .function)
    {sio ds lx dl q1 q2 : Addr} {k v k' v' : Nat → Tok} {cms nl : Str} {buf : List Nat} {pos : Int} {tp : Tok} {line : Int} {tt tl : Tok} {st : Value} {i : Nat} {own : List (Addr × Obj)} {cm : Bool} {out : List (List Nat)}
    (N : News h₀ L s.heap (LB w.params sio ds lx dl k v k' v' q1 q2 cms nl buf pos tp st [] line tt tl ((q1, dqObj) :: (q2, dqObj) :: own)))
    (ho : OwnOff ((q1, dqObj) :: (q2, dqObj) :: own) [sio, ds, lx, dl]) (n1 : sio ≠ ds) (n2 : sio ≠ lx) (n3 : sio ≠ dl) (n4 : ds ≠ lx) (n5 : ds ≠ dl) (n6 : lx ≠ dl)
    (hb : buf.length < 1000000) (hi : pos = (i : Int)) (hd : dp + 9 < recursionLimit) (hu : un + 110 < cLine)
    (hl1 : -16777216 - i ≤ line) (hl2 : line ≤ 16777216 + i) (hcms : cms = if cm then Str.ofString "#" else Str.ofString "") (hx : Lx cm buf st i out)
    (hret : ∀ (r st' : Value) (j : Nat) (line' : Int) (t1 t3 t4 : Tok) (h' : Heap) (tk' : Nat), Fr h₀ L h' m → News h₀ L h' (LB w.params sio ds lx dl k v k' v' q1 q2 cms nl buf (j : Int) t1 st' [] line' t3 t4 ((q1, dqObj) :: (q2, dqObj) :: own)) →
      -16777216 - j ≤ line' → line' ≤ 16777216 + j → TokR cm buf out r st' j → Q r { s with heap := h', toks := tk' }) :
    wpAny (model prog w) (ktrTop dp un gd cn cs L a ccd cl outer) (call (.ref 693) [.ref lx]) Q E s := by
  refine wpAny_call ?_
  k_dflt k_enter
  k_steps
  refine unhalt ?_
  k_dflt (refine' token_spec ?zB ?zF ?zX ?zT ?zK ?zN ho n1 n2 n3 n4 n5 n6 hb hi ?zd ?zu hl1 hl2 hcms hx ?_; (case zK => first | exact rfl | assumption); (case zB => k_asm); (case zF => k_asm); (case zX => k_asm); (case zT => k_asm); (case zN => k_asm); (case zd => ktr_room); (case zu => ktr_units))
  intro r st' j line' t1 t3 t4 h9 tk9 F9 N9 b1 b2 htok
  have F8 := F9
  have N8 := N9
  clear F9 N9
  rcases htok with ⟨rfl, rfl, hl⟩ | ⟨t, out', tk8, rfl, rfl, hl⟩
  · k_steps
    all_goals exact hret _ _ _ _ _ _ _ _ _ (by assumption) (by assumption) b1 b2 (.inl ⟨rfl, rfl, hl⟩)
  · k_steps
    all_goals exact hret _ _ _ _ _ _ _ _ _ (by assumption) (by assumption) b1 b2 (.inr ⟨_, _, _, rfl, rfl, hl⟩)
local macro_rules | `(tactic| walk_at "call ref") => `(tactic| (k_here; (with_reducible show wpAny _ _ (call (Value.ref 693) _) _ _ _); refine halt ?_))
theorem stop_at {M : Model} {A : Around} {E : Value → Shared → Prop} {s : Shared} {Q : Option Value → Shared → Prop} {base h : Heap} {l : List Env} {e t : Addr} {vs : List Value} {news : List (Addr × Obj)} {X : String}
    (R : RaisedK base l e (.type X) t vs news s.heap) (hsub : isSubtype (.type X) (.type "StopIteration") = pure true)
    (k : base.StaysIn s.heap → (∀ q ∈ news, s.heap.get? q.1 = some q.2) → Q none s) : OwitStop M A Q E (.ref e) s := by
  obtain ⟨⟨B, hB, hl, hfl, _⟩, _⟩ := R
  have hf' := flyingW_base hB hfl
  obtain ⟨ob, hob, hobc⟩ := hf'.there
  have hT : s.TypeIs (.ref e) X := (show ∃ o, s.heap.get? e = some o ∧ o.cls = .type X from ⟨ob, hob, hobc⟩)
  unfold OwitStop
  refine wpAny_isInstance hT hsub ?_
  show (if true = true then Q none s else E (.ref e) s)
  rw [if_pos rfl]
  exact k hf'.1 fun q hq => hfl.1 _ _ (hl q hq).1
theorem next_spec {prog : Program} {w : World} {p : Program} {loose : List Str} {mean : ExcName → Option Value} {mg mb : Str → Option Value}
    {dp un : Nat} {gd : Option (List Code)} {cn : Str} {cs : Scope} {a : Addr} {ccd : Value} {cl : List (Str × Addr)} {outer : List Env} {A₀ : Around} {base h₀ : Heap} {L : Addr} {m : Str → Option Value} {s : Shared} {Q : Option Value → Shared → Prop} {E : Value → Shared → Prop}
    (B : Below A₀ base outer h₀) (F : Fr h₀ L s.heap m) (X : (Kf w.params).In h₀) (T : Top p loose mean mg mb h₀) (hk : cs.kind = .function)
    {sio ds lx dl q1 q2 : Addr} {k v k' v' : Nat → Tok} {cms nl : Str} {buf : List Nat} {pos : Int} {tp : Tok} {line : Int} {tt tl : Tok} {st : Value} {i : Nat} {own : List (Addr × Obj)} {cm : Bool} {out : List (List Nat)}
    (N : News h₀ L s.heap (LB w.params sio ds lx dl k v k' v' q1 q2 cms nl buf pos tp st [] line tt tl ((q1, dqObj) :: (q2, dqObj) :: own)))
    (ho : OwnOff ((q1, dqObj) :: (q2, dqObj) :: own) [sio, ds, lx, dl]) (n1 : sio ≠ ds) (n2 : sio ≠ lx) (n3 : sio ≠ dl) (n4 : ds ≠ lx) (n5 : ds ≠ dl) (n6 : lx ≠ dl)
    (hb : buf.length < 1000000) (hi : pos = (i : Int)) (hd : dp + 10 < recursionLimit) (hu : un + 120 < cLine)
    (hl1 : -16777216 - i ≤ line) (hl2 : line ≤ 16777216 + i) (hcms : cms = if cm then Str.ofString "#" else Str.ofString "") (hx : Lx cm buf st i out)
    (hret : ∀ (t : List Nat) (out' : List (List Nat)) (tk : Tok) (st' : Value) (j : Nat) (line' : Int) (t1 t3 t4 : Tok) (h' : Heap) (tk' : Nat), Fr h₀ L h' m → News h₀ L h' (LB w.params sio ds lx dl k v k' v' q1 q2 cms nl buf (j : Int) t1 st' [] line' t3 t4 ((q1, dqObj) :: (q2, dqObj) :: own)) →
      -16777216 - j ≤ line' → line' ≤ 16777216 + j → out = t :: out' → Lx cm buf st' j out' → Q (some (.str (ofL t) tk)) { s with heap := h', toks := tk' })
    (hend : ∀ (st' : Value) (j : Nat) (line' : Int) (t1 t3 t4 : Tok) (h' : Heap) (tk' : Nat), out = [] → base.StaysIn h' → h₀.UpToSlots h' →
      (∀ q ∈ LB w.params sio ds lx dl k v k' v' q1 q2 cms nl buf (j : Int) t1 st' [] line' t3 t4 ((q1, dqObj) :: (q2, dqObj) :: own), h'.get? q.1 = some q.2) → Q none { s with heap := h', toks := tk' }) :
    wpAny (model prog w) (ktrTop dp un gd cn cs L a ccd cl outer) (pyNext (.ref lx)) Q E s := by
  k_dflt (refine' owit_next ?F ?X ?I ?hs ?hf ?_; (case F => k_asm); (case X => k_asm); (case I => k_inst); (case hs => k_is); (case hf => k_is); k_whole)
  refine wpAny_call ?_
  k_dflt k_enter
  k_steps
  refine unhalt ?_
  k_dflt (refine' get_spec ?zB ?zF ?zX ?zT ?zK ?zN ho n1 n2 n3 n4 n5 n6 hb hi ?zd ?zu hl1 hl2 hcms hx ?_; (case zK => first | exact rfl | assumption); (case zB => k_asm); (case zF => k_asm); (case zX => k_asm); (case zT => k_asm); (case zN => k_asm); (case zd => ktr_room); (case zu => ktr_units))
  intro r st' j line' t1 t3 t4 h9 tk9 F9 N9 b1 b2 htok
  have F8 := F9
  have N8 := N9
  clear F9 N9
  rcases htok with ⟨rfl, rfl, hl⟩ | ⟨t, out', tk8, rfl, rfl, hl⟩
  · k_steps
    all_goals
      rename RaisedK _ _ _ _ _ _ _ _ => rkX
      k_dflt (refine' stop_at (h := h₀) rkX ?s ?_; (case s => first | rfl | kernel_rfl | decide))
      intro hb9 hn9
      exact hend _ _ _ _ _ _ _ _ rfl hb9 ((Heap.UpToSlots.of_keeps (Fr.keep (by assumption : Fr h₀ L _ m))).trans (by assumption)) hn9
  · k_steps
    all_goals exact hret _ _ _ _ _ _ _ _ _ _ _ (by assumption) (by assumption) b1 b2 rfl hl
end
section
abbrev lstO (acc : Array Value) (c : Nat) : Obj := { cls := .type "list", dict := none, data := .seq acc c, slots := #[] }
section
variable {prog : Program} {w : World} {A : Around} {E : Value → Shared → Prop} {env : Env} {s : Shared}
def LoopC (prog : Program) (w : World) (A : Around) (env : Env) (tg : PySem.Expr) (body : List Stmt) (Q : Flow → Shared → Prop) (E : Value → Shared → Prop) (it : Value) (s₂ : Shared) : Prop :=
  codeAny (model prog w) A (.forLoop tg it body [] env) (fun r s' => match r with | .ok f => Q f s' | .error e => cameBackBy (model prog w) A env E e s') s₂
theorem for_start {tg iter : PySem.Expr} {body : List Stmt} {pos : Pos} {Q : Flow → Shared → Prop}
    (h : wpAny (model prog w) A (eval iter env) (fun xv s₁ => wpAny (model prog w) A (pyIter xv) (LoopC prog w A env tg body Q E) E s₁) E s)
    (hs : ∀ x, foldedSetIterable iter env x = pure x := by intro _; rfl) : wpAny (model prog w) A (exec (.For tg iter body [] pos) env) Q E s := wpAny_For h hs
def ForPost (h₀ : Heap) (L : Addr) {σ : Type} (F : σ → List (Addr × Obj)) (M : σ → Str → Option Value) (J : σ → Prop) (own : List (Addr × Obj)) (s₀ : Shared) (Q : Flow → Shared → Prop) (f : Flow) (s₃ : Shared) : Prop := match f with
  | .next | .cont => ∃ a h tk, s₃ = { s₀ with heap := h, toks := tk } ∧ Fr h₀ L h (M a) ∧ News h₀ L h (F a ++ own) ∧ J a
  | .brk => Q .next s₃
  | .ret v => Q (.ret v) s₃
theorem walk_forT {σ : Type} {tg : PySem.Expr} (F : σ → List (Addr × Obj)) (M : σ → Str → Option Value) (J : Nat → σ → Prop) {h₀ : Heap} {I : Addr} {fp wr : List Addr} {n : Nat} {P : Nat → Value → Prop} {St : Nat → Heap → Prop} {body : List Stmt} {Q : Flow → Shared → Prop} {own : List (Addr × Obj)} {a₀ : σ} {o₀ : Obj}
    (hE : PassesOwn (model prog w) A env E)
    (W : Walks prog w A I fp wr n P St) (hwr : ∀ b ∈ wr, b = I) {ty : String} (hob : ∀ i h, St i h → ∃ o, h.get? I = some o ∧ o.cls = .type ty)
    (hgo : ∀ i v (s : Shared) (Q : Unit → Shared → Prop) (E : Value → Shared → Prop), P i v → St (i + 1) s.heap → Q () s → wpAny (model prog w) A (letOwnedTupleGo tg (.ref I) v) Q E s)
    (hfp : ∀ b ∈ fp, b = I ∨ (∃ o, (b, o) ∈ own) ∨ ∃ o, h₀.get? b = some o) (hIL : I ≠ env.locals) (hI0 : h₀.get? I = none)
    (hF : ∀ i a, J i a → ∀ p ∈ F a, p.2.cls ≠ .type ty) (hown : ∀ p ∈ own, p.1 ≠ I)
    (hs : St 0 s.heap) (F0 : Fr h₀ env.locals s.heap (M a₀)) (N0 : News h₀ env.locals s.heap (F a₀ ++ (I, o₀) :: own)) (j0 : J 0 a₀)
    (turn : ∀ i x a h tk o, i < n → P i x → J i a → Fr h₀ env.locals h (M a) → News h₀ env.locals h (F a ++ (I, o) :: own) →
      wpAny (model prog w) A (assign tg env x) (fun _ s₂ => wpAny (model prog w) A (execs body env) (ForPost h₀ env.locals F M (J (i + 1)) ((I, o) :: own) { s with heap := h, toks := tk } Q) E s₂) E { s with heap := h, toks := tk })
    (done : ∀ a h tk, J n a → Fr h₀ env.locals h (M a) → News h₀ env.locals h (F a ++ own) → Q .next { s with heap := h, toks := tk }) :
    LoopC prog w A env tg body Q E (.ref I) s := by
  unfold LoopC
  refine codeAny_forLoop_any (fun k s' => ∃ i a h tk o, k + i = n + 1 ∧ s' = { s with heap := h, toks := tk } ∧ i ≤ n ∧ St i h ∧ J i a ∧ Fr h₀ env.locals h (M a) ∧ News h₀ env.locals h (F a ++ (I, o) :: own)) ?_ (n + 1) ⟨0, a₀, s.heap, s.toks, o₀, rfl, rfl, Nat.zero_le _, hs, j0, F0, N0⟩
  rintro k s' ⟨i, a, h, tk, o, hk, rfl, hi, hst, hj, F1, N1⟩
  have nI : ∀ p ∈ F a ++ own, p.1 ≠ I := fun p hp e => by
    rcases List.mem_append.mp hp with hp | hp
    · have e1 := (N1 p (List.mem_append.mpr (.inl hp))).1
      obtain ⟨ob, hb1, hb2⟩ := hob _ _ hst
      rw [e, hb1] at e1
      cases e1
      exact hF i a hj p hp hb2
    · exact hown p hp e
  have other : ∀ {h' : Heap}, (∀ b o, b ∉ wr → h.get? b = some o → h'.get? b = some o) → ∀ b o, b ≠ I → h.get? b = some o → h'.get? b = some o := fun hk b o hb e => hk b o (fun hm => hb (hwr b hm)) e
  have fr' : ∀ {h' : Heap}, (∀ b o, b ∉ wr → h.get? b = some o → h'.get? b = some o) → Fr h₀ env.locals h' (M a) := fun {h'} hk => by
    obtain ⟨oL, e1, e2, hL, r⟩ := F1.ns
    exact ⟨⟨oL, e1, e2, other hk _ _ hIL.symm hL, r⟩, fun b o e => other hk b o (fun hb => by rw [hb, hI0] at e; cases e) (F1.keep b o e), F1.above⟩
  refine wpAny_passesOwn hE ?_
  rcases Nat.lt_or_eq_of_le hi with hlt | rfl
  · refine W.item i _ _ _ hlt hst fun x h' tk' hp hst' hk' => ?_
    obtain ⟨o', ho', _⟩ := hob _ _ hst'
    have F2 := fr' hk'
    have N2 : News h₀ env.locals h' (F a ++ (I, o') :: own) := fun q hq => by
      rcases List.mem_append.mp hq with hq | hq
      · exact ⟨other hk' _ _ (nI q (List.mem_append.mpr (.inl hq))) (N1 q (List.mem_append.mpr (.inl hq))).1, (N1 q (List.mem_append.mpr (.inl hq))).2⟩
      · rcases List.mem_cons.mp hq with rfl | hq
        · exact ⟨ho', hIL, hI0⟩
        · have hq' := List.mem_append.mpr (.inr (List.mem_cons_of_mem (I, o) hq) : q ∈ F a ∨ q ∈ (I, o) :: own)
          exact ⟨other hk' _ _ (nI q (List.mem_append.mpr (.inr hq))) (N1 q hq').1, (N1 q hq').2⟩
    refine wpAny_passesOwn hE (hgo i x _ _ _ hp hst' ?_)
    refine wpAny_passesOwn hE (wpAny_mono (turn i x a h' tk' o' hlt hp hj F2 N2) (fun _ s₂ h₂ => ?_) fun _ _ z => z)
    refine wpAny_passesOwn hE (wpAny_mono h₂ (fun f s₃ h₃ => ?_) fun _ _ z => z)
    have fin : (∃ a h tk, s₃ = { s with heap := h, toks := tk } ∧ Fr h₀ env.locals h (M a) ∧ News h₀ env.locals h (F a ++ (I, o') :: own) ∧ J (i + 1) a) → ∃ m, m < k ∧ ∃ i a h tk o, m + i = n + 1 ∧ s₃ = { s with heap := h, toks := tk } ∧ i ≤ n ∧ St i h ∧ J i a ∧ Fr h₀ env.locals h (M a) ∧ News h₀ env.locals h (F a ++ (I, o) :: own) := by
      rintro ⟨a', h2, tk2, e, F3, N3, hj'⟩
      refine ⟨k - 1, by omega, i + 1, a', h2, tk2, o', by omega, e, hlt, ?_, hj', F3, N3⟩
      refine W.frame _ _ _ hst' fun b hb ob eb => ?_
      rcases hfp b hb with rfl | ⟨oo, h1⟩ | ⟨oo, h1⟩
      · rw [ho'] at eb
        cases eb
        exact (N3 (b, o') (List.mem_append.mpr (.inr (.head _)))).1
      · have e1 := (N2 (b, oo) (List.mem_append.mpr (.inr (.tail _ h1)))).1
        rw [e1] at eb
        cases eb
        exact (N3 (b, oo) (List.mem_append.mpr (.inr (.tail _ h1)))).1
      · have e1 := F2.keep b oo h1
        rw [e1] at eb
        cases eb
        exact F3.keep _ _ h1
    cases f with
    | next => exact fin h₃
    | cont => exact fin h₃
    | brk => exact h₃
    | ret _ => exact h₃
  · refine W.done _ _ _ hst fun h' tk' hk' => ?_
    refine wpAny_execs_nil (done a h' tk' hj (fr' hk') fun q hq => ?_)
    rcases List.mem_append.mp hq with hq | hq
    · exact ⟨other hk' _ _ (nI q (List.mem_append.mpr (.inl hq))) (N1 q (List.mem_append.mpr (.inl hq))).1, (N1 q (List.mem_append.mpr (.inl hq))).2⟩
    · have hq' := List.mem_append.mpr (.inr (List.mem_cons_of_mem (I, o) hq) : q ∈ F a ∨ q ∈ (I, o) :: own)
      exact ⟨other hk' _ _ (nI q (List.mem_append.mpr (.inr hq))) (N1 q hq').1, (N1 q hq').2⟩
theorem walk_for {σ : Type} (F : σ → List (Addr × Obj)) (M : σ → Str → Option Value) (J : Nat → σ → Prop) {h₀ : Heap} {I : Addr} {fp wr : List Addr} {n : Nat} {P : Nat → Value → Prop} {St : Nat → Heap → Prop} {v : Str} {px : Pos} {body : List Stmt} {Q : Flow → Shared → Prop} {own : List (Addr × Obj)} {a₀ : σ} {o₀ : Obj}
    (hE : PassesOwn (model prog w) A env E)
    (W : Walks prog w A I fp wr n P St) (hwr : ∀ b ∈ wr, b = I) {ty : String} (hob : ∀ i h, St i h → ∃ o, h.get? I = some o ∧ o.cls = .type ty)
    (hfp : ∀ b ∈ fp, b = I ∨ (∃ o, (b, o) ∈ own) ∨ ∃ o, h₀.get? b = some o) (hIL : I ≠ env.locals) (hI0 : h₀.get? I = none)
    (hF : ∀ i a, J i a → ∀ p ∈ F a, p.2.cls ≠ .type ty) (hown : ∀ p ∈ own, p.1 ≠ I)
    (hs : St 0 s.heap) (F0 : Fr h₀ env.locals s.heap (M a₀)) (N0 : News h₀ env.locals s.heap (F a₀ ++ (I, o₀) :: own)) (j0 : J 0 a₀)
    (turn : ∀ i x a h tk o, i < n → P i x → J i a → Fr h₀ env.locals h (M a) → News h₀ env.locals h (F a ++ (I, o) :: own) →
      wpAny (model prog w) A (storeName env v x) (fun _ s₂ => wpAny (model prog w) A (execs body env) (ForPost h₀ env.locals F M (J (i + 1)) ((I, o) :: own) { s with heap := h, toks := tk } Q) E s₂) E { s with heap := h, toks := tk })
    (done : ∀ a h tk, J n a → Fr h₀ env.locals h (M a) → News h₀ env.locals h (F a ++ own) → Q .next { s with heap := h, toks := tk }) :
    LoopC prog w A env (.Name v px) body Q E (.ref I) s :=
  walk_forT F M J hE W hwr hob (fun _ _ _ _ _ _ _ h => wpAny_pure h) hfp hIL hI0 hF hown hs F0 N0 j0 (fun i x a h tk o b1 b2 b3 b4 b5 => wpAny_assign_Name (turn i x a h tk o b1 b2 b3 b4 b5)) done
theorem loop_list {σ : Type} (F : σ → List (Addr × Obj)) (M : σ → Str → Option Value) (J : Nat → σ → Prop) (adr : List Addr) {h₀ : Heap} {l : Addr} {vs : List Value} {v : Str} {px : Pos} {body : List Stmt} {Q : Flow → Shared → Prop} {own : List (Addr × Obj)} {a₀ : σ}
    (hh : A.handled = none) (hE : PassesOwn (model prog w) A env E)
    (hl : s.heap.IsList l vs.toArray) (hlo : (∃ o, (l, o) ∈ own) ∨ ∃ o, h₀.get? l = some o)
    (hF : ∀ i a, J i a → ∀ p ∈ F a, p.2.cls ≠ .type "list_iterator") (hadr : ∀ b ∈ adr, ∃ o, (b, o) ∈ F a₀) (hoff : OwnOff own adr)
    (F0 : Fr h₀ env.locals s.heap (M a₀)) (N0 : News h₀ env.locals s.heap (F a₀ ++ own)) (j0 : J 0 a₀)
    (turn : ∀ i x a h tk own', vs[i]? = some x → J i a → (∀ p ∈ own, p ∈ own') → OwnOff own' adr → Fr h₀ env.locals h (M a) → News h₀ env.locals h (F a ++ own') →
      wpAny (model prog w) A (storeName env v x) (fun _ s₂ => wpAny (model prog w) A (execs body env) (ForPost h₀ env.locals F M (J (i + 1)) own' { s with heap := h, toks := tk } Q) E s₂) E { s with heap := h, toks := tk })
    (done : ∀ a h tk, J vs.length a → Fr h₀ env.locals h (M a) → News h₀ env.locals h (F a ++ own) → Q .next { s with heap := h, toks := tk }) :
    wpAny (model prog w) A (pyIter (.ref l)) (LoopC prog w A env (.Name v px) body Q E) E s := by
  refine wpAny_pyIter_list hl ?_
  obtain ⟨ol, hol, _⟩ := id hl
  have hne : l ≠ s.heap.objs.size := Nat.ne_of_lt (Heap.lt_size hol)
  have W := Walks.list (prog := prog) (w := w) hh s.heap.objs.size l hne vs.toArray
  have hn : vs.toArray.size = vs.length := by simp
  rw [hn] at W
  have F1 := F0.push { cls := .type "list_iterator", data := .fields #[.ref l, .int 0 0] }
  have N1 := N0.push F0 { cls := .type "list_iterator", data := .fields #[.ref l, .int 0 0] }
  have hl1 : (s.heap.push { cls := .type "list_iterator", data := .fields #[.ref l, .int 0 0] }).IsList l vs.toArray := hl.at fun o e => Heap.get?_push_of_some _ e
  refine walk_for F M J (own := own) (a₀ := a₀) (o₀ := { cls := .type "list_iterator", data := .fields #[.ref l, .int 0 0] }) hE W (fun b hb => by simpa using hb) (ty := "list_iterator") (fun i h st => ?_) (fun b hb => ?_) ?_ (next_is_new F0) hF (fun p hp => ?_) ⟨⟨_, Heap.get?_push_size _ rfl, rfl, rfl⟩, hl1⟩ F1 (fun q hq => N1 q ?_) j0 (fun i x a h tk o hi hx hj Fa Na => ?_) (fun a h tk hj Fa Na => done a h tk hj Fa Na)
  · obtain ⟨⟨o, ho, hc, _⟩, _⟩ := st
    exact ⟨o, ho, hc⟩
  · simp only [List.mem_cons, List.not_mem_nil, or_false] at hb
    rcases hb with rfl | rfl
    · exact .inl rfl
    · exact .inr hlo
  · obtain ⟨oL, _, _, hL, _⟩ := F0.ns
    exact Nat.ne_of_gt (Heap.lt_size hL)
  · exact Nat.ne_of_lt (Heap.lt_size (N0 p (List.mem_append.mpr (.inr hp))).1)
  · simp only [List.mem_append, List.mem_cons] at hq ⊢
    rcases hq with h | h | h <;> simp [h]
  · refine turn i x a h tk ((s.heap.objs.size, o) :: own) (by simpa using hx) hj (fun p hp => .tail _ hp) (fun p hp b hb => ?_) Fa Na
    rcases List.mem_cons.mp hp with rfl | hp
    · obtain ⟨ob, hob⟩ := hadr b hb
      exact Nat.ne_of_gt (Heap.lt_size (N0 _ (List.mem_append.mpr (.inl hob))).1)
    · exact hoff p hp b hb
theorem loop_str {σ : Type} (F : σ → List (Addr × Obj)) (M : σ → Str → Option Value) (J : Nat → σ → Prop) (adr : List Addr) {h₀ : Heap} {x : List Nat} {t : Tok} {v : Str} {px : Pos} {body : List Stmt} {Q : Flow → Shared → Prop} {own : List (Addr × Obj)} {a₀ : σ}
    (hh : A.handled = none) (hE : PassesOwn (model prog w) A env E)
    (hF : ∀ i a, J i a → ∀ p ∈ F a, p.2.cls ≠ .type (strIterType (ofL x))) (hadr : ∀ b ∈ adr, ∃ o, (b, o) ∈ F a₀) (hoff : OwnOff own adr)
    (F0 : Fr h₀ env.locals s.heap (M a₀)) (N0 : News h₀ env.locals s.heap (F a₀ ++ own)) (j0 : J 0 a₀)
    (turn : ∀ i c u a h tk own', x[i]? = some c → J i a → (∀ p ∈ own, p ∈ own') → OwnOff own' adr → Fr h₀ env.locals h (M a) → News h₀ env.locals h (F a ++ own') →
      wpAny (model prog w) A (storeName env v (.str (ofL [c]) u)) (fun _ s₂ => wpAny (model prog w) A (execs body env) (ForPost h₀ env.locals F M (J (i + 1)) own' { s with heap := h, toks := tk } Q) E s₂) E { s with heap := h, toks := tk })
    (done : ∀ a h tk, J x.length a → Fr h₀ env.locals h (M a) → News h₀ env.locals h (F a ++ own) → Q .next { s with heap := h, toks := tk }) :
    wpAny (model prog w) A (pyIter (.str (ofL x) t)) (LoopC prog w A env (.Name v px) body Q E) E s := by
  have key : ∀ (T : String), strIterType (ofL x) = T → Walks prog w A s.heap.objs.size [s.heap.objs.size] [s.heap.objs.size] (ofL x).cps.size (SignAt (ofL x)) (fun i h => h.IsStrIter s.heap.objs.size T (ofL x) t i) →
      LoopC prog w A env (.Name v px) body Q E (.ref s.heap.objs.size) { s with heap := s.heap.push { cls := .type T, data := .fields #[.str (ofL x) t, .int 0 0] } } := by
    intro T hT W
    have hn : (ofL x).cps.size = x.length := by simp [ofL]
    rw [hn] at W
    have F1 := F0.push { cls := .type T, data := .fields #[.str (ofL x) t, .int 0 0] }
    have N1 := N0.push F0 { cls := .type T, data := .fields #[.str (ofL x) t, .int 0 0] }
    refine walk_for F M J (own := own) (a₀ := a₀) (o₀ := { cls := .type T, data := .fields #[.str (ofL x) t, .int 0 0] }) hE W (fun b hb => by simpa using hb) (ty := T) (fun i h st => ?_) (fun b hb => .inl (by simpa using hb)) ?_ (next_is_new F0) (hT ▸ hF) (fun p hp => ?_) ⟨_, Heap.get?_push_size _ rfl, rfl, rfl⟩ F1 (fun q hq => N1 q ?_) j0 (fun i y a h tk o hi hx hj Fa Na => ?_) (fun a h tk hj Fa Na => done a h tk hj Fa Na)
    · obtain ⟨o, ho, hc, _⟩ := st
      exact ⟨o, ho, hc⟩
    · obtain ⟨oL, _, _, hL, _⟩ := F0.ns
      exact Nat.ne_of_gt (Heap.lt_size hL)
    · exact Nat.ne_of_lt (Heap.lt_size (N0 p (List.mem_append.mpr (.inr hp))).1)
    · simp only [List.mem_append, List.mem_cons] at hq ⊢
      rcases hq with h | h | h <;> simp [h]
    · obtain ⟨c, u, hc, rfl⟩ := hx
      refine turn i c u a h tk ((s.heap.objs.size, o) :: own) (by simpa [ofL] using hc) hj (fun p hp => .tail _ hp) (fun p hp b hb => ?_) Fa Na
      rcases List.mem_cons.mp hp with rfl | hp
      · obtain ⟨ob, hob⟩ := hadr b hb
        exact Nat.ne_of_gt (Heap.lt_size (N0 _ (List.mem_append.mpr (.inl hob))).1)
      · exact hoff p hp b hb
  refine wpAny_pyIter_strU ?_
  cases ha : (ofL x).cps.all (· < 128)
  · have e : strIterType (ofL x) = "str_iterator" := by unfold strIterType; rw [ha]; rfl
    rw [e]
    exact key _ e (Walks.strWide hh _ _ t)
  · have e : strIterType (ofL x) = "str_ascii_iterator" := by unfold strIterType; rw [ha]; rfl
    rw [e]
    exact key _ e (Walks.strAscii hh _ _ t)
end
section
theorem news_list {h₀ h : Heap} {L S : Addr} {m : Str → Option Value} {P : Params} {sio ds lx dl q1 q2 : Addr} {k v k' v' : Nat → Tok} {cms nl : Str} {buf : List Nat} {pos : Int} {tp : Tok} {line : Int} {tt tl : Tok} {st : Value} {tok : List Nat} {own : List (Addr × Obj)} {o o' : Obj} {f : Obj → Obj}
    (F : Fr h₀ L h m) (N : News h₀ L h (LB P sio ds lx dl k v k' v' q1 q2 cms nl buf pos tp st tok line tt tl ((q1, dqObj) :: (q2, dqObj) :: (S, o) :: own)))
    (hs : sio < S ∧ ds < S ∧ lx < S ∧ dl < S ∧ q1 < S ∧ q2 < S ∧ ∀ p ∈ own, p.1 < S) (e : f o = o') (hf : o'.isFreed = false) :
    Fr h₀ L (h.update S f) m ∧ News h₀ L (h.update S f) (LB P sio ds lx dl k v k' v' q1 q2 cms nl buf pos tp st tok line tt tl ((q1, dqObj) :: (q2, dqObj) :: (S, o') :: own)) := by
  obtain ⟨a1, a2, a3, a4, a5, a6, a7⟩ := hs
  refine news_upd (pre := (sio, instObj 597 ds) :: (ds, sioD P (k' 0) (k' 1) (k' 2) (v' 0) (v' 1) tp nl (ofL buf) pos) :: (lx, instObj 732 dl) :: (dl, lexD P k v sio q1 q2 cms st (ofL tok) line tt tl) :: (q1, dqObj) :: (q2, dqObj) :: []) F N (fun p hp => ?_) (fun p hp => Nat.ne_of_lt (a7 p hp)) e hf
  simp only [List.mem_cons, List.not_mem_nil, or_false] at hp
  rcases hp with rfl | rfl | rfl | rfl | rfl | rfl
  all_goals exact Nat.ne_of_lt (by assumption)
theorem off_list {sio ds lx dl q1 q2 S : Addr} {own : List (Addr × Obj)} {o : Obj} (ho : OwnOff ((q1, dqObj) :: (q2, dqObj) :: own) [sio, ds, lx, dl])
    (hs : sio < S ∧ ds < S ∧ lx < S ∧ dl < S ∧ q1 < S ∧ q2 < S ∧ ∀ p ∈ own, p.1 < S) : OwnOff ((q1, dqObj) :: (q2, dqObj) :: (S, o) :: own) [sio, ds, lx, dl] := by
  obtain ⟨a1, a2, a3, a4, a5, a6, a7⟩ := hs
  intro p hp b hb
  simp only [List.mem_cons] at hp
  rcases hp with rfl | rfl | rfl | hp
  · exact ho _ (.head _) b hb
  · exact ho _ (.tail _ (.head _)) b hb
  · simp only [List.mem_cons, List.not_mem_nil, or_false] at hb
    rcases hb with rfl | rfl | rfl | rfl
    all_goals exact Nat.ne_of_gt (by assumption)
  · exact ho _ (.tail _ (.tail _ hp)) b hb
theorem ext_loop {prog : Program} {w : World} {p : Program} {loose : List Str} {mean : ExcName → Option Value} {mg mb : Str → Option Value}
    {dp un : Nat} {gd : Option (List Code)} {cn : Str} {cs : Scope} {a : Addr} {ccd : Value} {cl : List (Str × Addr)} {outer : List Env} {A₀ : Around} {base h₀ : Heap} {L : Addr} {m : Str → Option Value} {R : Result → Shared → Prop}
    (B : Below A₀ base outer h₀) (X : (Kf w.params).In h₀) (T : Top p loose mean mg mb h₀) (hk : cs.kind = .function)
    {sio ds lx dl q1 q2 S : Addr} {k v k' v' : Nat → Tok} {cms nl : Str} {buf : List Nat} {own : List (Addr × Obj)} {cm : Bool} {res : Value}
    (ho : OwnOff ((q1, dqObj) :: (q2, dqObj) :: own) [sio, ds, lx, dl]) (n1 : sio ≠ ds) (n2 : sio ≠ lx) (n3 : sio ≠ dl) (n4 : ds ≠ lx) (n5 : ds ≠ dl) (n6 : lx ≠ dl)
    (hs : sio < S ∧ ds < S ∧ lx < S ∧ dl < S ∧ q1 < S ∧ q2 < S ∧ ∀ p ∈ own, p.1 < S)
    (hb : buf.length < 1000000) (hd : dp + 10 < recursionLimit) (hu : un + 130 < cLine) (hcms : cms = if cm then Str.ofString "#" else Str.ofString "") :
    ∀ (out : List (List Nat)) (s : Shared) (l : List (Str × Tok)) (c : Nat) (st : Value) (i : Nat) (line : Int) (tp tt tl : Tok),
      Fr h₀ L s.heap m → News h₀ L s.heap (LB w.params sio ds lx dl k v k' v' q1 q2 cms nl buf (i : Int) tp st [] line tt tl ((q1, dqObj) :: (q2, dqObj) :: (S, lstO (strValues l).toArray c) :: own)) →
      -16777216 - i ≤ line → line ≤ 16777216 + i → Lx cm buf st i out → l.length + out.length ≤ 1000000 →
      (∀ (l' : List (Str × Tok)) (c' : Nat) (h' : Heap) (tk' : Nat), l'.map Prod.fst = l.map Prod.fst ++ out.map ofL → base.StaysIn h' → h₀.UpToSlots h' → h'.get? S = some (lstO (strValues l').toArray c') → (∀ q ∈ own, h'.get? q.1 = some q.2) →
        R (.ok (.ret res)) { s with heap := h', toks := tk' }) →
      codeAny (model prog w) (ktrTop dp un gd cn cs L a ccd cl outer) (.builtin "list.extend.loop" ⟨[.ref S, .ref lx, res], []⟩) R s := by
  intro out
  induction out with
  | nil =>
    intro s l c st i line tp tt tl F N hl1 hl2 hx hlen hR
    refine codeAny_builtin PySem.F.entry_extend_loop ?_
    rw [Around.under_plainId PySem.F.plain_extend_loop _]
    show wpAny _ (Around.in1 _) (pyNext (.ref lx) >>= _) _ _ s
    refine wpAny_bind (next_spec (cm := cm) (out := []) (i := i) B F X T hk N (off_list ho hs) n1 n2 n3 n4 n5 n6 hb rfl hd (by show un + 1 + 120 < _; omega) hl1 hl2 hcms hx ?_ ?_)
    · intro t out' tk st' j line' t1 t3 t4 h' tk' _ _ _ _ e
      cases e
    · intro st' j line' t1 t3 t4 h' tk' _ b1 b2 b3
      exact wpAny_pure (hR l c h' tk' (by simp) b1 b2 (b3 _ (.tail _ (.tail _ (.tail _ (.tail _ (.tail _ (.tail _ (.head _)))))))) fun q hq => b3 q (.tail _ (.tail _ (.tail _ (.tail _ (.tail _ (.tail _ (.tail _ hq))))))))
  | cons t0 out ih =>
    intro s l c st i line tp tt tl F N hl1 hl2 hx hlen hR
    refine codeAny_builtin PySem.F.entry_extend_loop ?_
    rw [Around.under_plainId PySem.F.plain_extend_loop _]
    show wpAny _ (Around.in1 _) (pyNext (.ref lx) >>= _) _ _ s
    refine wpAny_bind (next_spec (cm := cm) (out := t0 :: out) (i := i) B F X T hk N (off_list ho hs) n1 n2 n3 n4 n5 n6 hb rfl hd (by show un + 1 + 120 < _; omega) hl1 hl2 hcms hx ?_ ?_)
    · intro t out' tk st' j line' t1 t3 t4 h' tk' F' N' b1 b2 e hx'
      cases e
      show wpAny _ _ (updateSeq S (·.push (.str (ofL t0) tk)) >>= _) _ _ _
      have hS := (N' _ (.tail _ (.tail _ (.tail _ (.tail _ (.tail _ (.tail _ (.head _)))))))).1
      have hsz : (strValues l).toArray.size = l.length := by simp [strValues]
      simp only [List.length_cons] at hlen
      have hz : l.length ≤ sizeLine := by show _ ≤ 2 ^ 24; omega
      refine wpAny_bind (wpAny_updateSeq hS rfl ?_ (by rw [hsz]; exact hz) (by rw [Array.size_push, hsz]; omega))
      obtain ⟨c2, hc2⟩ : ∃ c2, Obj.mapSeq (·.push (.str (ofL t0) tk)) (lstO (strValues l).toArray c) = lstO (strValues (l ++ [(ofL t0, tk)])).toArray c2 := ⟨_, by
        simp only [Obj.mapSeq, strValues, List.map_append, List.map_cons, List.map_nil, List.push_toArray]
        rfl⟩
      obtain ⟨F2, N2⟩ := news_list F' N' hs hc2 rfl
      refine wpAny_pure ⟨plainId_quiet PySem.F.plain_extend_loop _, ?_⟩
      refine ih _ (l ++ [(ofL t0, tk)]) c2 st' j line' t1 t3 t4 F2 N2 b1 b2 hx' (by simp; omega) ?_
      intro l' c' h2 tk2 e1 e2 e3 e4 e5
      exact hR l' c' h2 tk2 (by rw [e1]; simp) e2 e3 e4 e5
    · intro st' j line' t1 t3 t4 h' tk' e
      cases e
section
theorem iter_spec {prog : Program} {w : World} {p : Program} {loose : List Str} {mean : ExcName → Option Value} {mg mb : Str → Option Value}
    {dp un : Nat} {gd : Option (List Code)} {cn : Str} {cs : Scope} {a : Addr} {ccd : Value} {cl : List (Str × Addr)} {outer : List Env} {A₀ : Around} {base h₀ : Heap} {L : Addr} {m : Str → Option Value} {s : Shared} {Q : Value → Shared → Prop} {E : Value → Shared → Prop}
    (B : Below A₀ base outer h₀) (F : Fr h₀ L s.heap m) (X : (Kf w.params).In h₀) (T : Top p loose mean mg mb h₀) (hk : cs.kind = .function)
    {lx dl : Addr} {od : Obj} {own : List (Addr × Obj)}
    (N : News h₀ L s.heap ((lx, instObj 732 dl) :: (dl, od) :: own))
    (hd : dp + 10 < recursionLimit) (hu : un + 120 < cLine)
    (hret : ∀ (h' : Heap) (tk' : Nat), Fr h₀ L h' m → News h₀ L h' ((lx, instObj 732 dl) :: (dl, od) :: own) → Q (.ref lx) { s with heap := h', toks := tk' }) :
    wpAny (model prog w) (ktrTop dp un gd cn cs L a ccd cl outer) (pyIter (.ref lx)) Q E s := by
  k_dflt (refine' owit_iter ?F ?X ?I ?hs ?hf ?_; (case F => k_asm); (case X => k_asm); (case I => k_inst); (case hs => k_is); (case hf => k_is); k_whole)
  refine wpAny_call ?_
  k_dflt k_enter
  k_steps
  all_goals exact hret _ _ (by assumption) (by assumption)
theorem news_swap {h₀ h : Heap} {L : Addr} {a b c : List (Addr × Obj)} (N : News h₀ L h (a ++ (b ++ c))) : News h₀ L h (b ++ (a ++ c)) := fun q hq => N q (by
  simp only [List.mem_append] at hq ⊢
  rcases hq with h | h | h
  · exact .inr (.inl h)
  · exact .inl h
  · exact .inr (.inr h))
theorem perm_news {h₀ h : Heap} {L S : Addr} {P : Params} {sio ds lx dl q1 q2 : Addr} {k v k' v' : Nat → Tok} {cms nl : Str} {buf : List Nat} {pos : Int} {tp : Tok} {line : Int} {tt tl : Tok} {st : Value} {tok : List Nat} {own : List (Addr × Obj)} {o : Obj}
    (N : News h₀ L h ((S, o) :: LB P sio ds lx dl k v k' v' q1 q2 cms nl buf pos tp st tok line tt tl ((q1, dqObj) :: (q2, dqObj) :: own))) :
    News h₀ L h (LB P sio ds lx dl k v k' v' q1 q2 cms nl buf pos tp st tok line tt tl ((q1, dqObj) :: (q2, dqObj) :: (S, o) :: own)) := news_swap (a := [_]) (b := [_, _, _, _, _, _]) N
theorem news_first {h₀ h : Heap} {L : Addr} {P : Params} {sio ds lx dl q1 q2 : Addr} {k v k' v' : Nat → Tok} {cms nl : Str} {buf : List Nat} {pos : Int} {tp : Tok} {line : Int} {tt tl : Tok} {st : Value} {tok : List Nat} {own : List (Addr × Obj)}
    (N : News h₀ L h (LB P sio ds lx dl k v k' v' q1 q2 cms nl buf pos tp st tok line tt tl own)) :
    News h₀ L h ((lx, instObj 732 dl) :: (dl, lexD P k v sio q1 q2 cms st (ofL tok) line tt tl) :: (sio, instObj 597 ds) :: (ds, sioD P (k' 0) (k' 1) (k' 2) (v' 0) (v' 1) tp nl (ofL buf) pos) :: own) := news_swap (a := [_, _]) (b := [_, _]) N
theorem news_back {h₀ h : Heap} {L : Addr} {P : Params} {sio ds lx dl q1 q2 : Addr} {k v k' v' : Nat → Tok} {cms nl : Str} {buf : List Nat} {pos : Int} {tp : Tok} {line : Int} {tt tl : Tok} {st : Value} {tok : List Nat} {own : List (Addr × Obj)}
    (N : News h₀ L h ((lx, instObj 732 dl) :: (dl, lexD P k v sio q1 q2 cms st (ofL tok) line tt tl) :: (sio, instObj 597 ds) :: (ds, sioD P (k' 0) (k' 1) (k' 2) (v' 0) (v' 1) tp nl (ofL buf) pos) :: own)) :
    News h₀ L h (LB P sio ds lx dl k v k' v' q1 q2 cms nl buf pos tp st tok line tt tl own) := news_swap (a := [_, _]) (b := [_, _]) N
theorem list_own {prog : Program} {w : World} {p : Program} {loose : List Str} {mean : ExcName → Option Value} {mg mb : Str → Option Value}
    {dp un : Nat} {gd : Option (List Code)} {cn : Str} {cs : Scope} {a : Addr} {ccd : Value} {cl : List (Str × Addr)} {outer : List Env} {A₀ : Around} {base h₀ : Heap} {L : Addr} {m : Str → Option Value} {s : Shared} {Q : Value → Shared → Prop} {E : Value → Shared → Prop}
    (B : Below A₀ base outer h₀) (F : Fr h₀ L s.heap m) (X : (Kf w.params).In h₀) (T : Top p loose mean mg mb h₀) (hk : cs.kind = .function)
    {sio ds lx dl q1 q2 : Addr} {k v k' v' : Nat → Tok} {cms nl : Str} {buf : List Nat} {pos : Int} {tp : Tok} {line : Int} {tt tl : Tok} {st : Value} {i : Nat} {own : List (Addr × Obj)} {cm : Bool} {out : List (List Nat)}
    (N : News h₀ L s.heap (LB w.params sio ds lx dl k v k' v' q1 q2 cms nl buf pos tp st [] line tt tl ((q1, dqObj) :: (q2, dqObj) :: own)))
    (ho : OwnOff ((q1, dqObj) :: (q2, dqObj) :: own) [sio, ds, lx, dl]) (n1 : sio ≠ ds) (n2 : sio ≠ lx) (n3 : sio ≠ dl) (n4 : ds ≠ lx) (n5 : ds ≠ dl) (n6 : lx ≠ dl)
    (hb : buf.length < 1000000) (hi : pos = (i : Int)) (hd : dp + 10 < recursionLimit) (hu : un + 140 < cLine)
    (hl1 : -16777216 - i ≤ line) (hl2 : line ≤ 16777216 + i) (hcms : cms = if cm then Str.ofString "#" else Str.ofString "") (hx : Lx cm buf st i out) (hlen : out.length ≤ 1000000)
    (hret : ∀ (l' : List (Str × Tok)) (c' : Nat) (h' : Heap) (tk' : Nat), l'.map Prod.fst = out.map ofL → base.StaysIn h' → h₀.UpToSlots h' → h'.get? s.heap.objs.size = some (lstO (strValues l').toArray c') → (∀ q ∈ own, h'.get? q.1 = some q.2) →
        Q (.ref s.heap.objs.size) { s with heap := h', toks := tk' }) :
    wpAny (model prog w) (ktrTop dp un gd cn cs L a ccd cl outer) (call (.type "list") [.ref lx]) Q E s := by
  subst hi
  obtain ⟨hp, g, d, tk, os⟩ := s
  refine callType_codes (Q₁ := fun obj s₁ => obj = .ref hp.objs.size ∧ s₁ = { heap := hp.push { cls := .type "list", data := .seq #[] }, gens := g, drawn := d, toks := tk, os := os }) PySem.F.called_list (PySem.F.typeCall_list_1 _) PySem.F.entry_list_init
    (code_list_new _ ⟨rfl, rfl⟩) fun obj s₁ h₁ => ?_
  obtain ⟨rfl, rfl⟩ := h₁
  have hS : (hp.push { cls := .type "list", data := .seq #[] }).get? hp.objs.size = some { cls := .type "list", data := .seq #[] } := Heap.get?_push_size _ rfl
  refine ⟨⟨_, hS, rfl⟩, PySem.F.args_list_init_2 _ _, ?_⟩
  have lt : ∀ q ∈ LB w.params sio ds lx dl k v k' v' q1 q2 cms nl buf (i : Int) tp st [] line tt tl ((q1, dqObj) :: (q2, dqObj) :: own), q.1 < hp.objs.size := fun q hq => Heap.lt_size (N q hq).1
  have hs : sio < hp.objs.size ∧ ds < hp.objs.size ∧ lx < hp.objs.size ∧ dl < hp.objs.size ∧ q1 < hp.objs.size ∧ q2 < hp.objs.size ∧ ∀ p ∈ own, p.1 < hp.objs.size :=
    ⟨lt _ (.head _), lt _ (.tail _ (.head _)), lt _ (.tail _ (.tail _ (.head _))), lt _ (.tail _ (.tail _ (.tail _ (.head _)))), lt _ (.tail _ (.tail _ (.tail _ (.tail _ (.head _))))), lt _ (.tail _ (.tail _ (.tail _ (.tail _ (.tail _ (.head _)))))),
      fun p hp => lt p (.tail _ (.tail _ (.tail _ (.tail _ (.tail _ (.tail _ hp))))))⟩
  have N1 := perm_news (N.push F { cls := .type "list", data := .seq #[] })
  have F1 := F.push { cls := .type "list", data := .seq #[] }
  generalize hp.objs.size = S at *
  show wpAny _ _ (do let old ← Builtin.List.listItems (.ref S); Builtin.List.listUpdate (.ref S) (fun _ => #[]); letGo old.toList.reverse; Builtin.List.listExtendWith (.ref S) (.ref lx) .none) _ _ _
  refine wpAny_bind ?_
  unfold Builtin.List.listItems
  refine wpAny_bind (wpAny_seqItems hS rfl (wpAny_pure ?_))
  show wpAny _ _ (updateSeq S (fun _ => #[]) >>= fun _ => letGo (#[] : Array Value).toList.reverse >>= fun _ => Builtin.List.listExtendWith (.ref S) (.ref lx) .none) _ _ _
  refine wpAny_bind (wpAny_updateSeq hS rfl ?_)
  obtain ⟨F2, N2⟩ := news_list (f := Obj.mapSeq (fun _ => (#[] : Array Value))) F1 N1 hs rfl rfl
  refine wpAny_bind (wpAny_letGo ?_)
  generalize (hp.push { cls := .type "list", data := .seq #[] }).update S (Obj.mapSeq fun _ => (#[] : Array Value)) = h2 at *
  have hSl : S ≠ lx := Nat.ne_of_gt hs.2.2.1
  have I : InstAt h2 lx (instObj 732 dl) 732 (some (lexD w.params k v sio q1 q2 cms st (ofL []) line tt tl)) := by
    have N9 := N2
    k_inst
  have X2 := X.keeps F2.keep
  have t1 : findIn (Kf w.params) (.ref 732) "__len__" = some none := by k_is
  have t2 : findIn (Kf w.params) (.ref 732) "__length_hint__" = some none := by k_is
  unfold Builtin.List.listExtendWith
  refine wpAny_bind (I.type.here ?_)
  have e1 : Builtin.List.listSameRef (.ref S) (.ref lx) = false := by simp [Builtin.List.listSameRef, hSl]
  have e2 : (Value.ref 732 == Value.type "list") = false := by decide
  have e3 : (Value.ref 732 == Value.type "tuple") = false := by decide
  simp only [e1, e2, e3, Bool.or_false, Bool.false_eq_true, if_false]
  refine wpAny_bind (iter_spec B F2 X T hk (news_first N2) (by exact hd) (by show un + 1 + 1 + 120 < _; omega) ?_)
  intro h3 tk3 F3 N3'
  have N3 := news_back N3'
  have I3 : InstAt h3 lx (instObj 732 dl) 732 (some (lexD w.params k v sio q1 q2 cms st (ofL []) line tt tl)) := by
    clear N2 N1 N
    k_inst
  have X3 := X.keeps F3.keep
  refine wpAny_bind (wpAny_holding ?_)
  unfold Builtin.List.listLengthHint
  refine wpAny_bind (wpAny_bind (I3.type.here ((looks_findIn X3 t1).here ?_)))
  show wpAny _ _ (specialOf (Value.ref lx) (Str.ofString "__length_hint__") >>= _) _ _ _
  refine wpAny_bind (wpAny_bind (I3.type.here ((looks_findIn X3 t2).here ?_)))
  refine wpAny_pure ?_
  show wpAny _ _ (rule "list.extend.makes-room" >>= fun _ => Builtin.List.listTouch (.ref S) >>= fun _ =>
    again (.builtin "list.extend.loop" ⟨[.ref S, .ref lx, .none], []⟩)) _ _ _
  refine wpAny_bind (wpAny_rule ?_)
  refine wpAny_bind ?_
  show wpAny _ _ (updateSeq S (·.push .none) >>= fun _ => updateSeq S (·.pop)) _ _ _
  have at3 := (N3 _ (.tail _ (.tail _ (.tail _ (.tail _ (.tail _ (.tail _ (.head _)))))))).1
  refine wpAny_bind (wpAny_updateSeq at3 rfl ?_)
  obtain ⟨F4, N4⟩ := news_list (f := Obj.mapSeq (·.push Value.none)) F3 N3 hs rfl rfl
  have at4 := (N4 _ (.tail _ (.tail _ (.tail _ (.tail _ (.tail _ (.tail _ (.head _)))))))).1
  refine wpAny_updateSeq (hz := by seq_fits) at4 rfl ?_
  obtain ⟨c5, hc5⟩ : ∃ c, Obj.mapSeq (·.pop) (Obj.mapSeq (·.push Value.none) (Obj.mapSeq (fun _ => (#[] : Array Value)) { cls := .type "list", data := .seq #[] })) = lstO (strValues []).toArray c := ⟨_, rfl⟩
  obtain ⟨F5, N5⟩ := news_list (f := Obj.mapSeq (·.pop)) F4 N4 hs hc5 rfl
  refine wpAny_pure ⟨plainId_quiet PySem.F.plain_extend_loop _, ?_⟩
  refine ext_loop (cm := cm) B X T hk ho n1 n2 n3 n4 n5 n6 hs hb hd (by show un + 1 + 130 < _; omega) hcms out _ [] c5 st i line tp tt tl F5 N5 hl1 hl2 hx (by simpa using hlen) ?_
  intro l' c' h' tk' e1 e2 e3 e4 e5
  exact ⟨rfl, hret l' c' h' tk' (by simpa using e1) e2 e3 e4 e5⟩
section
local macro_rules | `(tactic| walk_at "execs cons") => `(tactic| (first | (k_fold; walk_at "execs cons") | (with_reducible refine gen_tk ?_; intro tk9; walk_at "execs cons")))
local macro_rules | `(tactic| walk_at "truthy str") => `(tactic| (k_here; (with_reducible show wpAny _ _ (truthy (Value.str (ofL [_]) _)) _ _ _); refine truthy_one ?_))
local macro_rules | `(tactic| walk_at "truthy str") => `(tactic| (k_here; (with_reducible show wpAny _ _ (truthy (Value.str (ofL _) _)) _ _ _); (fail_if_success (with_reducible show wpAny _ _ (truthy (Value.str (ofL [_]) _)) _ _ _)); refine truthy_ofL (by assumption) ?_))
local macro_rules | `(tactic| walk_at "inplaceOp Add str str") => `(tactic| (k_here; (with_reducible show wpAny _ _ (inplaceOp _ (Value.str (ofL _) _) (Value.str (ofL [_]) _)) _ _ _); refine iadd_ofL (by assumption) (by simp) ?_; intro t9 k9))
theorem off4 {own : List (Addr × Obj)} {sio ds x dx : Addr} {o1 o2 : Obj} (h : ∀ p ∈ (x, o1) :: (dx, o2) :: own, p.1 < ds) (l : ds < sio) (h2 : ∀ p ∈ own, p.1 < dx) (l2 : dx < x) :
    OwnOff own [sio, ds, x, dx] ∧ sio ≠ ds ∧ sio ≠ x ∧ sio ≠ dx ∧ ds ≠ x ∧ ds ≠ dx ∧ x ≠ dx := by
  have a1 := h _ (.head _)
  have a2 := h _ (.tail _ (.head _))
  dsimp only at a1 a2
  have t : ∀ {a b : Nat}, a < b → a ≠ b := fun h => Nat.ne_of_lt h
  refine ⟨?_, (t l).symm, (t (Nat.lt_trans a1 l)).symm, (t (Nat.lt_trans a2 l)).symm, (t a1).symm, (t a2).symm, (t l2).symm⟩
  intro p hp b hb
  have c1 := h2 p hp
  have c2 := h p (.tail _ (.tail _ hp))
  simp only [List.mem_cons, List.not_mem_nil, or_false] at hb
  rcases hb with rfl | rfl | rfl | rfl
  · exact t (Nat.lt_trans c2 l)
  · exact t c2
  · exact t (Nat.lt_trans c1 l2)
  · exact t c1
theorem units_tc (A : Around) (args : Args) : (A.under (.builtin "type.__call__" args)).units = A.units + 1 := rfl
local macro_rules | `(tactic| walk_at "call ref") => `(tactic| (k_here; (with_reducible show wpAny _ _ (call (Value.ref 597) [Value.str _ _]) _ _ _); k_dflt (refine' sio_spec ?zB ?zF ?zX ?zT ?zK ?zN ?zb ?zd ?zu ?_; (case zK => first | exact rfl | assumption); (case zB | zF => k_asm); (case zX | zT => k_asm); (case zN | zb => k_asm); (case zd => ktr_room); (case zu => first | ktr_units | (have hcL9 := cLine_is; (simp only [units_deeper, units_tc]); (try dsimp only [ktrTop]); omega))); intro sio9 ds9 nl9 k09 k19 k29 t09 t19 t29 h9 tk9 F9 N9 l1 l2; (have hoff9 := off4 l1 l2 (by assumption) (by assumption)); (obtain ⟨ho9, n19, n29, n39, n49, n59, n69⟩ := hoff9); (try k_lt l1)))
local macro_rules | `(tactic| walk_at "call type:list") => `(tactic| (k_here; refine halt ?_))
theorem ne2 {own : List (Addr × Obj)} {a3 a4 q : Addr} {o3 o4 : Obj} (h : ∀ p ∈ (a3, o3) :: (a4, o4) :: own, p.1 < q) : q ≠ a3 ∧ q ≠ a4 := ⟨Nat.ne_of_gt (h _ (.head _)), Nat.ne_of_gt (h _ (.tail _ (.head _)))⟩
theorem ne3 {own : List (Addr × Obj)} {a0 a3 a4 q : Addr} {o0 o3 o4 : Obj} (h : ∀ p ∈ (a0, o0) :: (a3, o3) :: (a4, o4) :: own, p.1 < q) : q ≠ a0 ∧ q ≠ a3 ∧ q ≠ a4 := ⟨Nat.ne_of_gt (h _ (.head _)), ne2 fun p hp => h p (.tail _ hp)⟩
theorem split_back {h₀ h : Heap} {L : Addr} {P : Params} {sio ds x d q1 q2 : Addr} {k0 k1 k2 k3 k4 k5 k6 k7 k8 k9 k10 k11 k12 k13 k14 k15 k16 k17 k18 v4 v5 v6 v8 v9 v10 v14 v18 g0 g1 g2 t0 t1 tp tl tt : Tok} {cms nl : Str} {buf : List Nat} {pos line : Int} {st : Value} {own : List (Addr × Obj)}
    (N : News h₀ L h ((q2, dqObj) :: (q1, dqObj) :: (sio, instObj 597 ds) :: (ds, sioD P g0 g1 g2 t0 t1 tp nl (ofL buf) pos) :: (x, instObj 732 d) :: (d, dictOf [en P "instream" k0 (.ref sio), en P "infile" k1 (.none), en P "posix" k2 (.bool true), en P "eof" k3 (.none), en P "commenters" k4 (.str cms v4), en P "wordchars" k5 (.str (Str.ofString "abcdfeghijklmnopqrstuvwxyzABCDEFGHIJKLMNOPQRSTUVWXYZ0123456789_ßàáâãäåæçèéêëìíîïðñòóôõöøùúûüýþÿÀÁÂÃÄÅÆÇÈÉÊËÌÍÎÏÐÑÒÓÔÕÖØÙÚÛÜÝÞ") v5), en P "whitespace" k6 (.str (Str.ofString " \t\x0d\n") v6), en P "whitespace_split" k7 (.bool true), en P "quotes" k8 (.str (Str.ofString "'\"") v8), en P "escape" k9 (.str (Str.ofString "\\") v9), en P "escapedquotes" k10 (.str (Str.ofString "\"") v10), en P "state" k11 (st), en P "pushback" k12 (.ref q1), en P "lineno" k13 (.int line tl), en P "debug" k14 (.int 0 v14), en P "token" k15 (.str (Str.ofString "") tt), en P "filestack" k16 (.ref q2), en P "source" k17 (.none), en P "_punctuation_chars" k18 (.str (Str.ofString "") v18)] 19) :: own)) :
    News h₀ L h (LB P sio ds x d (fun n => [k0, k1, k2, k3, k4, k5, k6, k7, k8, k9, k10, k11, k12, k13, k14, k15, k16, k17, k18].getD n k0) (fun n => [v4, v4, v4, v4, v4, v5, v6, v6, v8, v9, v10, v4, v4, v4, v14, v4, v4, v4, v18].getD n v4) (fun n => [g0, g1, g2].getD n g0) (fun n => [t0, t1].getD n t0) q1 q2 cms nl buf pos tp st [] line tt tl ((q1, dqObj) :: (q2, dqObj) :: own)) := by
  have N2 := news_swap (a := [_, _]) (b := [_, _, _, _]) (news_swap (a := [_]) (b := [_]) N)
  unfold LB lexD
  rw [← empty_eq]
  exact N2
theorem off_back {sio ds x d q1 q2 : Addr} {own : List (Addr × Obj)} (ho : OwnOff own [sio, ds, x, d]) (a1 : q2 ≠ q1) (a2 : q2 ≠ sio) (a3 : q2 ≠ ds) (a4 : q2 ≠ x) (a5 : q2 ≠ d) (b2 : q1 ≠ sio) (b3 : q1 ≠ ds) (b4 : q1 ≠ x) (b5 : q1 ≠ d) :
    OwnOff ((q1, dqObj) :: (q2, dqObj) :: own) [sio, ds, x, d] := by
  intro p hp b hb
  simp only [List.mem_cons] at hp
  rcases hp with rfl | rfl | hp
  · simp only [List.mem_cons, List.not_mem_nil, or_false] at hb
    rcases hb with rfl | rfl | rfl | rfl <;> assumption
  · simp only [List.mem_cons, List.not_mem_nil, or_false] at hb
    rcases hb with rfl | rfl | rfl | rfl <;> assumption
  · exact ho p hp b hb
theorem code_defR {prog : Program} {w : World} {A A₀ : Around} {s : Shared} {K : Frag} {L : Addr} {h₀ base : Heap} {m mg mb : Str → Option Value} {news : List (Addr × Obj)} {p : Program} {loose : List Str} {mean : ExcName → Option Value}
    {env : Env} {outer : List Env} {R : Result → Shared → Prop} {name qual : Str} {params : Arguments} {body : List Stmt} {scope : Scope} {dV kV doc pm cdv ct oc : Value} {an od : Option Addr} {osl : Array (Option Value)} {f : Addr} {args : Args} {binds bl : List (Str × Value)}
    (B : Below A₀ base outer h₀) (F : Fr h₀ L s.heap m) (X₀ : K.In h₀) (N : News h₀ L s.heap news) (T : Top p loose mean mg mb h₀) (hA : A.frames = some (env :: outer)) (hf : env.frame = some L) (hke : env.scope.kind = .function)
    (ho : K.lookup f = some ⟨oc, od, .func (fnOf name qual params body scope dV kV doc pm an cdv ct), osl⟩) (hcd : codeIn K cdv qual = true) (hroom : A.depth < recursionLimit)
    (hbind : BindsTo s (fnOf name qual params body scope dV kV doc pm an cdv ct) args binds) (he : binds.reverse = bl) (hloc : ∀ y ∈ binds, scope.names.lookup y.1 = some .local)
    (h : ∀ g L' h₁ tk, Fr h₀ L g m → Fr g L' h₁ (fun y => bl.lookup y) → News g L' h₁ news → Below A base (env :: outer) g → K.In g → Top p loose mean mg mb g →
      wpAny (model prog w) (A.deeper (envOf qual scope L' f cdv)) (execs body (envOf qual scope L' f cdv))
        (fun fl s' => R (.ok (.ret (match fl with | .ret v => v | _ => .none))) s')
        (fun e s' => wpAny (model prog w) (A.deeper (envOf qual scope L' f cdv)) (leaving (envOf qual scope L' f cdv) e) (fun _ s'' => R (.error e) s'') (fun e' s'' => R (.error e') s'') s')
        { s with heap := h₁, toks := tk })
    (hco : scope.isCoroutine = false) (hgen : scope.isGenerator = false) (hk : scope.kind = .function)
    (hcell : ∀ x ∈ scope.names, x.2 ≠ .cell) : codeAny (model prog w) A (.call (.ref f) args) R s := by
  subst he
  obtain ⟨FG, BG, st, lv⟩ := groundX (R := R) B F N hA hf hke
  refine codeAny_call_def (fd := fnOf name qual params body scope dV kV doc pm an cdv ct) (body := body) (binds := binds) hroom ((X₀.keeps F.keep) _ _ ho) rfl (T.nolimit.keeps F.keep) (codeRec_of (X₀.keeps F.keep) hcd) rfl hbind hcell hloc (fun h₁ hns hk₁ => ?_) hco hgen hk
  exact wpAny_mono (h _ s.heap.objs.size h₁ _ FG ⟨hns, fun b o e => hk₁ b o (of_hideAll _ e), Nat.le_of_eq (hideAll_size _ _)⟩
    (fun p hp => ⟨hk₁ _ _ (N p hp).1, Nat.ne_of_lt (Heap.lt_size (N p hp).1), hideAll_none _ (List.mem_map_of_mem hp)⟩) BG (X₀.keeps st) (T.keeps st)) (fun fl s' hl => hl) fun _ _ y => y
theorem split_end {h₀ g hs hc h' : Heap} {L L' : Addr} {m m' : Str → Option Value} {own news : List (Addr × Obj)} {o : Obj} (FG : Fr h₀ L g m) (Fc : Fr g L' hc m') (N : News h₀ L hs own) (Nc : News g L' hc news) (hsub : ∀ p ∈ own, p ∈ news)
    (e2 : h₀.StaysIn h') (e3 : g.UpToSlots h') (e4 : h'.get? hc.objs.size = some o) (e5 : ∀ q ∈ own, h'.get? q.1 = some q.2) :
    Fr h₀ L h' m ∧ News h₀ L h' ((hc.objs.size, o) :: own) ∧ ∀ p ∈ own, p.1 < hc.objs.size := by
  refine ⟨FG.of_stays e2 e3, fun q hq => ?_, fun p hp => Heap.lt_size (Nc p (hsub p hp)).1⟩
  rcases List.mem_cons.mp hq with rfl | hq
  · refine ⟨e4, ?_, ?_⟩
    · obtain ⟨oL, _, _, hL, _⟩ := FG.ns
      exact Nat.ne_of_gt (Heap.lt_size (Fc.keep _ _ hL))
    · dsimp only
      cases e : h₀.get? hc.objs.size with
      | none => rfl
      | some o' => exact absurd (Heap.lt_size (Fc.keep _ _ (FG.keep _ _ e))) (Nat.lt_irrefl _)
  · exact ⟨e5 q hq, (N q hq).2⟩
noncomputable def iBody : List Stmt → List Stmt
  | _ :: r => r
  | _ => []
@[reducible] noncomputable def iB : List Stmt := by
  have h : iBody b656 = iBody b656 := rfl
  conv at h => rhs; whnf
  exact rhsOf h
section
local macro_rules | `(tactic| walk_at "call type:collections.deque") => `(tactic| (k_here; (with_reducible show wpAny _ _ (call (Value.type "collections.deque") []) _ _ _); k_dflt (refine' dq_call ?zF ?zN ?_; (case zF | zN => k_asm)); intro q9 h9 F9 N9 l9; (first | (have hq9 := ne3 l9; (obtain ⟨m09, m39, m49⟩ := hq9)) | (have hq9 := ne2 l9; (obtain ⟨m39, m49⟩ := hq9))); (try k_lt l9)))
theorem init_tail {prog : Program} {w : World} {p : Program} {loose : List Str} {mean : ExcName → Option Value} {mg mb : Str → Option Value} {A : Around} {h₀ : Heap} {L : Addr} {s : Shared} {Q : Flow → Shared → Prop} {E : Value → Shared → Prop}
    {x d sio : Addr} {own : List (Addr × Obj)} {iv : Value}
    (F : Fr h₀ L s.heap (fun y => if y = Str.ofString "instream" then some (.ref sio) else List.lookup y [(Str.ofString "punctuation_chars", .bool false), (Str.ofString "posix", .bool true), (Str.ofString "infile", .none), (Str.ofString "instream", iv), (Str.ofString "self", .ref x)]))
    (X : (Kf w.params).In h₀) (T : Top p loose mean mg mb h₀) (N : News h₀ L s.heap ((x, instObj 732 d) :: (d, dictOf [] 0) :: own)) (n1 : x ≠ d) (ho : OwnOff own [x, d])
    (hr : ∀ (k0 k1 k2 k3 k4 k5 k6 k7 k8 k9 k10 k11 k12 k13 k14 k15 k16 k17 k18 v4 v5 v6 v8 v9 v10 v11 v13 v14 v15 v18 : Tok) (q1 q2 : Addr) (h' : Heap) (tk' : Nat) (m' : Str → Option Value), Fr h₀ L h' m' →
      News h₀ L h' ((q2, dqObj) :: (q1, dqObj) :: (x, instObj 732 d) :: (d, dictOf [en w.params "instream" k0 (.ref sio), en w.params "infile" k1 .none, en w.params "posix" k2 (.bool true), en w.params "eof" k3 .none, en w.params "commenters" k4 (.str (Str.ofString "#") v4), en w.params "wordchars" k5 (.str (Str.ofString "abcdfeghijklmnopqrstuvwxyzABCDEFGHIJKLMNOPQRSTUVWXYZ0123456789_ßàáâãäåæçèéêëìíîïðñòóôõöøùúûüýþÿÀÁÂÃÄÅÆÇÈÉÊËÌÍÎÏÐÑÒÓÔÕÖØÙÚÛÜÝÞ") v5), en w.params "whitespace" k6 (.str (Str.ofString " \t\x0d\n") v6), en w.params "whitespace_split" k7 (.bool false), en w.params "quotes" k8 (.str (Str.ofString "'\"") v8), en w.params "escape" k9 (.str (Str.ofString "\\") v9), en w.params "escapedquotes" k10 (.str (Str.ofString "\"") v10), en w.params "state" k11 (.str (Str.ofString " ") v11), en w.params "pushback" k12 (.ref q1), en w.params "lineno" k13 (.int 1 v13), en w.params "debug" k14 (.int 0 v14), en w.params "token" k15 (.str (Str.ofString "") v15), en w.params "filestack" k16 (.ref q2), en w.params "source" k17 .none, en w.params "_punctuation_chars" k18 (.str (Str.ofString "") v18)] 19) :: own) → (x < q1 ∧ d < q1 ∧ AllLt q1 own) → (q1 < q2 ∧ x < q2 ∧ d < q2 ∧ AllLt q2 own) → Q .next { s with heap := h', toks := tk' }) :
    wpAny (model prog w) A (execs iB (envOf (Str.ofString "shlex.__init__") c656 L 656 (.ref 655))) Q E s := by
  k_steps
  all_goals exact hr _ _ _ _ _ _ _ _ _ _ _ _ _ _ _ _ _ _ _ _ _ _ _ _ _ _ _ _ _ _ _ _ _ _ _ (by assumption) (by assumption) (by assumption) (by assumption)
end
theorem off_ini {sio ds x d : Addr} {o1 o2 : Obj} {own : List (Addr × Obj)} (ho : OwnOff own [sio, ds, x, d]) (a1 : sio ≠ x) (a2 : sio ≠ d) (a3 : ds ≠ x) (a4 : ds ≠ d) : OwnOff ((sio, o1) :: (ds, o2) :: own) [x, d] := by
  intro p hp b hb
  simp only [List.mem_cons, List.not_mem_nil, or_false] at hb hp
  rcases hp with rfl | rfl | hp
  · rcases hb with rfl | rfl <;> assumption
  · rcases hb with rfl | rfl <;> assumption
  · rcases hb with rfl | rfl
    · exact ho p hp _ (.tail _ (.tail _ (.head _)))
    · exact ho p hp _ (.tail _ (.tail _ (.tail _ (.head _))))
theorem ini_order {h₀ h : Heap} {L : Addr} {a1 a2 a3 a4 a5 a6 : Addr × Obj} {own : List (Addr × Obj)} (N : News h₀ L h (a1 :: a2 :: a3 :: a4 :: a5 :: a6 :: own)) : News h₀ L h (a1 :: a2 :: a5 :: a6 :: a3 :: a4 :: own) :=
  news_swap (a := [_, _]) (b := [_, _]) (news_swap (a := [_, _, _, _]) (b := [_, _]) N)
local macro_rules | `(tactic| walk_at "execs cons") => `(tactic| (k_here; (with_reducible show wpAny _ _ (execs iB _) _ _ _); refine halt ?_))
local macro_rules | `(tactic| walk_at "zz") => `(tactic| skip)
theorem split_spec {prog : Program} {w : World} {p : Program} {loose : List Str} {mean : ExcName → Option Value} {mg mb : Str → Option Value}
    {dp un : Nat} {gd : Option (List Code)} {cn : Str} {cs : Scope} {a : Addr} {ccd : Value} {cl : List (Str × Addr)} {outer : List Env} {A₀ : Around} {h₀ : Heap} {L : Addr} {m : Str → Option Value} {s : Shared} {Q E : Value → Shared → Prop}
    (B : Below A₀ h₀ outer h₀) (F : Fr h₀ L s.heap m) (X : (Kf w.params).In h₀) (T : Top p loose mean mg mb h₀) (hk : cs.kind = .function)
    {buf : List Nat} {tb : Tok} {own : List (Addr × Obj)} {cm : Bool} {out : List (List Nat)}
    (N : News h₀ L s.heap own)
    (hb : buf.length < 1000000) (hd : dp + 12 < recursionLimit) (hu : un + 200 < cLine) (hx : splitM cm buf = some out) (hlen : out.length ≤ 1000000)
    (hret : ∀ (S : Addr) (l' : List (Str × Tok)) (c' : Nat) (h' : Heap) (tk' : Nat), l'.map Prod.fst = out.map ofL → Fr h₀ L h' m → News h₀ L h' ((S, lstO (strValues l').toArray c') :: own) → (∀ p ∈ own, p.1 < S) →
        Q (.ref S) { s with heap := h', toks := tk' }) :
    wpAny (model prog w) (ktrTop dp un gd cn cs L a ccd cl outer) (call (.ref 744) [.str (ofL buf) tb, .bool cm]) Q E s := by
  refine wpAny_call ?_
  k_dflt (refine' code_defR ?k1 ?k2 ?k3 ?k4 ?k5 ?kA ?kF ?kK ?k6 ?k7 ?k8 ?k9 ?kE ?kB ?_ ?c2 ?c3 ?c4 ?c5; (case kA => exact rfl); (case kF => exact rfl); (case kK => first | exact rfl | assumption); (case k1 => k_asm); (case k2 => k_asm); (case k3 => k_asm); (case k4 => k_asm); (case k5 => k_asm); (case k6 => k_is); (case k7 => k_is); (case k8 => k_room); (case k9 => first | exact BindsTo.of_eq rfl | exact binds_K (by k_in) rfl (by k_is) rfl rfl rfl | fail "k_enter: no rule for these arguments"); (case kE => kp_lit); (case c5 => decide); (case kB => exact locs rfl); (case c2 => exact rfl); (case c3 => exact rfl); (case c4 => exact rfl); k_whole; intro g' L' h' tk' FG' F' N' B' X' T'; (try dsimp only); (try k_lift B'); (try k_fold))
  k_steps
  refine unhalt ?_
  rename News _ _ _ _ => N7
  have F7 := ‹Fr _ _ _ (fun y => if y = Str.ofString "instream" then _ else _)›
  refine init_tail F7 (by assumption) (by assumption) (news_swap (a := [_, _]) (b := [_, _]) N7) (by assumption) (off_ini (by assumption) (by assumption) (by assumption) (by assumption) (by assumption)) ?_
  clear F7 N7
  intro k0 k1 k2 k3 k4 k5 k6 k7 k8 k9 k10 k11 k12 k13 k14 k15 k16 k17 k18 v4 v5 v6 v8 v9 v10 v11 v13 v14 v15 v18 q1 q2 h8 tk8 m8 F8 N8 l7 l8
  have N8 := ini_order N8
  obtain ⟨b1, b2, b3, b4, b5⟩ := l7
  obtain ⟨c1, c2, c3, c4, c5, c6⟩ := l8
  k_steps
  all_goals
    refine unhalt ?_
    have hcm := ‹cm = _›
    subst hcm
    rename News _ _ _ _ => N9
    have N8 := split_back N9
    refine' list_own (by k_asm) (by k_asm) (by k_asm) (by k_asm) (by first | exact rfl | assumption) N8 (off_back (by assumption) ?_ ?_ ?_ ?_ ?_ ?_ ?_ ?_ ?_) ?_ ?_ ?_ ?_ ?_ ?_ hb rfl (by ktr_room) (by ktr_units) ?_ ?_ ?_ (.inl ⟨_, rfl, Nat.zero_le _, hx⟩) hlen ?_
    all_goals (try first | assumption | (apply Ne.symm; assumption) | (apply Nat.ne_of_gt; assumption) | decide | rfl)
    intro l' c' h9 tk9 e1 e2 e3 e4 e5
    obtain ⟨r1, r2, r3⟩ := split_end (by assumption) (by assumption) N N9 (fun p hp => .tail _ (.tail _ (.tail _ (.tail _ (.tail _ (.tail _ hp)))))) e2 e3 e4 e5
    k_steps
    all_goals exact hret _ l' c' h9 tk9 e1 r1 r2 r3
end
section
section
variable {prog : Program} {w : World} {A : Around} {E : Value → Shared → Prop} {s : Shared}
theorem wpAny_setItem_list_neg {l : Addr} {o : Obj} {items : Array Value} {ne : Nat} {k : Int} {t : Tok} {v : Value} {Q : Unit → Shared → Prop} (ho : s.heap.get? l = some o) (hc : o.cls = .type "list") (hd : o.data = .seq items ne)
    (h0 : k < 0) (h1 : -(items.size : Int) ≤ k) (hfit : -(2 ^ 63) ≤ k)
    (hQ : Q () { s with heap := s.heap.update l (Obj.mapSeq (·.setIfInBounds (k + items.size).toNat v)) }) :
    wpAny (model prog w) A (setItem (.ref l) (.int k t) v) Q E s := by
  have hl : s.heap.IsList l items := ⟨o, ho, hc, ne, hd⟩
  unfold setItem
  try with_reducible refine wpAny_holding ?_
  first | refine wpAny_bind (wpAny_pure ?_) | skip
  refine wpAny_bind (wpAny_sequenceKey hl.typeIs (by decide) ?_)
  refine wpAny_bind (wpAny_callSpecial?_slot (name := Str.ofString "__setitem__") hl.typeIs slot_list_setitem
    (wpAny_call_entry slot_list_setitem hl.typeIs entry_list_setitem ?_ (args_list_setitem _ _ _)))
  show wpAny _ _ (Builtin.List.listSubscript? (.int k t) >>= _) _ _ s
  refine wpAny_bind (wpAny_listSubscript_int (fitsIndex_neg h0 hfit) ?_)
  clear hfit
  have hidx := seqIndex_neg h0 h1
  have hlt : (k + items.size).toNat < items.size := by omega
  obtain ⟨j, rfl⟩ : ∃ j : Nat, k = Int.negSucc j := by
    cases k with
    | ofNat n => exact absurd h0 (Int.not_lt.mpr (Int.ofNat_nonneg n))
    | negSucc n => exact ⟨n, rfl⟩
  show wpAny _ _ ((Builtin.List.listItems (.ref l) >>= fun xs => pure ((seqIndex? (Int.negSucc j) xs.size).bind fun i => xs[i]?.map (i, ·))) >>= _) _ _ s
  refine wpAny_bind (wpAny_bind ?_)
  show wpAny _ _ (seqItems? (.ref l) >>= _) _ _ s
  refine wpAny_bind (wpAny_seqItems ho hd (wpAny_pure (wpAny_pure ?_)))
  rw [hidx]
  simp only [Option.bind_some, Array.getElem?_eq_getElem hlt, Option.map_some]
  show wpAny _ _ (setSeqItemAt l _ v >>= _) _ _ s
  refine wpAny_bind (wpAny_setSeqItemAt ho hd ?_)
  first
    | exact wpAny_bind (wpAny_pure (wpAny_pure ⟨.none, rfl, wpAny_pure hQ⟩))
    | exact wpAny_pure ⟨.none, rfl, wpAny_pure hQ⟩
variable {h₀ : Heap} {L : Addr} {m : Str → Option Value} {S : Addr} {l0 : List (Str × Tok)} {x : Str} {t u : Tok} {c : Nat} {post : List (Addr × Obj)}
theorem getItem_last {news : List (Addr × Obj)} {Q : Value → Shared → Prop} (N : News h₀ L s.heap news) (hm : (S, lstO (strValues (l0 ++ [(x, t)])).toArray c) ∈ news) (hn : l0.length < 1000000) (h : Q (.str x t) s) :
    wpAny (model prog w) A (getItem (.ref S) (.int (-1) u)) Q E s := by
  have hsz : (strValues (l0 ++ [(x, t)])).toArray.size = l0.length + 1 := by simp [strValues]
  refine wpAny_getItem_list_neg (items := (strValues (l0 ++ [(x, t)])).toArray) ⟨_, (N _ hm).1, rfl, _, rfl⟩ (by omega) (by rw [hsz]; omega) (by omega) ?_ h
  rw [hsz]
  have : (-1 + ((l0.length + 1 : Nat) : Int)).toNat = l0.length := by omega
  rw [this]
  simp [strValues]
theorem setItem_last {y : Str} {r : Tok} {Q : Unit → Shared → Prop} {news : List (Addr × Obj)} {g : Obj → List (Addr × Obj)} (F : Fr h₀ L s.heap m) (N : News h₀ L s.heap news) (U : UpdF S (lstO (strValues (l0 ++ [(x, t)])).toArray c) news g) (hn : l0.length < 1000000)
    (h : ∀ c' h', Fr h₀ L h' m → News h₀ L h' (g (lstO (strValues (l0 ++ [(y, r)])).toArray c')) → Q () { s with heap := h' }) :
    wpAny (model prog w) A (setItem (.ref S) (.int (-1) u) (.str y r)) Q E s := by
  obtain ⟨pre, post, rfl, hg, h1, h2⟩ := U.split
  have hsz : (strValues (l0 ++ [(x, t)])).toArray.size = l0.length + 1 := by simp [strValues]
  refine wpAny_setItem_list_neg (N (S, _) (List.mem_append.mpr (.inr (.head _)))).1 rfl rfl (by omega) (by rw [hsz]; omega) (by omega) ?_
  rw [hsz]
  have : (-1 + ((l0.length + 1 : Nat) : Int)).toNat = l0.length := by omega
  rw [this]
  obtain ⟨c2, hc2⟩ : ∃ c2, Obj.mapSeq (·.setIfInBounds l0.length (.str y r)) (lstO (strValues (l0 ++ [(x, t)])).toArray c) = lstO (strValues (l0 ++ [(y, r)])).toArray c2 := ⟨_, by
    have : (strValues (l0 ++ [(x, t)])).toArray.setIfInBounds l0.length (.str y r) = (strValues (l0 ++ [(y, r)])).toArray := by
      simp [strValues]
    simp only [Obj.mapSeq, this]
    rfl⟩
  obtain ⟨F2, N2⟩ := news_upd (f := Obj.mapSeq (·.setIfInBounds l0.length (.str y r))) F N h1 h2 hc2 rfl
  exact h c2 _ F2 (by rw [hg]; exact N2)
theorem append_own {acc : Array Value} {v : Value} {Q : Value → Shared → Prop} {news : List (Addr × Obj)} {g : Obj → List (Addr × Obj)} (F : Fr h₀ L s.heap m) (N : News h₀ L s.heap news) (U : UpdF S (lstO acc c) news g) (hn : acc.size < 1000000)
    (h : ∀ c' h', Fr h₀ L h' m → News h₀ L h' (g (lstO (acc.push v) c')) → Q .none { s with heap := h' }) :
    wpAny (model prog w) A (call (.builtin "list.append") [.ref S, v]) Q E s := by
  obtain ⟨pre, post, rfl, hg, h1, h2⟩ := U.split
  have z := N (S, lstO acc c) (List.mem_append.mpr (.inr (.head _)))
  refine append_at (hsz := by show _ ≤ 2 ^ 24; omega) z.1 fun h' hs ho' => h (c + 1) h' (F.change hs z.2.1 z.2.2) ?_
  rw [hg]
  exact news_set N h1 h2 hs ho'
end
theorem push_strs (l : List (Str × Tok)) (x : Str) (t : Tok) : (strValues l).toArray.push (.str x t) = (strValues (l ++ [(x, t)])).toArray := by simp [strValues]
theorem allLt_off {S : Addr} : ∀ {own : List (Addr × Obj)}, AllLt S own → OwnOff own [S]
  | [], _ => fun _ hp => nomatch hp
  | p :: r, h => fun q hq b hb => by
    simp only [List.mem_cons, List.not_mem_nil, or_false] at hb
    subst hb
    rcases List.mem_cons.mp hq with rfl | hq
    · exact Nat.ne_of_lt h.1
    · exact allLt_off h.2 q hq _ (by simp)
section
local macro_rules | `(tactic| walk_at "exec For Name Name cons nil") => `(tactic| (k_here; refine for_start ?_))
local macro_rules | `(tactic| walk_at "pyIter ref") => `(tactic| (k_here; refine halt ?_))
abbrev MW (S D : Addr) (nv kv ov : Option Value) : Str → Option Value := fun y =>
  if y = Str.ofString "octet" then ov else if y = Str.ofString "kind" then kv else if y = Str.ofString "number" then nv else if y = Str.ofString "words" then some (.ref S) else if y = Str.ofString "numbers" then some (.ref D) else none
theorem MW_start {S D : Addr} {f : Str → Option Value} (h0 : f (Str.ofString "numbers") = some (.ref D)) (h1 : ∀ y, y ≠ Str.ofString "numbers" → f y = none) :
    (fun y => if y = Str.ofString "words" then some (.ref S) else f y) = MW S D none none none :=
  have g : ∀ x ∈ ["octet", "kind", "number"], f (Str.ofString x) = none := fun x hx => h1 _ ((by decide +kernel : ∀ x ∈ ["octet", "kind", "number"], Str.ofString x ≠ Str.ofString "numbers") x hx)
  chain_from (l1 := [(_, _)]) (l2 := [(_, _), (_, _), (_, _), (_, _), (_, _)]) [(_, _), (_, _), (_, _), (_, _)] ⟨h0, g _ (.head _), g _ (.tail _ (.head _)), g _ (.tail _ (.tail _ (.head _))), trivial⟩ (fun y h => h1 y (h (_, _) (.tail _ (.head _)))) (by kernel_rfl)
theorem MW_turn {S D : Addr} {nv kv ov x y z : Option Value} :
    (fun q => if q = Str.ofString "octet" then z else if q = Str.ofString "kind" then y else if q = Str.ofString "number" then x else MW S D nv kv ov q) = MW S D x y z :=
  chain_eq (l1 := [(_, _), (_, _), (_, _), (_, _), (_, _), (_, _)]) (l2 := [(_, _), (_, _), (_, _)]) (by kernel_rfl)
abbrev SgW := List (Str × Tok) × Nat × Option Value × Option Value × Option Value
abbrev WordsOk (i : Nat) (l : List (Str × Tok)) : Prop := ∃ ws : List (List Nat), l.map Prod.fst = ws.map ofL ∧ ws ≠ [] ∧ ws.length ≤ i + 1 ∧ ∀ u ∈ ws, u.length ≤ i ∧ ∀ c ∈ u, c < 256 ∧ c ≠ 10 ∧ c ≠ 13
theorem mem_int {vs : List Value} (hv : ∀ v ∈ vs, ∃ (n : Int) (t : Tok), v = .int n t) {i : Nat} {x : Value} (h : vs[i]? = some x) : ∃ (n : Int) (t : Tok), x = .int n t := hv x (List.mem_of_getElem? h)
theorem tab_sign {n : Int} (h1 : ¬ n.fmod 16 < 3) (h2 : n.fmod 16 < 13) : ∃ c : Nat, Txt.item (Str.ofString "'\"\\ \t#=aé~") (n.fmod 16 - 3) = ofL [c] ∧ c < 256 ∧ c ≠ 10 ∧ c ≠ 13 := by
  have key : ∀ k : Fin 10, Txt.item (Str.ofString "'\"\\ \t#=aé~") ((k.1 : Nat) : Int) = ofL [[39, 34, 92, 32, 9, 35, 61, 97, 233, 126].getD k.1 0] ∧ [39, 34, 92, 32, 9, 35, 61, 97, 233, 126].getD k.1 0 < 256 ∧
      [39, 34, 92, 32, 9, 35, 61, 97, 233, 126].getD k.1 0 ≠ 10 ∧ [39, 34, 92, 32, 9, 35, 61, 97, 233, 126].getD k.1 0 ≠ 13 := by decide +kernel
  obtain ⟨k, hk⟩ := Int.eq_ofNat_of_zero_le (show 0 ≤ n.fmod 16 - 3 by omega)
  rw [hk]
  exact ⟨_, key ⟨k, by omega⟩⟩
theorem iadd_tab {prog : Program} {w : World} {A : Around} {E : Value → Shared → Prop} {s : Shared} {a : List Nat} {n : Int} {t u : Tok} {Q : Value → Shared → Prop} (h1 : ¬ n.fmod 16 < 3) (h2 : n.fmod 16 < 13) (hl : a.length < 1000000)
    (h : ∀ (c : Nat) t' k, c < 256 ∧ c ≠ 10 ∧ c ≠ 13 → Q (.str (ofL (a ++ [c])) t') { s with toks := k }) :
    wpAny (model prog w) A (inplaceOp .Add (.str (ofL a) t) (.str (Txt.item (Str.ofString "'\"\\ \t#=aé~") (n.fmod 16 - 3)) u)) Q E s := by
  obtain ⟨c, e, hc⟩ := tab_sign h1 h2
  rw [e]
  exact iadd_ofL hl (by simp) fun t' k => h c t' k hc
local macro_rules | `(tactic| walk_at "call builtin:list.append") => `(tactic| (k_here; k_dflt (refine' append_own ?k1 ?k2 ?k3 ?k4 ?_; (case k1 | k2 => k_asm); (case k3 => k_updF); (case k4 => assumption)); intro c9 h9 F9 N9; (try rw [push_strs] at N9)))
local macro_rules | `(tactic| walk_at "getItem ref int") => `(tactic| (k_here; k_dflt (refine' getItem_last ?k1 ?k2 ?k3 ?_; (case k1 => k_asm); (case k2 => repeat (first | exact List.mem_cons_self | apply List.mem_cons_of_mem)); (case k3 => assumption))))
local macro_rules | `(tactic| walk_at "setItem ref int") => `(tactic| (k_here; k_dflt (refine' setItem_last ?k1 ?k2 ?k3 ?k4 ?_; (case k1 | k2 => k_asm); (case k3 => k_updF); (case k4 => assumption)); intro c9 h9 F9 N9))
local macro_rules | `(tactic| walk_at "inplaceOp Add str str") => `(tactic| (k_here; (with_reducible show wpAny _ _ (inplaceOp _ (Value.str (ofL _) _) (Value.str (ofL [_]) _)) _ _ _); refine iadd_ofL (by assumption) (by simp) ?_; intro t9 k9))
local macro_rules | `(tactic| walk_at "inplaceOp Add str str") => `(tactic| (k_here; (with_reducible show wpAny _ _ (inplaceOp _ (Value.str (ofL _) _) (Value.str (Txt.item _ _) _)) _ _ _); refine iadd_tab (by assumption) (by assumption) (by assumption) ?_; intro x9 t9 k9 hc9))
theorem wok_same {i : Nat} {l : List (Str × Tok)} (h : WordsOk i l) : WordsOk (i + 1) l := by
  obtain ⟨ws, h1, h2, h3, h4⟩ := h
  exact ⟨ws, h1, h2, by omega, fun u hu => ⟨by have := (h4 u hu).1; omega, (h4 u hu).2⟩⟩
theorem wok_app {i : Nat} {l : List (Str × Tok)} {t : Tok} (h : WordsOk i l) : WordsOk (i + 1) (l ++ [(Str.ofString "", t)]) := by
  obtain ⟨ws, h1, h2, h3, h4⟩ := h
  refine ⟨ws ++ [[]], by simp [h1, empty_eq], by simp, by simp; omega, fun u hu => ?_⟩
  rcases List.mem_append.mp hu with hu | hu
  · exact ⟨by have := (h4 u hu).1; omega, (h4 u hu).2⟩
  · simp only [List.mem_cons, List.not_mem_nil, or_false] at hu
    subst hu
    exact ⟨by simp, by simp⟩
theorem wok_ext {i : Nat} {l0 : List (Str × Tok)} {ws0 : List (List Nat)} {u : List Nat} {c : Nat} {t : Tok} (g1 : l0.map Prod.fst = ws0.map ofL) (e3 : ws0.length + 1 ≤ i + 1)
    (e4 : ∀ v ∈ ws0.concat u, v.length ≤ i ∧ ∀ c ∈ v, c < 256 ∧ c ≠ 10 ∧ c ≠ 13) (hc : c < 256 ∧ c ≠ 10 ∧ c ≠ 13) : WordsOk (i + 1) (l0 ++ [(ofL (u ++ [c]), t)]) := by
  refine ⟨ws0 ++ [u ++ [c]], by simp [g1], by simp, by simp; omega, fun v hv => ?_⟩
  rw [List.concat_eq_append] at e4
  rcases List.mem_append.mp hv with hv | hv
  · have := e4 v (List.mem_append.mpr (.inl hv))
    exact ⟨by omega, this.2⟩
  · simp only [List.mem_cons, List.not_mem_nil, or_false] at hv
    subst hv
    have := e4 u (by simp)
    refine ⟨by simp; omega, fun d hd => ?_⟩
    rcases List.mem_append.mp hd with hd | hd
    · exact this.2 d hd
    · simp only [List.mem_cons, List.not_mem_nil, or_false] at hd
      subst hd
      exact hc
theorem oct_ok {n : Int} (h : ([10, 13].any fun x => x == (n.fdiv 16).fmod 256) = false) : ((n.fdiv 16).fmod 256).toNat < 256 ∧ ((n.fdiv 16).fmod 256).toNat ≠ 10 ∧ ((n.fdiv 16).fmod 256).toNat ≠ 13 := by
  have h0 : (n.fdiv 16).fmod 256 < 256 := Int.fmod_lt_of_pos _ (by decide)
  obtain ⟨k, hk⟩ := Int.eq_ofNat_of_zero_le (Int.fmod_nonneg_of_pos (n.fdiv 16) (by decide : (0 : Int) < 256))
  rw [hk] at h h0 ⊢
  refine ⟨Int.ofNat_lt.mp h0, fun e => ?_, fun e => ?_⟩
  · rw [show k = 10 from e] at h
    exact absurd h (by decide)
  · rw [show k = 13 from e] at h
    exact absurd h (by decide)
theorem words_leaf {h₀ : Heap} {L S D : Addr} {own' news : List (Addr × Obj)} {s : Shared} {Q : Flow → Shared → Prop} {h' : Heap} {tk' c' i : Nat} {l' : List (Str × Tok)} {nv kv ov x y z : Option Value}
    (F9 : Fr h₀ L h' (fun q => if q = Str.ofString "octet" then z else if q = Str.ofString "kind" then y else if q = Str.ofString "number" then x else MW S D nv kv ov q)) (N9 : News h₀ L h' news)
    (hs : ∀ q ∈ (S, lstO (strValues l').toArray c') :: own', q ∈ news) (hw : WordsOk i l') :
    ForPost (σ := SgW) h₀ L (fun a => [(S, lstO (strValues a.1).toArray a.2.1)]) (fun a => MW S D a.2.2.1 a.2.2.2.1 a.2.2.2.2) (fun a => WordsOk i a.1) own' s Q .next { s with heap := h', toks := tk' } :=
  ⟨(l', c', x, y, z), h', tk', rfl, frc F9 MW_turn, fun q hq => N9 q (hs q hq), hw⟩
theorem words_spec {prog : Program} {w : World} {p : Program} {loose : List Str} {mean : ExcName → Option Value} {mg mb : Str → Option Value}
    {dp un : Nat} {gd : Option (List Code)} {cn : Str} {cs : Scope} {a : Addr} {ccd : Value} {cl : List (Str × Addr)} {outer : List Env} {A₀ : Around} {base h₀ : Heap} {L : Addr} {m : Str → Option Value} {s : Shared} {Q E : Value → Shared → Prop}
    (B : Below A₀ base outer h₀) (F : Fr h₀ L s.heap m) (X : (Kf w.params).In h₀) (T : Top p loose mean mg mb h₀) (hk : cs.kind = .function)
    {D : Addr} {vs : List Value} {c0 : Nat} {own : List (Addr × Obj)} 
    (N : News h₀ L s.heap ((D, lstO vs.toArray c0) :: own)) (hv : ∀ v ∈ vs, ∃ (n : Int) (t : Tok), v = .int n t) (hlen : vs.length < 1000)
    (hd : dp + 4 < recursionLimit) (hu : un + 60 < cLine)
    (hret : ∀ (S : Addr) (l : List (Str × Tok)) (c : Nat) (ws : List (List Nat)) (h' : Heap) (tk' : Nat), Fr h₀ L h' m → News h₀ L h' ((S, lstO (strValues l).toArray c) :: (D, lstO vs.toArray c0) :: own) → AllLt S own →
      l.map Prod.fst = ws.map ofL → ws ≠ [] → ws.length ≤ vs.length + 1 → (∀ u ∈ ws, u.length ≤ vs.length ∧ ∀ c ∈ u, c < 256 ∧ c ≠ 10 ∧ c ≠ 13) → Q (.ref S) { s with heap := h', toks := tk' }) :
    wpAny (model prog w) (ktrTop dp un gd cn cs L a ccd cl outer) (call (.ref 802) [.ref D]) Q E s := by
  refine wpAny_call ?_
  k_dflt k_enter
  k_steps
  rename News _ _ _ _ => N9
  have F9 := frc ‹Fr _ _ _ (fun y => if y = Str.ofString "words" then _ else _)› (MW_start rfl (fun y hy => look1 hy))
  rename_i S _ l9 _ _
  refine unhalt ?_
  refine loop_list (σ := SgW) (fun a => [(S, lstO (strValues a.1).toArray a.2.1)]) (fun a => MW S D a.2.2.1 a.2.2.2.1 a.2.2.2.2) (fun i a => WordsOk i a.1) [S] (vs := vs) (own := (D, lstO vs.toArray c0) :: own) (a₀ := ([(Str.ofString "", _)], 0, none, none, none)) rfl (by first | passes_own | with_unfolding_all passes_own) ?_ (.inl ⟨_, .head _⟩) ?_ ?_ ?_ F9 N9 ?_ ?_ ?_
  · exact ⟨_, (N9 _ (.tail _ (.head _))).1, rfl, _, rfl⟩
  · intro i a _ p hp
    simp only [List.mem_cons, List.not_mem_nil, or_false] at hp
    subst hp
    exact fun e => absurd (Value.type.inj e) (by decide)
  · intro b hb
    simp only [List.mem_cons, List.not_mem_nil, or_false] at hb
    subst hb
    exact ⟨_, .head _⟩
  · exact allLt_off (own := (D, lstO vs.toArray c0) :: own) l9
  · exact ⟨[[]], by simp [empty_eq], by simp, by simp, by simp⟩
  · rintro i x ⟨l, c, nv, kv, ov⟩ h tk own' hx ⟨ws, e1, e2, e3, e4⟩ hsub hoff F1 N1
    obtain ⟨n, t, rfl⟩ := mem_int hv hx
    clear F9 N9
    dsimp only [List.cons_append, List.nil_append] at F1 N1
    rcases List.eq_nil_or_concat ws with rfl | ⟨ws0, u, rfl⟩
    · exact absurd rfl e2
    obtain ⟨l0, p0, rfl, g1, g2⟩ : ∃ l0 p0, l = l0 ++ [p0] ∧ l0.map Prod.fst = ws0.map ofL ∧ p0.1 = ofL u := by
      rw [List.concat_eq_append, List.map_append] at e1
      obtain ⟨l1, l2, rfl, h1, h2⟩ := List.map_eq_append_iff.mp e1
      rw [List.map_cons, List.map_nil] at h2
      obtain ⟨p0, l3, rfl, h3, h4⟩ := List.map_eq_cons_iff.mp h2
      rw [List.map_eq_nil_iff] at h4
      subst h4
      exact ⟨l1, p0, rfl, h1, h3⟩
    obtain ⟨x0, t0⟩ := p0
    dsimp only at g2
    subst g2
    have hi : i < 1000 := Nat.lt_trans (List.getElem?_eq_some_iff.mp hx).1 hlen
    have hl0 : l0.length = ws0.length := by simpa using congrArg List.length g1
    rw [List.concat_eq_append, List.length_append] at e3
    simp only [List.length_cons, List.length_nil] at e3
    have hu0 := e4 u (by simp [List.concat_eq_append])
    have z1 : l0.length < 1000000 := by omega
    have z2 : u.length < 1000000 := by omega
    have z3 : (strValues (l0 ++ [(ofL u, t0)])).toArray.size < 1000000 := by simp [strValues]; omega
    k_steps
    all_goals
      refine' words_leaf (by assumption) (by assumption) (fun q hq => by first | exact hq | exact List.mem_cons_of_mem _ hq) ?_
      first | exact wok_app ⟨_, e1, e2, by simp [List.concat_eq_append]; omega, e4⟩ | exact wok_ext g1 e3 e4 (by assumption) | exact wok_ext g1 e3 e4 (oct_ok (by assumption)) | exact wok_same ⟨_, e1, e2, by simp [List.concat_eq_append]; omega, e4⟩
  · rintro ⟨l, c, nv, kv, ov⟩ h tk ⟨ws, e1, e2, e3, e4⟩ F1 N1
    clear F9 N9
    dsimp only [List.cons_append, List.nil_append] at F1 N1
    k_steps
    all_goals exact hret S l c ws h tk (by assumption) (by assumption) l9.2 e1 e2 (by omega) fun u hu => ⟨by have := (e4 u hu).1; omega, (e4 u hu).2⟩
end
end
end
end
end
section
open PySem PySem.W PyProof.Rows PySem.Builtin PySem.Builtin.Re PySem.Sre
def cq : Array Nat := #[14, 17, 4, 1, 1, 21, 9, 0, 604043296, 1, 0, 0, 0, 0, 0, 8, 4, 0, 13, 14, 21, 9, 0, 604043296, 1, 0, 0, 0, 0, 0, 8, 4, 0, 1]
theorem word_small {c : Nat} (h : isWord c = true) : c < 123 := by
  rcases Bool.or_eq_true _ _ ▸ h with h | h
  · rcases Bool.or_eq_true _ _ ▸ h with h | h
    · rcases Bool.or_eq_true _ _ ▸ h with h | h
      · exact Nat.lt_of_le_of_lt (of_decide_eq_true (Bool.and_eq_true _ _ ▸ h).2) (by decide)
      · exact Nat.lt_of_le_of_lt (of_decide_eq_true (Bool.and_eq_true _ _ ▸ h).2) (by decide)
    · exact Nat.lt_of_le_of_lt (of_decide_eq_true (Bool.and_eq_true _ _ ▸ h).2) (by decide)
  · exact eq_of_beq h ▸ (by decide : 95 < 123)
theorem word_at (i : Nat) (hi : i = 6 ∨ i = 21) (c : Nat) : ((decide (c < 256) && (cq.getD (i + (1 + c / 32)) 0).testBit (c % 32)) || (isWord c != false)) = safeC c := by
  rcases Nat.lt_or_ge c 256 with h | h
  · rcases hi with rfl | rfl
    · exact (by decide +kernel : ∀ c : Fin 256, ((decide (c.1 < 256) && (cq.getD (6 + (1 + c.1 / 32)) 0).testBit (c.1 % 32)) || (isWord c.1 != false)) = safeC c.1) ⟨c, h⟩
    · exact (by decide +kernel : ∀ c : Fin 256, ((decide (c.1 < 256) && (cq.getD (21 + (1 + c.1 / 32)) 0).testBit (c.1 % 32)) || (isWord c.1 != false)) = safeC c.1) ⟨c, h⟩
  · have h1 : ¬ c < 123 := fun e => absurd (Nat.lt_of_le_of_lt h e) (by decide)
    rw [Bool.eq_false_iff.mpr fun e => h1 (word_small e), Bool.eq_false_iff.mpr fun e => h1 (safe_small e), decide_eq_false (Nat.not_lt_of_le h)]
    rfl
theorem set5 (c : Nat) (seen : Sre.Seen) : inSet cq c 34 5 true seen = if (decide (c < 256) && (cq.getD (6 + (1 + c / 32)) 0).testBit (c % 32)) = true then .ok (false, (seen.add 21).add 9) else
    if (isWord c != false) = true then .ok (false, (((seen.add 21).add 9).add 8).add 59) else .ok (true, ((((seen.add 21).add 9).add 8).add 59).add 0) := by kernel_rfl
theorem set20 (c : Nat) (seen : Sre.Seen) : inSet cq c 34 20 true seen = if (decide (c < 256) && (cq.getD (21 + (1 + c / 32)) 0).testBit (c % 32)) = true then .ok (false, (seen.add 21).add 9) else
    if (isWord c != false) = true then .ok (false, (((seen.add 21).add 9).add 8).add 59) else .ok (true, ((((seen.add 21).add 9).add 8).add 59).add 0) := by kernel_rfl
theorem set_or {a b : Bool} {s1 s2 s3 : Sre.Seen} : ∃ s', (if a = true then .ok (false, s1) else if b = true then .ok (false, s2) else .ok (true, s3) : Except String (Bool × Sre.Seen)) = .ok (!(a || b), s') := by
  cases a
  · cases b
    · exact ⟨_, rfl⟩
    · exact ⟨_, rfl⟩
  · exact ⟨_, rfl⟩
theorem set_at (b : Nat) (hb : b = 5 ∨ b = 20) (c : Nat) (seen : Sre.Seen) : ∃ seen', inSet cq c cq.size b true seen = .ok (!safeC c, seen') := by
  rcases hb with rfl | rfl
  · rw [show cq.size = 34 from rfl, set5, ← word_at 6 (.inl rfl) c]
    exact set_or
  · rw [show cq.size = 34 from rfl, set20, ← word_at 21 (.inr rfl) c]
    exact set_or
theorem admitted_ok (m : M) (hc : m.code = cq) : ∀ (fuel s : Nat) (seen : Sre.Seen), m.lim < s + fuel → ∃ r seen', M.admitted m fuel s seen = .ok (r, seen') ∧
    ((r = none ∧ ∀ j, s ≤ j → j < m.lim → safeC (m.text.getD j 0) = true) ∨ ∃ k, r = some k ∧ s ≤ k ∧ k < m.lim ∧ safeC (m.text.getD k 0) = false)
  | 0, s, seen, h => ⟨none, seen, rfl, .inl ⟨rfl, fun j h1 h2 => by omega⟩⟩
  | fuel + 1, s, seen, h => by
    rw [M.admitted]
    by_cases h1 : s ≥ m.lim
    · rw [if_pos h1]
      exact ⟨none, seen, rfl, .inl ⟨rfl, fun j h2 h3 => by omega⟩⟩
    · rw [if_neg h1, hc]
      obtain ⟨seen1, e1⟩ := set_at 5 (.inl rfl) (m.text.getD s 0) seen
      rw [e1]
      cases hs : safeC (m.text.getD s 0) with
      | false => exact ⟨some s, seen1, rfl, .inr ⟨s, rfl, Nat.le_refl _, by omega, hs⟩⟩
      | true =>
        obtain ⟨r, seen2, e2, h2⟩ := admitted_ok m hc fuel (s + 1) seen1 (by omega)
        refine ⟨r, seen2, e2, ?_⟩
        rcases h2 with ⟨rfl, h3⟩ | ⟨k, rfl, h3, h4, h5⟩
        · refine .inl ⟨rfl, fun j h4 h5 => ?_⟩
          rcases Nat.lt_or_eq_of_le h4 with h6 | rfl
          · exact h3 j h6 h5
          · exact hs
        · exact .inr ⟨k, rfl, by omega, h4, h5⟩
noncomputable def m0 (t : Array Nat) : M := { code := cq, text := t, lim := t.size, start := 0, lastStart := t.size, pc := 18, pos := 0, handed := 0, marks := #[], seen := ({} : Sre.Seen).add 14 }
theorem m_step {t : Array Nat} {seen1 seen2 : Sre.Seen} {k : Nat} (m : M) (e3 : accepts cq 18 (t.getD k 0) (seen1.add 13) = .ok (true, seen2)) (hk : k < t.size) (a1 : m.code = cq) (a2 : m.text = t) (a3 : m.lim = t.size) (a4 : m.pc = 18) (a5 : m.pos = k)
    (a6 : m.outcome = none) (a7 : m.answer = none) (a8 : m.seen = seen1) : m.step = { m with seen := seen2, pc := 33, pos := k + 1 } := by
  obtain ⟨code, text, lim, start, ls, wt, ma, pc, pos, handed, om, marks, lm, li, loops, inner, frames, weight, answer, seen, outcome⟩ := m
  dsimp only at a1 a2 a3 a4 a5 a6 a7 a8
  subst a1 a2 a3 a4 a5 a6 a7 a8
  have e3 : accepts cq 18 (text.getD pos 0) (seen.add (cq.getD (18 + 0) 0)) = .ok (true, seen2) := e3
  unfold M.step
  dsimp only
  rw [if_neg (by exact Bool.false_ne_true), if_pos (by decide)]
  unfold M.exec
  dsimp only [M.word]
  rw [show ops[cq.getD (18 + 0) 0]? = some Op.IN from rfl]
  dsimp only
  rw [if_neg (Nat.not_le_of_lt hk), e3]
  rfl
theorem found_run (t : Array Nat) (hn : 0 < t.size) :
    ((∀ j, j < t.size → safeC (t.getD j 0) = true) ∧ ((forSearch cq t 0 0 t.size false).runFor 4).outcome = some .failed) ∨
    ((∃ j, j < t.size ∧ safeC (t.getD j 0) = false) ∧ ((forSearch cq t 0 0 t.size false).runFor 4).outcome = some .matched) := by
  have h0 : forSearch cq t 0 0 t.size false = if (0 > t.size || t.size - 0 < 1) = true then _ else M.attemptFrom (m0 t) 0 true := rfl
  rw [h0, if_neg (fun h => by simp only [Bool.or_eq_true, decide_eq_true_eq] at h; omega)]
  have h1 : M.attemptFrom (m0 t) 0 true = match M.admitted (m0 t) ((m0 t).lim + 1 - 0) 0 (m0 t).seen with
      | .ok (some s, seen) => M.attemptAt { m0 t with mustAdvance := false, seen } s true
      | .ok (none, seen) => M.say { m0 t with seen } false
      | .error why => (m0 t).stick why := rfl
  rw [h1]
  obtain ⟨r, seen1, e1, h2⟩ := admitted_ok (m0 t) rfl ((m0 t).lim + 1 - 0) 0 (m0 t).seen (by rw [Nat.zero_add]; exact Nat.lt_succ_self _)
  rw [e1]
  rcases h2 with ⟨rfl, h3⟩ | ⟨k, rfl, h3, h4, h5⟩
  · exact .inl ⟨fun j hj => h3 j (Nat.zero_le _) hj, rfl⟩
  · refine .inr ⟨⟨k, h4, h5⟩, ?_⟩
    obtain ⟨seen2, e2⟩ := set_at 20 (.inr rfl) (t.getD k 0) (seen1.add 13)
    rw [show safeC (t.getD k 0) = false from h5] at e2
    show (M.runFor 4 _).outcome = _
    rw [M.runFor, if_neg (by exact Bool.false_ne_true), m_step _ e2 h4 rfl rfl rfl rfl rfl rfl rfl rfl]
    rfl
section
variable {prog : Program} {w : World} {A : Around} {E : Value → Shared → Prop} {s : Shared}
theorem rules_skip {Q : Unit → Shared → Prop} (f : Nat → Bool) (nm : Nat → String) : ∀ (l : List Nat), Q () s → wpAny (model prog w) A (forIn l PUnit.unit (fun i _ => if f i = true then (rule (nm i) >>= fun _ => pure (ForInStep.yield PUnit.unit)) else pure (ForInStep.yield PUnit.unit))) Q E s
  | [], h => wpAny_pure h
  | i :: r, h => by
    rw [List.forIn_cons]
    refine wpAny_bind ?_
    by_cases hf : f i = true
    · rw [if_pos hf]
      exact wpAny_bind (wpAny_rule (wpAny_pure (rules_skip f nm r h)))
    · rw [if_neg hf]
      exact wpAny_pure (rules_skip f nm r h)
theorem run_end {m : M} {Q : Option M → Shared → Prop} {b : Bool} (h0 : (m.runFor 4).outcome = some (if b then .matched else .failed))
    (h : Q (if b then some (m.runFor 4) else none) s) : wpAny (model prog w) A (reRunToEnd m) Q E s := by
  unfold reRunToEnd
  have e : reDrive (2 ^ 64) m = pure (m.runFor 4) := by
    show reDrive (18446744073709551615 + 1) m = _
    rw [reDrive]
    show (if (m.runFor 4).outcome.isSome = true then pure (m.runFor 4) else _) = _
    rw [h0]
    exact if_pos rfl
  rw [e]
  refine wpAny_bind (wpAny_pure (wpAny_bind ?_))
  refine rules_skip _ _ _ ?_
  rw [h0]
  cases b
  · exact wpAny_pure h
  · exact wpAny_pure h
noncomputable def patO : Obj := { cls := .type "re.Pattern", dict := none, data := .fields #[.str s272 332, .int 256 369, .int 0 0, .none, .none, .ref 48, .int 0 0] }
def codeV : Array Value := (cq.toList.map fun n : Nat => Value.int (n : Int) 0).toArray
def codeO : Obj := { cls := .type "tuple", dict := none, data := .seq codeV 0 }
theorem named (x : Value) : reNamed "re.Pattern.search" "search" ["string", "pos", "endpos"] 1 [x] [] = pure [some x, none, none] := by kernel_rfl
theorem code_back : Array.map (fun x => x.toNat) (Array.map reRawOf ((some codeV).getD #[])) = cq := by decide +kernel
theorem search_run {u : List Nat} {t : Tok} {Q : PySem.Fin → Shared → Prop} (hu : u ≠ []) (hl : u.length < 1000000) (h49 : s.heap.get? 49 = some patO) (h48 : s.heap.get? 48 = some codeO)
    (hq1 : (u.all safeC) = true → Q (.done (.ret .none)) s) (hq2 : (u.all safeC) = false → ∀ (x : Addr) (o1 o2 : Obj), Q (.done (.ret (.ref x))) { s with heap := (s.heap.push o1).push o2 }) :
    wpAny (model prog w) A (Builtin.«re.Pattern.search» ⟨[.ref 49, .str (ofL u) t], []⟩) Q E s := by
  unfold Builtin.«re.Pattern.search» reTarget
  refine wpAny_bind (wpAny_bind (wpAny_of_eq (named _) ?_))
  dsimp only
  refine wpAny_bind (wpAny_pure (wpAny_bind (wpAny_pure ?_)))
  refine wpAny_bind (wpAny_fieldsOf h49 rfl ?_)
  refine wpAny_bind (wpAny_of_eq (a := (u.toArray, 0)) rfl ?_)
  dsimp only
  show wpAny _ _ (reNoCollectionInside (.str (ofL u) t) 0 >>= _) _ _ _
  refine wpAny_bind (wpAny_of_eq (a := ()) rfl ?_)
  show wpAny _ _ (reRawItems (.ref 48) >>= _) _ _ _
  unfold reRawItems
  refine wpAny_bind (wpAny_bind (wpAny_seqItems h48 rfl (wpAny_pure (wpAny_pure ?_))))
  have hn : u.toArray.size = u.length := by simp
  have e1 : min (0 : Int).toNat u.toArray.size = 0 := by simp
  have e2 : min ((2 : Int) ^ 63 - 1).toNat u.toArray.size = u.toArray.size := by
    rw [hn]
    apply Nat.min_eq_right
    have : ((2 : Int) ^ 63 - 1).toNat = 9223372036854775807 := by decide +kernel
    omega
  rw [code_back, e1, e2]
  show wpAny _ _ (reAnswer ⟨.ref 49, .str (ofL u) t, cq, u.toArray, 0, 0, 0, u.toArray.size⟩ (forSearch cq u.toArray 0 0 u.toArray.size false)) _ _ _
  have hall : (∀ j, j < u.toArray.size → safeC (u.toArray.getD j 0) = true) ↔ u.all safeC = true := by
    rw [hn, List.all_eq_true]
    constructor
    · intro h c hc
      obtain ⟨j, hj, e⟩ := List.getElem_of_mem hc
      have := h j hj
      simpa [Array.getD, hj, e] using this
    · intro h j hj
      have := h u[j] (List.getElem_mem hj)
      simpa [Array.getD, hj] using this
  unfold reAnswer
  rcases found_run u.toArray (by rw [hn]; exact List.length_pos_iff.mpr hu) with ⟨h1, h2⟩ | ⟨⟨j, hj, h1⟩, h2⟩
  · refine wpAny_bind (run_end (b := false) h2 ?_)
    exact wpAny_pure (hq1 (hall.mp h1))
  · refine wpAny_bind (run_end (b := true) h2 ?_)
    have hf : u.all safeC = false := by
      cases h : u.all safeC with
      | false => rfl
      | true =>
        have := hall.mpr h j hj
        rw [h1] at this
        cases this
    show wpAny _ _ (reNewMatch _ _ _ _ _ _ >>= fun x => ret x) _ _ _
    unfold reNewMatch
    generalize M.runFor 4 (forSearch cq u.toArray 0 0 u.toArray.size false) = m9
    show wpAny _ _ ((newTuple (rawInt (m9.start : Int) :: rawInt (m9.handed : Int) :: []) >>= fun t9 => newFields "re.Match" [.str (ofL u) t, .ref 49, rawInt ((0 : Nat) : Int), rawInt (u.toArray.size : Int), rawInt m9.lastindex, t9]) >>= fun x => ret x) _ _ _
    refine wpAny_bind (wpAny_bind (wpAny_newTuple ?_ (by show 2 ≤ 2 ^ 24; omega)))
    unfold newFields
    refine wpAny_newObj_type (wpAny_pure (hq2 hf _ _ _)) (by simp [sizeOk]; try decide)
noncomputable def mthO : Obj := { cls := .type "builtin_function_or_method", dict := none, data := .fields #[.builtin "re.Pattern.search", .ref 49] }
theorem sig_search : Manifest.signature? "re.Pattern.search" = some ⟨.keywords, "Pattern.search", "search", .self, [⟨"string", .posOrKw, true⟩, ⟨"pos", .posOrKw, false⟩, ⟨"endpos", .posOrKw, false⟩]⟩ := by kernel_rfl
theorem kind_search : builtinKind "re.Pattern.search" = some .method := by kernel_rfl
theorem sub_pat : isSubtype (.type "re.Pattern") (.type "module") = pure false := by rw [isSubtype_type]; kernel_rfl
theorem sub_pat_type : isSubtype (.type "re.Pattern") (.type "type") = pure false := by rw [isSubtype_type]; kernel_rfl
theorem printed_any {M : Model} {name : String} {whole : Bool} {sig : Manifest.Signature} {self : Value} {T : String} {Q : String → Shared → Prop} (hs : sig.receiver = .self) (hT : s.TypeIs self T) (h : ∀ x, Q x s) :
    wpAny M A (Bind.printed name whole sig (some self)) Q E s := by
  by_cases hn : name = "*"
  · subst hn
    exact printed_star hs hT h
  · exact printed_name (by simpa using hn) (h _)
theorem checked (f0 full short : String) : Bind.check ⟨.keywords, f0, "search", .self, [⟨"string", .posOrKw, true⟩, ⟨"pos", .posOrKw, false⟩, ⟨"endpos", .posOrKw, false⟩]⟩ full short 1 [] = pure () := by kernel_rfl
theorem args_search {v : Value} {full : String} {Q : Unit → Shared → Prop} (h49 : s.heap.get? 49 = some patO) (h : Q () s) :
    wpAny (model prog w) A (Bind.checkArgs "re.Pattern.search" ⟨.keywords, full, "search", .self, [⟨"string", .posOrKw, true⟩, ⟨"pos", .posOrKw, false⟩, ⟨"endpos", .posOrKw, false⟩]⟩ ⟨[.ref 49, v], []⟩) Q E s := by
  have hT : s.TypeIs (.ref 49) "re.Pattern" := ⟨_, h49, rfl⟩
  unfold Bind.checkArgs
  dsimp only
  refine wpAny_bind (m := Bind.printed full true _ _) (printed_any (self := .ref 49) rfl hT fun x => ?_)
  refine wpAny_bind (m := Bind.printed "search" false _ _) (printed_any (self := .ref 49) rfl hT fun y => ?_)
  refine wpAny_onRaise ?_
  have e : (if (Manifest.Receiver.self == Manifest.Receiver.none) = true then [Value.ref 49, v].length else [Value.ref 49, v].length - 1) = 1 := rfl
  rw [e]
  exact wpAny_of_eq (checked full x y) h
theorem check_search {v : Value} {Q : Unit → Shared → Prop} (h49 : s.heap.get? 49 = some patO) (h : Q () s) : wpAny (model prog w) A (checkBoundCall "re.Pattern.search" ⟨[.ref 49, v], []⟩) Q E s := by
  have hT : s.TypeIs (.ref 49) "re.Pattern" := ⟨_, h49, rfl⟩
  unfold checkBoundCall
  rw [sig_search, kind_search]
  dsimp only
  rw [if_neg (by decide)]
  refine wpAny_bind (wpAny_isInstance hT sub_pat ?_)
  rw [if_neg (by decide +kernel)]
  have ty : Looks (model prog w) s.heap (isType (.ref 49)) false := (Looks.ld h49).andThen .now
  refine wpAny_bind (ty.here ?_)
  rw [if_neg (by decide)]
  refine wpAny_bind (wpAny_typeOf hT ?_)
  exact args_search h49 h
theorem entry_search : entryFor table "re.Pattern.search" = some Builtin.«re.Pattern.search» := entryFor_of_tree (by kernel_rfl)
theorem plain_search : plainId "re.Pattern.search" = true := by decide +kernel
theorem call_search {u : List Nat} {t : Tok} {Q : Value → Shared → Prop} (hu : u ≠ []) (hl : u.length < 1000000) (h752 : s.heap.get? 752 = some mthO) (h49 : s.heap.get? 49 = some patO) (h48 : s.heap.get? 48 = some codeO)
    (hq1 : (u.all safeC) = true → Q .none s) (hq2 : (u.all safeC) = false → ∀ (x : Addr) (o1 o2 : Obj), Q (.ref x) { s with heap := (s.heap.push o1).push o2 }) :
    wpAny (model prog w) A (call (.ref 752) [.str (ofL u) t]) Q E s := by
  refine wpAny_call (codeAny_of_tree ?_)
  show wpAny _ A.in1 (callAny (.ref 752) ⟨[.str (ofL u) t], []⟩) _ _ s
  simp only [callAny]
  refine wpAny_bind (wpAny_load h752 ?_)
  simp only [mthO, show (Value.type "builtin_function_or_method" == Value.type "method" || Value.type "builtin_function_or_method" == Value.type "builtin_function_or_method" || Value.type "builtin_function_or_method" == Value.type "method-wrapper") = true by decide, if_true]
  show wpAny _ _ (if (Value.type "builtin_function_or_method" != Value.type "method") = true then (checkBoundCall "re.Pattern.search" ⟨[.ref 49, .str (ofL u) t], []⟩ >>= fun _ => again (.builtin "re.Pattern.search" ⟨[.ref 49, .str (ofL u) t], []⟩)) else _) _ _ _
  rw [if_pos (by decide)]
  refine wpAny_bind (check_search h49 ?_)
  refine wpAny_pure ⟨plainId_quiet plain_search _, codeAny_builtin entry_search ?_⟩
  exact search_run hu hl h49 h48 hq1 hq2
end
end
section
theorem keeps_752 {P : Params} {M : Model} (h : Heap) (X : (Kf P).In h) : ∃ k, (k = Keeper.frame ∨ k = Keeper.machine ∨ k = Keeper.boundFrame) ∧ Looks M h (keeperOf (.ref 752)) k := by
  have h752 : h.get? 752 = some mthO := X _ _ rfl
  exact ⟨.machine, .inr (.inl rfl), (Looks.ld (part := none) h752).andThen .now⟩
theorem callWith_752 {P : Params} {M : Model} {A : Around} {E : Value → Shared → Prop} {s : Shared} {env : Env} {pos : Pos} {first : List Value} {e : PySem.Expr} {rest : List PySem.Expr} {Q : Value → Shared → Prop}
    (h : wpAny M A (spliced (backTo pos (starEach (e :: rest) env))) (fun vs s₁ => (Kf P).In s₁.heap ∧ wpAny M A (call (.ref 752) (first ++ vs)) Q E s₁) E s)
    (he : starEach (e :: rest) env = (false, eval e env) :: starEach rest env := by rfl) (hplain : (backTo pos (starEach rest env)).any (·.1) = false := by rfl) :
    wpAny M A (callWith pos (.ref 752) first (backTo pos (starEach (e :: rest) env)) []) Q E s := by
  rw [he] at h ⊢
  exact callWith_of (by show ((false || (backTo pos (starEach rest env)).any (·.1)) || false) = false; rw [hplain]; rfl) keeps_752 (PySem.Calls.evalArgs_plain h)
theorem search_K {prog : Program} {w : World} {A : Around} {E : Value → Shared → Prop} {s : Shared} {h₀ : Heap} {L : Addr} {m : Str → Option Value} {news : List (Addr × Obj)} {u : List Nat} {t : Tok} {Q : Value → Shared → Prop}
    (F : Fr h₀ L s.heap m) (X : (Kf w.params).In h₀) (N : News h₀ L s.heap news) (hu : u.isEmpty = false) (hl : u.length < 1000000)
    (hq1 : (u.all safeC) = true → Q .none s) (hq2 : (u.all safeC) = false → ∀ (x : Addr) h', Fr h₀ L h' m → News h₀ L h' news → Q (.ref x) { s with heap := h' }) :
    wpAny (model prog w) A (call (.ref 752) [.str (ofL u) t]) Q E s := by
  have X2 := X.keeps F.keep
  refine call_search (by rintro rfl; cases hu) hl (X2 _ _ rfl) (X2 _ _ rfl) (X2 _ _ rfl) hq1 fun h x o1 o2 => ?_
  exact hq2 h x _ ((F.push o1).push o2) ((N.pushKeep o1).pushKeep o2)
def subst1 (c : Nat) (z : List Nat) (l : List Nat) : List Nat := l.flatMap fun k => if k = c then z else [k]
theorem subst1_free (c : Nat) (z : List Nat) : ∀ l : List Nat, c ∉ l → subst1 c z l = l
  | [], _ => rfl
  | k :: r, h => by
    have h1 : ¬ k = c := fun e => h (e ▸ List.mem_cons_self ..)
    have h2 : c ∉ r := fun m => h (List.mem_cons_of_mem _ m)
    have ih := subst1_free c z r h2
    unfold subst1 at ih ⊢
    rw [List.flatMap_cons, if_neg h1, ih]
    rfl
theorem subst1_join (c : Nat) (z : Str) : ∀ parts : List Str, (∀ p ∈ parts, c ∉ p.cps.toList) → subst1 c z.cps.toList (Str.join ⟨#[c]⟩ parts).cps.toList = (Str.join z parts).cps.toList
  | [], _ => rfl
  | [p], h => subst1_free c _ _ (h p (List.mem_singleton.mpr rfl))
  | p :: q :: r, h => by
    have ih := subst1_join c z (q :: r) fun a ha => h a (List.mem_cons_of_mem _ ha)
    show subst1 c z.cps.toList (p ++ ⟨#[c]⟩ ++ Str.join ⟨#[c]⟩ (q :: r)).cps.toList = (p ++ z ++ Str.join z (q :: r)).cps.toList
    simp only [Str.cps_append, Array.toList_append]
    rw [← ih]
    have hf := subst1_free c z.cps.toList _ (h p (List.mem_cons_self ..))
    unfold subst1 at hf ⊢
    rw [List.flatMap_append, List.flatMap_append, hf]
    simp
theorem replace_any (u z : List Nat) (c : Nat) : Txt.replace (ofL u) (ofL [c]) (ofL z) = ofL (subst1 c z u) := by
  have h := StrLaws.replace_one (ofL u) (ofL z) c
  have h2 := subst1_join c (ofL z) _ (StrLaws.split_free (ofL u) c)
  rw [StrLaws.join_split] at h2
  show Txt.replace (ofL u) ⟨#[c]⟩ (ofL z) = _
  rw [h]
  have h3 : (Str.join (ofL z) (Txt.split (ofL u) ⟨#[c]⟩)).cps.toList = subst1 c z u := by
    rw [← h2]
  have : (Str.join (ofL z) (Txt.split (ofL u) ⟨#[c]⟩)).cps = (subst1 c z u).toArray := by
    rw [← h3]
  exact congrArg Str.mk this
theorem subst1_len (c : Nat) (z : List Nat) (hz : z.length = 5) : ∀ l : List Nat, (subst1 c z l).length ≤ 5 * l.length
  | [] => by simp [subst1]
  | k :: r => by
    have ih := subst1_len c z hz r
    unfold subst1 at ih ⊢
    rw [List.flatMap_cons, List.length_append, List.length_cons]
    by_cases h : k = c
    · rw [if_pos h, hz]
      omega
    · rw [if_neg h, List.length_singleton]
      omega
theorem replace_K {prog : Program} {w : World} {A : Around} {E : Value → Shared → Prop} {s : Shared} {l : List Nat} {t u v : Tok} {Q : Value → Shared → Prop} (hl : l.length < 1000000) (hu : u ≠ 0) (hv : v ≠ 0) (huv : u ≠ v)
    (hq : ∀ t' k, Q (.str (ofL (subst1 39 [39, 34, 39, 34, 39] l)) t') { s with toks := k }) :
    wpAny (model prog w) A (call (.builtin "str.replace") [.str (ofL l) t, .str (Str.ofString "'") u, .str (Str.ofString "'\"'\"'") v]) Q E s := by
  refine SC.replaceW hu hv huv (by decide +kernel) (by rw [ofL_len]; omega) (by decide +kernel) fun t' k => ?_
  rw [show Str.ofString "'" = ofL [39] from by decide +kernel, show Str.ofString "'\"'\"'" = ofL [39, 34, 39, 34, 39] from by decide +kernel, replace_any]
  exact hq t' k
theorem add_ofL {prog : Program} {w : World} {A : Around} {E : Value → Shared → Prop} {s : Shared} {a b : List Nat} {t u : Tok} {Q : Value → Shared → Prop} (hl : a.length < 1000000) (hb : b.length < 1000000) (h : ∀ t' k, Q (.str (ofL (a ++ b)) t') { s with toks := k }) :
    wpAny (model prog w) A (binaryOp .Add (.str (ofL a) t) (.str (ofL b) u)) Q E s :=
  SBL.add (hsz := by rw [ofL_len, ofL_len, sizeLine_eq]; omega) fun t' k _ => by rw [ofL_app]; exact h t' k
section
local macro_rules | `(tactic| walk_at "truthy str") => `(tactic| (k_here; (with_reducible show wpAny _ _ (truthy (Value.str (ofL _) _)) _ _ _); refine truthy_ofL (by assumption) ?_))
local macro_rules | `(tactic| walk_at "callWith ref") => `(tactic| (k_here; (with_reducible show wpAny _ _ (callWith _ (Value.ref 752) _ _ _) _ _ _); refine' callWith_752 ?_))
local macro_rules | `(tactic| walk_at "call ref") => `(tactic| (k_here; (with_reducible show wpAny _ _ (call (Value.ref 752) _) _ _ _); refine halt ?_))
local macro_rules | `(tactic| walk_at "call builtin:str.replace") => `(tactic| (k_here; refine replace_K (by assumption) (by simp) (by simp) (by simp) ?_; intro t9 k9; (try rw [show Str.ofString "'" = ofL [39] from by decide +kernel])))
local macro_rules | `(tactic| walk_at "binaryOp Add") => `(tactic| (k_here; (with_reducible show wpAny _ _ (binaryOp _ (Value.str (ofL _) _) (Value.str (ofL _) _)) _ _ _); refine add_ofL (by first | assumption | (simp; done) | (simp; omega)) (by first | assumption | (simp; done) | (simp; omega)) ?_; intro t9 k9))
local macro_rules | `(tactic| walk_at "binaryOp Add str str") => `(tactic| (k_here; (with_reducible show wpAny _ _ (binaryOp _ (Value.str (ofL _) _) (Value.str (ofL _) _)) _ _ _); refine add_ofL (by first | assumption | (simp; done) | (simp; omega)) (by first | assumption | (simp; done) | (simp; omega)) ?_; intro t9 k9))
theorem code_free {prog : Program} {w : World} {A : Around} {s : Shared} {K : Frag} {mg mb : Str → Option Value} {p : Program} {loose : List Str} {mean : ExcName → Option Value}
    {R : Result → Shared → Prop} {name qual : Str} {params : Arguments} {body : List Stmt} {scope : Scope} {dV kV doc pm cdv ct oc : Value} {an od : Option Addr} {osl : Array (Option Value)} {f : Addr} {args : Args} {binds : List (Str × Value)}
    (X : K.In s.heap) (T : Top p loose mean mg mb s.heap)
    (ho : K.lookup f = some ⟨oc, od, .func (fnOf name qual params body scope dV kV doc pm an cdv ct), osl⟩) (hcd : codeIn K cdv qual = true) (hroom : A.depth < recursionLimit)
    (hbind : BindsTo s (fnOf name qual params body scope dV kV doc pm an cdv ct) args binds) (hloc : ∀ y ∈ binds, scope.names.lookup y.1 = some .local)
    (h : ∀ L' h₁, Fr s.heap L' h₁ (fun y => binds.reverse.lookup y) → News s.heap L' h₁ [] →
      wpAny (model prog w) (A.deeper (envOf qual scope L' f cdv)) (execs body (envOf qual scope L' f cdv))
        (fun fl s' => R (.ok (.ret (match fl with | .ret v => v | _ => .none))) s')
        (fun e s' => wpAny (model prog w) (A.deeper (envOf qual scope L' f cdv)) (leaving (envOf qual scope L' f cdv) e) (fun _ s'' => R (.error e) s'') (fun e' s'' => R (.error e') s'') s')
        { s with heap := h₁, toks := s.toks + binds.length })
    (hco : scope.isCoroutine = false) (hgen : scope.isGenerator = false) (hk : scope.kind = .function)
    (hcell : ∀ x ∈ scope.names, x.2 ≠ .cell) : codeAny (model prog w) A (.call (.ref f) args) R s := by
  refine codeAny_call_def (fd := fnOf name qual params body scope dV kV doc pm an cdv ct) (body := body) (binds := binds) hroom (X _ _ ho) rfl T.nolimit (codeRec_of X hcd) rfl hbind hcell hloc (fun h₁ hns hk₁ => ?_) hco hgen hk
  exact h _ h₁ ⟨hns, hk₁, Nat.le_refl _⟩ (fun p hp => nomatch hp)
theorem quote_free {prog : Program} {w : World} {A : Around} {p : Program} {loose : List Str} {mean : ExcName → Option Value} {mg mb : Str → Option Value} {s : Shared} {E : Value → Shared → Prop} {Q : Value → Shared → Prop}
    (X : (Kf w.params).In s.heap) (T : Top p loose mean mg mb s.heap) {u : List Nat} {tu : Tok} (hlen : u.length < 1000)
    (hd : A.depth < recursionLimit) (hu : A.units + 60 < cLine)
    (hret : ∀ (t' : Tok) (h' : Heap) (tk' : Nat), (∀ b o, s.heap.get? b = some o → h'.get? b = some o) → Q (.str (ofL (quoteM u)) t') { s with heap := h', toks := tk' }) :
    wpAny (model prog w) A (call (.ref 759) [.str (ofL u) tu]) Q E s := by
  have hl6 : u.length < 1000000 := by omega
  refine wpAny_call ?_
  k_dflt (refine' code_free ?k3 ?k5 ?k6 ?k7 ?k8 ?k9 ?kB ?_ ?c2 ?c3 ?c4 ?c5; (case k3 => k_asm); (case k5 => k_asm); (case k6 => k_is); (case k7 => k_is); (case k8 => exact hd); (case k9 => first | exact BindsTo.of_eq rfl | exact binds_K (by k_in) rfl (by k_is) rfl rfl rfl); (case c5 => decide); (case kB => exact locs rfl); (case c2 => exact rfl); (case c3 => exact rfl); (case c4 => exact rfl); k_whole; intro L' h' F' N'; (try dsimp only))
  k_steps
  · have e : u = [] := by simpa using ‹u.isEmpty = true›
    subst e
    have e2 : Str.ofString "''" = ofL (quoteM []) := by decide +kernel
    show Q (.str (Str.ofString "''") _) _
    rw [e2]
    exact hret _ _ _ (Fr.keep (by assumption))
  · refine unhalt ?_
    have hne : u.isEmpty = false := by assumption
    k_dflt (refine' search_K ?zF ?zX ?zN hne hl6 ?_ ?_; (case zF => k_asm); (case zX => k_asm); (case zN => k_asm))
    · intro hs
      have e2 : quoteM u = u := by simp [quoteM, hne, hs]
      k_steps
      all_goals
        show Q (.str (ofL u) _) _
        rw [← e2]
        exact hret _ _ _ (Fr.keep (by assumption))
    · intro hs x9 h9 F9 N9
      have hs5 := subst1_len 39 [39, 34, 39, 34, 39] rfl u
      have hs6 : (subst1 39 [39, 34, 39, 34, 39] u).length < 1000000 := by omega
      have e2 : [39] ++ subst1 39 [39, 34, 39, 34, 39] u ++ [39] = quoteM u := by
        unfold quoteM
        rw [if_neg (by simpa using hne), if_neg (by simpa using hs)]
        rfl
      k_steps
      all_goals
        show Q (.str (ofL ([39] ++ subst1 39 [39, 34, 39, 34, 39] u ++ [39])) _) _
        rw [e2]
        exact hret _ _ _ (Fr.keep (by assumption))
end
section
local macro_rules | `(tactic| walk_at "eval GeneratorExp") => `(tactic| (k_here; refine halt ?_))
abbrev recO (ps : Array Value) : Obj := { cls := .none, dict := none, data := .fields ps, slots := #[] }
theorem bfor {P : Params} {M : Model} {A : Around} {E : Value → Shared → Prop} {s : Shared} {running : Addr} {o : Obj} {Q : Addr → Shared → Prop} (X : (Kf P).In s.heap)
    (ho : s.heap.get? 4 = some o) (hcls : o.cls = .type "module") (hdict : o.dict = some builtinsNs) (hdata : o.data = .plain)
    (h : Q builtinsNs s) : wpAny M A (builtinsFor mainGlobals running) Q E s := by
  have e : nsIn (Kf P) mainGlobals (Str.ofString "__builtins__") = some (some (.ref 4)) := by kernel_rfl
  have lk : Looks M s.heap (nsGet mainGlobals (Str.ofString "__builtins__")) (some (.ref 4)) := looks_nsIn X e
  unfold builtinsFor
  refine wpAny_bind (lk.here ?_)
  show wpAny M A (if ((4 : Addr) == builtinsNs) = true then _ else _) Q E s
  rw [if_neg (by decide)]
  refine wpAny_bind (wpAny_load ho ?_)
  rw [hdata, hdict, hcls]
  exact wpAny_pure h
theorem keeps_refl (s : Shared) : Keeps s s := ⟨s.heap, s.toks, rfl, fun _ _ e => e⟩
theorem elt_spec {prog : Program} {w : World} {A : Around} {p : Program} {loose : List Str} {mean : ExcName → Option Value} {mg mb : Str → Option Value} {h₀ : Heap} {s : Shared} {E : Value → Shared → Prop} {m : Str → Option Value}
    {scope : Scope} {C : Addr} {code : Value} {bi : Addr} {env : Env} {u : List Nat} {t : Tok} {q1 q2 q3 : Pos}
    (hsc : scope = { kind := .function, names := [(Str.ofString ".0", .local), (Str.ofString "arg", .local), (Str.ofString "quote_shlex", .globalImplicit)], isGenerator := true, isCoroutine := false }) (hg2 : env.globals = mainGlobals)
    (X : (Kf w.params).In h₀) (T : Top p loose mean mg mb h₀) (F : Fr h₀ C s.heap m) (hm : m (Str.ofString "arg") = some (.str (ofL u) t)) (hlen : u.length < 1000)
    (hd : A.depth < recursionLimit) (hu : A.units + 60 < cLine) :
    wpAny (model prog w) A (eval (.Call (.Name (Str.ofString "quote_shlex") q1) [.Name (Str.ofString "arg") q2] [] q3) (genEnv scope [] C code bi env)) (fun y s₃ => (∃ t, y = .str (ofL (quoteM u)) t) ∧ Keeps s s₃) E s := by
  subst hsc
  have k1 : nsIn (Kf w.params) mainGlobals (Str.ofString "quote_shlex") = some (some (.ref 759)) := by kernel_rfl
  have k2 : keepIn (Kf w.params) (.ref 759) = true := by kernel_rfl
  have hkd : (genEnv { kind := .function, names := [(Str.ofString ".0", .local), (Str.ofString "arg", .local), (Str.ofString "quote_shlex", .globalImplicit)], isGenerator := true, isCoroutine := false } [] C code bi env).scope.kind = .function := rfl
  refine Call_Name rfl (PySem.Calls.Name_function_global hkd rfl (PySem.Calls.loadGlobal_global (show s.heap.Ns _ mg from hg2 ▸ (T.keeps F.keep).g) (mg_of X T.g k1) ?_) (by decide))
  refine callWith_K (K := Kf w.params) X k2 ?_
  refine spliced_more ?_
  refine wpAny_Name (wpAny_loadName_local hkd rfl F.ns hm ?_) (by decide)
  refine spliced_none ⟨X.keeps F.keep, ?_⟩
  refine quote_free (X.keeps F.keep) (T.keeps F.keep) hlen hd hu fun t' h' tk' hkp => ?_
  exact ⟨⟨_, rfl⟩, h', tk', rfl, hkp⟩
end
section
theorem quoteM_len (u : List Nat) : (quoteM u).length ≤ 5 * u.length + 2 := by
  unfold quoteM
  split
  · simp
  · split
    · omega
    · have h := subst1_len 39 [39, 34, 39, 34, 39] rfl u
      unfold subst1 at h
      simp only [List.length_append, List.length_cons, List.length_nil]
      omega
theorem joined : ∀ ws : List (List Nat), Str.join (ofL [32]) (ws.map fun u => ofL (quoteM u)) = ofL (joinM ws)
  | [] => rfl
  | [u] => rfl
  | u :: v :: r => by
    have ih := joined (v :: r)
    simp only [List.map_cons] at ih ⊢
    show ofL (quoteM u) ++ ofL [32] ++ Str.join (ofL [32]) (ofL (quoteM v) :: r.map fun u => ofL (quoteM u)) = _
    rw [ih, ofL_app, ofL_app]
    show _ = ofL (quoteM u ++ 32 :: joinM (v :: r))
    rw [List.append_assoc]
    rfl
theorem joinOk : ∀ (ws : List (List Nat)) (a : Nat), (∀ u ∈ ws, u.length < 1000) → (ws.map fun u => ofL (quoteM u)).foldl (fun a x => a + x.length + (ofL [32]).length) a ≤ a + 5003 * ws.length
  | [], a, _ => by simp
  | u :: r, a, h => by
    have h1 := quoteM_len u
    have h2 := h u (.head _)
    have ih := joinOk r (a + (ofL (quoteM u)).length + (ofL [32]).length) fun v hv => h v (.tail _ hv)
    rw [List.map_cons, List.foldl_cons, List.length_cons]
    rw [ofL_len, ofL_len] at ih ⊢
    simp only [List.length_cons, List.length_nil] at ih ⊢
    omega
theorem join_ok {ws : List (List Nat)} (hn : ws.length < 1000) (hw : ∀ u ∈ ws, u.length < 1000) : JoinOk (ofL [32]) (ws.map fun u => ofL (quoteM u)) = true := by
  unfold JoinOk Builtin.Str.tooLong
  have h := joinOk ws 0 hw
  rw [List.foldl_toArray]
  simp only [Bool.not_eq_true', decide_eq_false_iff_not]
  show ¬ _ > 2 ^ 24
  omega
theorem pass_all (n : Nat) : passing (fun _ => true) n 0 = List.range n := by
  unfold passing
  simp
section
local macro_rules | `(tactic| walk_at "eval GeneratorExp") => `(tactic| (k_here; refine halt ?_))
theorem code750 {P : Params} {h : Heap} (X : (Kf P).In h) {ps : Array Value} (h746 : h.get? 746 = some (recO ps)) (ht : TriplesOk ps.toList) : h.IsCode 750 746 ps ∧ h.TableAt 750 746 ps := by
  have h750 : h.get? 750 = some (o750 P) := X _ _ rfl
  exact ⟨⟨_, _, _, _, _, _, _, _, _, _, h750, rfl, rfl, rfl, rfl, rfl, rfl, h746, rfl, ht, by decide⟩, ⟨⟨_, _, h750, rfl, rfl, rfl⟩, h746⟩⟩
theorem gen_join {prog : Program} {w : World} {A : Around} {p : Program} {loose : List Str} {mean : ExcName → Option Value} {mg mb : Str → Option Value} {h₀ : Heap} {L : Addr} {m : Str → Option Value} {s : Shared} {Q E : Value → Shared → Prop}
    {D : Addr} {l : List (Str × Tok)} {c0 : Nat} {ws : List (List Nat)} {own : List (Addr × Obj)} {o4 : Obj} {q1 q2 q3 q4 q5 q6 : Pos} {ts : Tok}
    (hA : A.handled = none) (hd : A.depth + 4 < recursionLimit) (hu : A.units + 80 < cLine)
    (F : Fr h₀ L s.heap m) (N : News h₀ L s.heap ((746, recO #[]) :: (D, lstO (strValues l).toArray c0) :: own)) (X : (Kf w.params).In h₀) (T : Top p loose mean mg mb h₀)
    (h4 : h₀.get? 4 = some o4) (hc4 : o4.cls = .type "module") (hd4 : o4.dict = some builtinsNs) (hp4 : o4.data = .plain)
    (hown : ∀ q ∈ own, q.1 ≠ 746)
    (hm : m (Str.ofString "split_command") = some (.ref D)) (hl : l.map Prod.fst = ws.map ofL) (hn : ws.length < 1000) (hw : ∀ u ∈ ws, u.length < 1000)
    (hret : ∀ (t' : Tok) (s' : Shared) (ps' : Array Value), Fr h₀ L s'.heap m → News h₀ L s'.heap ((746, recO ps') :: (D, lstO (strValues l).toArray c0) :: own) → (AllBare s.gens → AllBare s'.gens) → s'.os = s.os → s'.drawn = s.drawn → Q (.str (ofL (joinM ws)) t') s') :
    wpAny (model prog w) A (eval (.GeneratorExp (.Call (.Name (Str.ofString "quote_shlex") q1) [.Name (Str.ofString "arg") q2] [] q3) [⟨.Name (Str.ofString "arg") q4, .Name (Str.ofString "split_command") q5, [], 0⟩]
        { kind := .function, names := [(Str.ofString ".0", .local), (Str.ofString "arg", .local), (Str.ofString "quote_shlex", .globalImplicit)], isGenerator := true, isCoroutine := false } q6) (envOf (Str.ofString "join") c751 L 751 (.ref 750)))
      (fun v s₁ => wpAny (model prog w) A (call (.builtin "str.join") [.str (Str.ofString " ") ts, v]) Q E s₁) E s := by
  obtain ⟨hp, g, dr, tk, os⟩ := s
  dsimp only at F N hret
  refine wpAny_GeneratorExp_walksQD (cl := []) hA rfl (by kernel_rfl) (by decide) rfl rfl rfl (by omega) ?_ (by intro _; rfl)
  refine ld F hm ?_
  have hD := (N _ (.tail _ (.head _))).1
  have h746 := (N _ (.head _)).1
  dsimp only at hD h746
  refine wpAny_pyIter_list (items := (strValues l).toArray) ⟨_, hD, rfl, _, rfl⟩ ?_
  have F1 := F.push { cls := .type "list_iterator", data := .fields #[.ref D, .int 0 0] }
  have N1 := N.push F { cls := .type "list_iterator", data := .fields #[.ref D, .int 0 0] }
  have hi1 := (N1 _ (.head _)).1
  have lt1 : ∀ q ∈ (746, recO #[]) :: (D, lstO (strValues l).toArray c0) :: own, q.1 < hp.objs.size := fun q hq => Heap.lt_size (N q hq).1
  dsimp only at hi1 ⊢
  generalize hI : hp.objs.size = I at *
  generalize hh1 : hp.push { cls := .type "list_iterator", data := .fields #[.ref D, .int 0 0] } = h1 at *
  have nl1 : h1.NoLimit := T.nolimit.keeps F1.keep
  obtain ⟨hok, htab⟩ := code750 (X.keeps F1.keep) (N1 _ (.tail _ (.head _))).1 trivial
  refine ⟨nl1, ?_⟩
  refine wpAny_genexprCodeX (c := 750) (P := 746) (ps := #[]) rfl hok htab rfl fun c' h9 tk9 hx hc1 hc2 hi hr ht hP => ?_
  have hDne : D ≠ 746 := fun e => by
    rw [e, h746] at hD
    cases hD
  have hIne : I ≠ 746 := Nat.ne_of_gt (lt1 _ (.head _))
  have F9 : Fr h₀ L h9 m := by
    obtain ⟨oL, e1, e2, hL, r⟩ := F1.ns
    refine ⟨⟨oL, e1, e2, hx _ _ (fun e => (N _ (.head _)).2.1 e.symm) hL, r⟩, fun b o e => hx b o (fun eb => ?_) (F1.keep b o e), F1.above⟩
    rw [eb, (N _ (.head _)).2.2] at e
    cases e
  have N9 : News h₀ L h9 ((746, recO (#[] ++ #[rawInt q6.line, rawInt q6.col, .ref c'])) :: (I, { cls := .type "list_iterator", data := .fields #[.ref D, .int 0 0] }) :: (D, lstO (strValues l).toArray c0) :: own) := fun q hq => by
    rcases List.mem_cons.mp hq with rfl | hq
    · exact ⟨ht.2, (N _ (.head _)).2⟩
    · rcases List.mem_cons.mp hq with rfl | hq
      · exact ⟨hx _ _ hIne hi1, (N1 _ (.head _)).2⟩
      · rcases List.mem_cons.mp hq with rfl | hq
        · exact ⟨hx _ _ hDne (N1 _ (.tail _ (.tail _ (.head _)))).1, (N1 _ (.tail _ (.tail _ (.head _)))).2⟩
        · exact ⟨hx _ _ (hown q hq) (N1 q (.tail _ (.tail _ (.tail _ hq)))).1, (N1 q (.tail _ (.tail _ (.tail _ hq)))).2⟩
  have nl9 : h9.NoLimit := T.nolimit.keeps F9.keep
  refine bfor (X.keeps F9.keep) (F9.keep _ _ h4) hc4 hd4 hp4 ?_
  have hDI : D ≠ I := Nat.ne_of_lt (lt1 _ (.tail _ (.head _)))
  have hsz : (strValues l).toArray.size = ws.length := by
    have := congrArg List.length hl
    simp only [List.length_map] at this
    simp [strValues, this]
  have hI0 : h₀.get? I = none := (N1 _ (.head _)).2.2
  have hIL : I ≠ L := (N1 _ (.head _)).2.1
  have hItem : ∀ i v, (strValues l).toArray[i]? = some v → i < ws.length ∧ ∃ t, v = .str (ofL (ws.getD i [])) t := fun i v hv => by
    have hi' : i < l.length := by
      have := (Array.getElem?_eq_some_iff.mp hv).1
      simpa [strValues] using this
    have hlw : l.length = ws.length := by simpa using congrArg List.length hl
    refine ⟨by omega, l[i].2, ?_⟩
    have e1 : v = .str l[i].1 l[i].2 := by
      have : (strValues l)[i]? = some v := by simpa using hv
      simp only [strValues, List.getElem?_map, List.getElem?_eq_getElem hi', Option.map_some, Option.some.injEq] at this
      exact this.symm
    have e2 : l[i].1 = ofL (ws.getD i []) := by
      have h1 : (l.map Prod.fst)[i]? = (ws.map ofL)[i]? := by rw [hl]
      rw [List.getElem?_map, List.getElem?_map, List.getElem?_eq_getElem hi', List.getElem?_eq_getElem (by omega)] at h1
      simp only [Option.map_some, Option.some.injEq] at h1
      rw [h1, List.getD_eq_getElem?_getD, List.getElem?_eq_getElem (by omega)]
      rfl
    rw [e1, e2]
  refine ⟨I, [I, D], [I], (strValues l).toArray.size, fun i v => (strValues l).toArray[i]? = some v, _, fun _ => true, fun i y => ∃ t, y = .str (ofL (quoteM (ws.getD i []))) t, rfl, fun A' hA' => Walks.list hA' I D hDI (strValues l).toArray,
    ⟨⟨_, (N9 _ (.tail _ (.head _))).1, rfl, rfl⟩, ⟨_, (N9 _ (.tail _ (.tail _ (.head _)))).1, rfl, _, rfl⟩⟩, fun b hb => ?_, nl9, ?_, fun href hhref => ⟨fun A' E' i v s₂ m₂ _ _ _ _ _ _ _ => wpAny_pure ⟨rfl, keeps_refl _⟩, fun A' E' i v s₂ m₂ hA' hdp' hun' hP _ hns hmv hk => ?_⟩, fun a h5 tk5 gs hbare hlt hsz5 hkeep W hat => ?_⟩
  · simp only [List.mem_cons, List.not_mem_nil, or_false] at hb
    rcases hb with rfl | rfl
    · exact Heap.lt_size (N9 _ (.tail _ (.head _))).1
    · exact Heap.lt_size (N9 _ (.tail _ (.tail _ (.head _)))).1
  · intro hc
    simp only [List.mem_cons, List.not_mem_nil, or_false] at hc
    obtain ⟨mc, hn2, _⟩ := T.nolimit
    obtain ⟨oc, _, _, ho2, _⟩ := hn2
    rw [hc, hI0] at ho2
    cases ho2
  · obtain ⟨hi', t, rfl⟩ := hItem i v hP
    have F2 : Fr h₀ h9.objs.size s₂.heap m₂ := ⟨hns, fun b o e => hk b (List.mem_range.mpr (Heap.lt_size (F9.keep b o e))) (by
      simp only [List.mem_cons, List.not_mem_nil, or_false]
      rintro rfl
      rw [hI0] at e
      cases e) o (hhref b o (F9.keep b o e)), Nat.le_of_lt (Nat.lt_of_le_of_lt F9.above F9.ns.lt)⟩
    have hlw : (ws.getD i []).length < 1000 := by
      rw [List.getD_eq_getElem?_getD, List.getElem?_eq_getElem hi']
      exact hw _ (List.getElem_mem hi')
    exact elt_spec rfl rfl X T F2 hmv hlw (by omega) (by omega)
  · have F5 : Fr h₀ L h5 m := ⟨F9.ns.keeps hkeep, fun b o e => hkeep b o (F9.keep b o e), F9.above⟩
    rw [show Str.ofString " " = ofL [32] from by decide +kernel]
    refine SC.joinGen W.in4_2 (fun i s st => st.1.typeIs) hat (fun b hb => ?_) (List.mem_cons_self) (fun i v hv => ?_) (fun s' lj hm9 hacc => ?_) ?_
    · have hlt' : h9.objs.size < a := hlt
      have hsz5' : h5.objs.size = a + 1 := hsz5
      rcases List.mem_cons.mp hb with e | hb
      · rw [e]
        show a < h5.objs.size
        rw [hsz5']
        exact Nat.lt_succ_self a
      · rcases List.mem_cons.mp hb with e | hb
        · rw [e]
          show h9.objs.size < h5.objs.size
          rw [hsz5']
          exact Nat.lt_succ_of_lt hlt'
        · have h6 : b < h9.objs.size := List.mem_range.mp hb
          show b < h5.objs.size
          rw [hsz5']
          exact Nat.lt_succ_of_lt (Nat.lt_trans h6 hlt')
    · obtain ⟨i', _, t, rfl⟩ := hv
      exact ⟨_, _, rfl⟩
    · rw [pass_all] at hacc
      obtain ⟨ha1, ha2⟩ := hacc
      rw [List.length_range, hsz] at ha1
      have hlj : lj.map (·.1) = ws.map fun u => ofL (quoteM u) := by
        have hlen : lj.length = ws.length := by simpa [strValues] using ha1
        apply List.ext_getElem?
        intro j
        rcases Nat.lt_or_ge j ws.length with hj | hj
        · have hj' : j < lj.length := by omega
          obtain ⟨i', e1, t, e2⟩ := ha2 j (.str lj[j].1 lj[j].2) (by simp [strValues, List.getElem?_eq_getElem hj'])
          rw [List.getElem?_range (by rw [hsz]; exact hj)] at e1
          cases e1
          have e3 : lj[j].1 = ofL (quoteM (ws.getD j [])) := by
            injection e2
          rw [List.getElem?_map, List.getElem?_map, List.getElem?_eq_getElem hj', List.getElem?_eq_getElem hj]
          simp only [Option.map_some, Option.some.injEq]
          rw [e3, List.getD_eq_getElem?_getD, List.getElem?_eq_getElem hj]
          rfl
        · rw [List.getElem?_map, List.getElem?_map, List.getElem?_eq_none (by omega), List.getElem?_eq_none hj]
          rfl
      rw [hlj]
      refine ⟨join_ok hn hw, fun t' k => ?_⟩
      have ej : Txt.join (ofL [32]) (ws.map fun u => ofL (quoteM u)) = ofL (joinM ws) := by
        unfold Txt.join
        rw [StrLaws.glued_eq_join, joined]
      rw [ej]
      have hgt : ∀ b, b < h9.objs.size → b ≠ I → ∀ o, h5.get? b = some o → s'.heap.get? b = some o := fun b hb hbI o e => hm9.heap b o (by
        simp only [List.mem_cons, List.not_mem_nil, or_false]
        rintro (rfl | rfl)
        · exact Nat.lt_irrefl _ hb
        · exact hbI rfl) e
      refine hret t' { s' with toks := k } (#[] ++ #[rawInt q6.line, rawInt q6.col, .ref c']) ?_ (fun q hq => ?_) (fun hb9 => (AllBare.push hb9 hbare).moved hm9.gens) hm9.os hm9.drawn
      · obtain ⟨oL, e1, e2, hL, r⟩ := F5.ns
        refine ⟨⟨oL, e1, e2, hgt _ ?_ hIL.symm _ hL, r⟩, fun b o e => hgt b (Heap.lt_size (F9.keep b o e)) (fun eb => by rw [eb, hI0] at e; cases e) o (F5.keep b o e), F9.above⟩
        exact F9.ns.lt
      · have hq9 : q ∈ (746, recO (#[] ++ #[rawInt q6.line, rawInt q6.col, .ref c'])) :: (I, ({ cls := .type "list_iterator", data := .fields #[.ref D, .int 0 0] } : Obj)) :: (D, lstO (strValues l).toArray c0) :: own := by
          rcases List.mem_cons.mp hq with rfl | hq
          · exact .head _
          · exact .tail _ (.tail _ hq)
        have hqI : q.1 ≠ I := by
          rcases List.mem_cons.mp hq with rfl | hq
          · exact hIne.symm
          · exact Nat.ne_of_lt (lt1 q (.tail _ hq))
        exact ⟨hgt _ (Heap.lt_size (N9 q hq9).1) hqI _ (hkeep _ _ (N9 q hq9).1), (N9 q hq9).2⟩
    · rw [pass_all, List.length_range, hsz]
      show _ ≤ 2 ^ 24
      omega
section
theorem join_spec {prog : Program} {w : World} {p : Program} {loose : List Str} {mean : ExcName → Option Value} {mg mb : Str → Option Value}
    {dp un : Nat} {gd : Option (List Code)} {cn : Str} {cs : Scope} {a : Addr} {ccd : Value} {cl : List (Str × Addr)} {outer : List Env} {A₀ : Around} {base h₀ : Heap} {L : Addr} {m : Str → Option Value} {s : Shared} {Q E : Value → Shared → Prop}
    (B : Below A₀ base outer h₀) (F : Fr h₀ L s.heap m) (X : (Kf w.params).In h₀) (T : Top p loose mean mg mb h₀) (hk : cs.kind = .function)
    {D : Addr} {l : List (Str × Tok)} {c0 : Nat} {ws : List (List Nat)} {own : List (Addr × Obj)} {o4 : Obj}
    (N : News h₀ L s.heap ((746, recO #[]) :: (D, lstO (strValues l).toArray c0) :: own)) (hl : l.map Prod.fst = ws.map ofL) (hn : ws.length < 1000) (hw : ∀ u ∈ ws, u.length < 1000)
    (h4 : h₀.get? 4 = some o4) (hc4 : o4.cls = .type "module") (hd4 : o4.dict = some builtinsNs) (hp4 : o4.data = .plain)
    (hown : ∀ q ∈ own, q.1 ≠ 746)
    (hd : dp + 8 < recursionLimit) (hu : un + 100 < cLine)
    (hret : ∀ (t' : Tok) (s' : Shared) (ps' : Array Value), Fr h₀ L s'.heap m → News h₀ L s'.heap ((746, recO ps') :: (D, lstO (strValues l).toArray c0) :: own) → (AllBare s.gens → AllBare s'.gens) → s'.os = s.os → s'.drawn = s.drawn → Q (.str (ofL (joinM ws)) t') s') :
    wpAny (model prog w) (ktrTop dp un gd cn cs L a ccd cl outer) (call (.ref 751) [.ref D]) Q E s := by
  refine wpAny_call ?_
  k_dflt k_enter
  k_steps
  refine unhalt ?_
  rename News _ _ _ _ => N9
  have FG := ‹Fr h₀ L _ m›
  refine wpAny_mono (gen_join (ws := ws) rfl (by show dp + 1 + 4 < _; omega) (by show un + 3 + 80 < _; omega) (by assumption) N9 (by assumption) (by assumption) (FG.keep _ _ h4) hc4 hd4 hp4 hown rfl hl hn hw ?_) (fun v s₁ h₁ => spliced_none h₁) fun _ _ z => z
  intro t' s' ps' F7 N7 g7 os7 dr7
  k_steps
  all_goals exact hret _ _ _ (by assumption) (by assumption) g7 os7 dr7
end
end
end
end
section
open PySem PySem.W PyProof.Rows PySem.Builtin
noncomputable def itemsOf (o : Obj) : Array Value := match o.data with
  | .seq xs _ => xs
  | _ => #[]
def strIs (v : Option Value) (x : Str) : Bool := match v with
  | some (.str y _) => y == x
  | _ => false
theorem tab_all (P : Params) : (List.range 256).all (fun c => c == 10 || c == 13 || strIs (itemsOf (o784 P))[c]? (ofL (shownC c))) = true := by kernel_rfl
theorem tab_size (P : Params) : (itemsOf (o784 P)).size = 256 := by kernel_rfl
theorem tab_at (P : Params) {c : Nat} (h : c < 256) (h1 : c ≠ 10) (h2 : c ≠ 13) : ∃ t, (itemsOf (o784 P))[c]? = some (.str (ofL (shownC c)) t) := by
  have h3 := List.all_eq_true.mp (tab_all P) c (List.mem_range.mpr h)
  simp only [Bool.or_eq_true, beq_iff_eq] at h3
  rcases h3 with (h3 | h3) | h3
  · exact absurd h3 h1
  · exact absurd h3 h2
  · unfold strIs at h3
    split at h3
    · rename_i y t e
      exact ⟨t, by rw [e, beq_iff_eq.mp h3]⟩
    · cases h3
theorem tl_spec {prog : Program} {w : World} {A : Around} {E : Value → Shared → Prop} {s : Shared} {P : Params} {c : Nat} {Q : Str.Mapped → Shared → Prop} (h784 : s.heap.get? 784 = some (o784 P)) (h : c < 256) (h1 : c ≠ 10) (h2 : c ≠ 13)
    (hq : ∀ tk', Q (.text (ofL (shownC c))) { s with toks := tk' }) : wpAny (model prog w) A (Str.tableLookup (.ref 784) c) Q E s := by
  obtain ⟨t, ht⟩ := tab_at P h h1 h2
  unfold Str.tableLookup
  refine wpAny_bind (wpAny_attempt (wpAny_bind (wpAny_mkInt ?_)))
  refine wpAny_getItem_list (l := 784) (items := itemsOf (o784 P)) ⟨_, h784, rfl, _, rfl⟩ (by omega) (by omega) (by simpa using ht) ?_
  dsimp only
  refine wpAny_bind (wpAny_of_eq (a := none) rfl ?_)
  dsimp only
  refine wpAny_bind (wpAny_of_eq (a := some (ofL (shownC c))) rfl ?_)
  exact wpAny_pure (hq _)
theorem forIn_inv {prog : Program} {w : World} {A : Around} {E : Value → Shared → Prop} {σ : Type} (f : Nat → σ → Sem (ForInStep σ)) (I : List Nat → σ → Prop) (h₀ : Heap) {Q : σ → Shared → Prop} (ok : Nat → Prop) (n : Nat)
    (step : ∀ (c : Nat) (done : List Nat) (st : σ) (s : Shared), ok c → done.length + 1 ≤ n → I done st → s.heap = h₀ → wpAny (model prog w) A (f c st) (fun r s' => ∃ st' tk', r = .yield st' ∧ s' = { s with toks := tk' } ∧ I (done ++ [c]) st') E s) :
    ∀ (l done : List Nat) (st : σ) (s : Shared), (∀ c ∈ l, ok c) → done.length + l.length ≤ n → I done st → s.heap = h₀ → (∀ st' tk', I (done ++ l) st' → Q st' { s with toks := tk' }) → wpAny (model prog w) A (forIn l st f) Q E s
  | [], done, st, s, _, _, hi, _, hq => wpAny_pure (by have := hq st s.toks (by simpa using hi); exact this)
  | c :: r, done, st, s, hok, hn, hi, hh, hq => by
    rw [List.forIn_cons]
    refine wpAny_bind (wpAny_mono (step c done st s (hok c (.head _)) (by simp only [List.length_cons] at hn; omega) hi hh) (fun x s' hx => ?_) fun _ _ z => z)
    obtain ⟨st', tk', rfl, rfl, hi'⟩ := hx
    exact forIn_inv f I h₀ ok n step r (done ++ [c]) st' _ (fun d hd => hok d (.tail _ hd)) (by simp only [List.length_cons] at hn; simp only [List.length_append, List.length_cons, List.length_nil]; omega) hi' hh fun st2 tk2 h2 => hq st2 tk2 (by rw [List.append_assoc] at h2; exact h2)
theorem shown_len (c : Nat) : (shownC c).length ≤ 3 := by
  unfold shownC
  split <;> simp
theorem plain_lt {c : Nat} (h : plainC c = true) : c < 128 := by
  unfold plainC at h
  simp at h
  omega
theorem shown_one (c : Nat) : ((ofL (shownC c)).length == 1 && (ofL (shownC c)).cps.all fun x => decide (x < 128)) = plainC c := by
  rw [ofL_len]
  unfold shownC
  cases h : plainC c with
  | true =>
    have := plain_lt h
    simp [this]
  | false => simp
abbrev TrI (b : List Nat) (done : List Nat) (st : List Str × Nat × Bool × List (Nat × Option Nat) × Bool) : Prop :=
  (st.1.reverse.flatMap fun p => p.cps.toList) = transM done ∧ st.2.1 ≤ 3 * done.length ∧ (∀ c a, st.2.2.2.1.lookup c = some a → a = some c ∧ plainC c = true) ∧ st.2.2.2.2 = false
theorem tr_spec {prog : Program} {w : World} {A : Around} {E : Value → Shared → Prop} {s : Shared} {P : Params} {b : List Nat} {tb : Tok} {Q : PySem.Fin → Shared → Prop} (h784 : s.heap.get? 784 = some (o784 P)) (hne : b ≠ []) (hlen : b.length < 100000)
    (hb : ∀ c ∈ b, c < 256 ∧ c ≠ 10 ∧ c ≠ 13) (hq : ∀ t' tk', Q (.done (.ret (.str (ofL (transM b)) t'))) { s with toks := tk' }) :
    wpAny (model prog w) A (Builtin.«str.translate» ⟨[.str (ofL b) tb, .ref 784], []⟩) Q E s := by
  unfold Builtin.«str.translate»
  refine wpAny_bind (wpAny_of_eq (a := (.str (ofL b) tb, ofL b, .ref 784)) rfl ?_)
  dsimp only
  rw [if_neg (by rw [ofL_len]; simpa using hne)]
  refine wpAny_bind ?_
  rw [← Array.forIn_toList]
  refine forIn_inv (σ := List Str × Nat × Bool × List (Nat × Option Nat) × Bool) _ (fun done st => TrI b done st ) s.heap (fun c => c < 256 ∧ c ≠ 10 ∧ c ≠ 13) b.length (fun c done st s1 hc hn hi hh => ?_) b [] _ s hb (by simp) ?_ rfl (fun st' tk' hi => ?_)
  · obtain ⟨pieces, total, fast, known, ad⟩ := st
    obtain ⟨i1, i2, i3, i4⟩ := hi
    dsimp only at i1 i2 i3 i4 ⊢
    subst i4
    have h784' : s1.heap.get? 784 = some (o784 P) := by rw [hh]; exact h784
    have htl : Str.tooLong total = false := by
      unfold Str.tooLong
      exact decide_eq_false (by show ¬ _ > 2 ^ 24; omega)
    have happ : ∀ (x : Str), (x :: pieces).reverse.flatMap (fun p => p.cps.toList) = transM done ++ x.cps.toList := fun x => by
      rw [List.reverse_cons, List.flatMap_append, i1]
      simp
    have htr : transM (done ++ [c]) = transM done ++ shownC c := by
      unfold transM
      rw [List.flatMap_append]
      simp
    have slow : ∀ (known' : List (Nat × Option Nat)) (tk9 : Nat), (∀ c a, known'.lookup c = some a → a = some c ∧ plainC c = true) →
        ∀ s2 : Shared, s2 = { s1 with toks := tk9 } → wpAny (model prog w) A (Str.tableLookup (.ref 784) c) (fun r s' => ∃ t tk', r = .text t ∧ t = ofL (shownC c) ∧ s' = { s1 with toks := tk' }) E s2 := by
      rintro known' tk9 _ s2 rfl
      exact tl_spec (P := P) h784' hc.1 hc.2.1 hc.2.2 fun tk' => ⟨_, tk', rfl, rfl, rfl⟩
    rw [if_neg (by rw [htl]; exact Bool.false_ne_true)]
    have fin : ∀ (known' : List (Nat × Option Nat)) (tk9 : Nat) (f9 : Bool), (∀ c a, known'.lookup c = some a → a = some c ∧ plainC c = true) →
        TrI b (done ++ [c]) (ofL (shownC c) :: pieces, total + (ofL (shownC c)).length, f9, known', false) := by
      intro known' tk9 f9 hk
      refine ⟨?_, ?_, hk, rfl⟩
      · rw [happ, htr]
      · have := shown_len c
        dsimp only
        rw [ofL_len, List.length_append, List.length_cons, List.length_nil]
        omega
    have finc : ∀ (known' : List (Nat × Option Nat)) (f9 : Bool), plainC c = true → (∀ c a, known'.lookup c = some a → a = some c ∧ plainC c = true) →
        TrI b (done ++ [c]) (⟨#[c]⟩ :: pieces, total + 1, f9, known', false) := by
      intro known' f9 hp hk
      refine ⟨?_, ?_, hk, rfl⟩
      · have e : shownC c = [c] := by unfold shownC; rw [if_pos hp]
        rw [happ, htr, e]
      · dsimp only
        rw [List.length_append, List.length_cons, List.length_nil]
        omega
    cases fast with
    | false =>
      rw [if_neg Bool.false_ne_true, if_neg Bool.false_ne_true]
      refine wpAny_bind (wpAny_mono (slow known s1.toks i3 s1 rfl) (fun r s' hr => ?_) fun _ _ z => z)
      obtain ⟨t, tk', rfl, rfl, rfl⟩ := hr
      exact wpAny_pure ⟨_, tk', rfl, rfl, fin known tk' false i3⟩
    | true =>
      rw [if_pos rfl]
      cases hlk : List.lookup c known with
      | some a =>
        obtain ⟨rfl, hp⟩ := i3 c a hlk
        dsimp only
        refine wpAny_bind (wpAny_pure ?_)
        exact wpAny_pure ⟨_, s1.toks, rfl, rfl, finc known true hp i3⟩
      | none =>
        dsimp only
        refine wpAny_bind (wpAny_mono (slow known s1.toks i3 s1 rfl) (fun r s' hr => ?_) fun _ _ z => z)
        obtain ⟨t, tk', rfl, rfl, rfl⟩ := hr
        dsimp only
        rw [shown_one]
        cases hp : plainC c with
        | true =>
          rw [if_pos rfl]
          have e : (ofL (shownC c)).cps[0]? = some c := by
            unfold shownC
            rw [if_pos hp]
            rfl
          rw [e]
          dsimp only
          refine wpAny_bind (wpAny_pure ?_)
          refine wpAny_pure ⟨_, tk', rfl, rfl, finc _ true hp fun d a hd9 => ?_⟩
          rw [List.lookup_cons] at hd9
          by_cases hdc : d = c
          · subst hdc
            simp at hd9
            exact ⟨hd9.symm, hp⟩
          · have : (d == c) = false := by simpa using hdc
            rw [this] at hd9
            exact i3 d a hd9
        | false =>
          rw [if_neg Bool.false_ne_true]
          dsimp only
          refine wpAny_bind (wpAny_pure ?_)
          dsimp only
          refine wpAny_bind (wpAny_rule ?_)
          rw [if_neg Bool.false_ne_true]
          refine wpAny_bind (wpAny_mono (slow known tk' i3 _ rfl) (fun r s' hr => ?_) fun _ _ z => z)
          obtain ⟨t, tk2, rfl, rfl, rfl⟩ := hr
          exact wpAny_pure ⟨_, tk2, rfl, rfl, fin known tk2 false i3⟩
  · exact ⟨rfl, by simp, by simp, rfl⟩
  · obtain ⟨pieces, total, fast, known, ad⟩ := st'
    obtain ⟨i1, i2, i3, i4⟩ := hi
    dsimp only [List.nil_append] at i1 i2 ⊢
    have htl : Str.tooLong total = false := by
      unfold Str.tooLong
      exact decide_eq_false (by show ¬ _ > 2 ^ 24; omega)
    rw [if_neg (by rw [htl]; exact Bool.false_ne_true)]
    have ef : ∀ (ps : List Str) (acc : Array Nat), ps.foldl (fun acc p => acc ++ p.cps) acc = acc ++ (ps.flatMap fun p => p.cps.toList).toArray := by
      intro ps
      induction ps with
      | nil => intro acc; simp
      | cons p r ih =>
        intro acc
        rw [List.foldl_cons, ih]
        exact Array.ext' (by simp)
    rw [ef, i1]
    unfold retStr
    have e0 : (⟨#[] ++ (transM b).toArray⟩ : Str) = ofL (transM b) := by simp
    have e1 : ∀ l : List Nat, (transM l).length ≤ 3 * l.length := by
      intro l
      induction l with
      | nil => simp [transM]
      | cons c r ih =>
        have := shown_len c
        unfold transM at ih ⊢
        rw [List.flatMap_cons, List.length_append, List.length_cons]
        omega
    have e2 := e1 b
    rw [e0]
    refine wpAny_bind (wpAny_mkStr ?_ (by rw [ofL_len, sizeLine_eq]; omega))
    exact wpAny_pure (hq _ _)
end
section
abbrev bndO (a : Addr) : Obj := { cls := .type "builtin_function_or_method", dict := none, data := .fields #[.builtin "list.append", .ref a] }
theorem md_slot : Slot "method_descriptor" "__get__" "method_descriptor.__get__" :=
  .of (owner := "method_descriptor") (n := "__get__") (by rw [typeLookup_type, builtinLookup_eq_fast]; kernel_rfl) (by decide +kernel) (by decide +kernel) (by decide +kernel)
    (by first | exact .inl (by decide +kernel) | exact .inr (by decide +kernel)) (by rw [isSubtype_type]; kernel_rfl)
theorem md_entry : entryFor table "method_descriptor.__get__" = some Builtin.«method_descriptor.__get__» := entryFor_of_tree (by kernel_rfl)
theorem md_args (a b c : Value) : argsOk "method_descriptor.__get__" ⟨[a, b, c], []⟩ := by unfold argsOk; kernel_rfl
def chkO (a : Addr) : Sem Unit := do
  let (name, cls) ← (pure ((("append" : String) : Str), Value.type "list") : Sem (Str × Value))
  if !(← isInstance (.ref a) cls) then
    rule "descr.get.wrong-instance"
    raiseError "TypeError" s!"descriptor '{name.toString}' for '{← typeName cls}' objects doesn't apply to a '{← typeNameOf (.ref a)}' object"
theorem md_is (a : Addr) : Builtin.«method_descriptor.__get__» ⟨[.builtin "list.append", .ref a, .type "list"], []⟩ = (chkO a >>= fun _ => newFields "builtin_function_or_method" [.builtin "list.append", .ref a] >>= fun x => ret x) := by kernel_rfl
theorem md_run {M : Model} {A : Around} {E : Value → Shared → Prop} {s : Shared} {a : Addr} {xs : Array Value} {k : Nat} {P : PySem.Fin → Shared → Prop} (hx : s.heap.get? a = some (lstO xs k))
    (h : P (.done (.ret (.ref s.heap.objs.size))) { s with heap := s.heap.push (bndO a) }) :
    wpAny M A (Builtin.«method_descriptor.__get__» ⟨[.builtin "list.append", .ref a, .type "list"], []⟩) P E s := by
  have hT : s.TypeIs (.ref a) "list" := ⟨_, hx, rfl⟩
  rw [md_is]
  unfold chkO
  refine wpAny_bind (wpAny_bind (wpAny_pure ?_))
  dsimp only
  refine wpAny_bind (wpAny_isInstance hT (by rw [isSubtype_type]; kernel_rfl : isSubtype (.type "list") (.type "list") = pure true) ?_)
  rw [if_neg (by decide)]
  refine wpAny_pure (wpAny_bind ?_)
  unfold newFields
  exact wpAny_newObj_type (wpAny_pure h)
section
theorem at_spec {prog : Program} {w : World} {A : Around} {E : Value → Shared → Prop} {s : Shared} {a : Addr} {xs : Array Value} {k : Nat} {Q : Value → Shared → Prop}
    (hx : s.heap.get? a = some (lstO xs k)) (hA : A.handled = none)
    (hq : ∀ tk', Q (.ref s.heap.objs.size) { s with heap := s.heap.push (bndO a), toks := tk' }) :
    wpAny (model prog w) A (getAttr (.ref a) (Str.ofString "append") true) Q E s := by
  obtain ⟨hp, g, d, tk, os⟩ := s
  have hT : ∀ tk', (⟨hp, g, d, tk', os⟩ : Shared).TypeIs (.ref a) "list" := fun _ => ⟨_, hx, rfl⟩
  have f3 := PySem.F.slot_list_getattribute.lookup
  have f4 := PySem.F.slot_list_getattribute.bind (.ref a)
  have f5 := am_list_getattr_none
  have f6 := PySem.F.slot_list_append.lookup
  have f7 : builtinKind "list.append" = some .method := by kernel_rfl
  have f8 : typeLookup (.type "method_descriptor") "__get__" = pure (some (.builtin "method_descriptor.__get__")) := by rw [typeLookup_type, builtinLookup_eq_fast]; kernel_rfl
  have f9 : typeLookup (.type "method_descriptor") "__set__" = pure none := by rw [typeLookup_type, builtinLookup_eq_fast]; kernel_rfl
  have f10 : typeLookup (.type "method_descriptor") "__delete__" = pure none := by rw [typeLookup_type, builtinLookup_eq_fast]; kernel_rfl
  unfold getAttr getAttrBy
  repeat (any_goals (first | assumption | exact hT _ | wp_step))
  refine codeAny_call_builtin PySem.F.slot_list_getattribute.plain am_entry_list_getattribute (PySem.F.slot_list_getattribute.check _ _ _ _ _ _ _ _ (hT _) (PySem.F.args_list_getattribute_2 _ _) ?_)
  unfold Builtin.«object.__getattribute__»
  repeat (any_goals (first | assumption | exact hT _ | wp_step))
  rw [f7]
  dsimp only
  repeat (any_goals (first | assumption | exact hT _ | wp_step))
  rw [f7]
  dsimp only
  repeat (any_goals (first | assumption | exact hT _ | wp_step))
  rw [f7]
  dsimp only
  repeat (any_goals (first | assumption | exact hT _ | wp_step))
  refine codeAny_call_builtin md_slot.plain md_entry (md_slot.check _ _ _ _ _ _ _ _ PySem.F.type_list_append (md_args _ _ _) (md_run hx ?_))
  show wpAny (model prog w) A.in1 (ret _) _ _ _
  refine wpAny_pure ?_
  show wpAny (model prog w) A (handedOut (.ref hp.objs.size)) Q E _
  have hn : (hp.push (bndO a)).get? hp.objs.size = some (bndO a) := Heap.get?_push_size _ rfl
  unfold handedOut
  first
    | exact wpAny_pure (hq _)
    | (refine wpAny_bind (wpAny_load hn ?_); first | exact wpAny_pure (hq _) | (trace_state; done))
    | (repeat (any_goals (first | assumption | exact hq _ | wp_step)))
  done
end
end
section
open PySem PySem.W PyProof.Rows PySem.Builtin
def BndAt (q a : Addr) (h : Heap) : Prop := h.get? q = some (bndO a)
theorem keeps_bnd {q a : Addr} {M : Model} (h : Heap) (X : BndAt q a h) : ∃ k, (k = Keeper.frame ∨ k = Keeper.machine ∨ k = Keeper.boundFrame) ∧ Looks M h (keeperOf (.ref q)) k :=
  ⟨.machine, .inr (.inl rfl), (Looks.ld (part := none) (show h.get? q = some (bndO a) from X)).andThen .now⟩
theorem callWith_bnd {q a : Addr} {M : Model} {A : Around} {E : Value → Shared → Prop} {s : Shared} {env : Env} {pos : Pos} {first : List Value} {e : PySem.Expr} {rest : List PySem.Expr} {Q : Value → Shared → Prop} {h₀ : Heap} {L : Addr} {news : List (Addr × Obj)}
    (nN9 : News h₀ L s.heap news) (nhm9 : (q, bndO a) ∈ news)
    (h : wpAny M A (spliced (backTo pos (starEach (e :: rest) env))) (fun vs s₁ => BndAt q a s₁.heap ∧ wpAny M A (call (.ref q) (first ++ vs)) Q E s₁) E s)
    (he : starEach (e :: rest) env = (false, eval e env) :: starEach rest env := by rfl) (hplain : (backTo pos (starEach rest env)).any (·.1) = false := by rfl) :
    wpAny M A (callWith pos (.ref q) first (backTo pos (starEach (e :: rest) env)) []) Q E s := by
  rw [he] at h ⊢
  exact callWith_of (by show ((false || (backTo pos (starEach rest env)).any (·.1)) || false) = false; rw [hplain]; rfl) keeps_bnd (PySem.Calls.evalArgs_plain h)
theorem sig_app : Manifest.signature? "list.append" = some ⟨.oneArg, "list.append", "append", .self, [⟨"object", .posOnly, true⟩]⟩ := by kernel_rfl
theorem kind_app : builtinKind "list.append" = some .method := by kernel_rfl
theorem sub_lm : isSubtype (.type "list") (.type "module") = pure false := by rw [isSubtype_type]; kernel_rfl
theorem checked_app (f0 full short : String) : Bind.check ⟨.oneArg, f0, "append", .self, [⟨"object", .posOnly, true⟩]⟩ full short 1 [] = pure () := by kernel_rfl
section
variable {prog : Program} {w : World} {A : Around} {E : Value → Shared → Prop} {s : Shared} {a q : Addr} {xs : Array Value} {k : Nat} {v : Value}
theorem args_app {full : String} {Q : Unit → Shared → Prop} (hx : s.heap.get? a = some (lstO xs k)) (h : Q () s) :
    wpAny (model prog w) A (Bind.checkArgs "list.append" ⟨.oneArg, full, "append", .self, [⟨"object", .posOnly, true⟩]⟩ ⟨[.ref a, v], []⟩) Q E s := by
  have hT : s.TypeIs (.ref a) "list" := ⟨_, hx, rfl⟩
  unfold Bind.checkArgs
  dsimp only
  refine wpAny_bind (m := Bind.printed full true _ _) (printed_any (self := .ref a) rfl hT fun x => ?_)
  refine wpAny_bind (m := Bind.printed "append" false _ _) (printed_any (self := .ref a) rfl hT fun y => ?_)
  refine wpAny_onRaise ?_
  have e : (if (Manifest.Receiver.self == Manifest.Receiver.none) = true then [Value.ref a, v].length else [Value.ref a, v].length - 1) = 1 := rfl
  rw [e]
  exact wpAny_of_eq (checked_app full x y) h
theorem check_app {Q : Unit → Shared → Prop} (hx : s.heap.get? a = some (lstO xs k)) (h : Q () s) : wpAny (model prog w) A (checkBoundCall "list.append" ⟨[.ref a, v], []⟩) Q E s := by
  have hT : s.TypeIs (.ref a) "list" := ⟨_, hx, rfl⟩
  unfold checkBoundCall
  rw [sig_app, kind_app]
  dsimp only
  rw [if_neg (by decide)]
  refine wpAny_bind (wpAny_isInstance hT sub_lm ?_)
  rw [if_neg (by decide +kernel)]
  have ty : Looks (model prog w) s.heap (isType (.ref a)) false := (Looks.ld hx).andThen .now
  refine wpAny_bind (ty.here ?_)
  rw [if_neg (by decide)]
  refine wpAny_bind (wpAny_typeOf hT ?_)
  exact args_app hx h
theorem app_entry : entryFor table "list.append" = some Builtin.«list.append» := entryFor_of_tree (by kernel_rfl)
theorem app_plain : plainId "list.append" = true := by decide +kernel
theorem call_bnd {h₀ : Heap} {L : Addr} {m : Str → Option Value} {news : List (Addr × Obj)} {g : Obj → List (Addr × Obj)} {Q : Value → Shared → Prop} (F : Fr h₀ L s.heap m) (N : News h₀ L s.heap news) (hq : (q, bndO a) ∈ news) (U : UpdF a (lstO xs k) news g) (hn : xs.size < 1000000)
    (h : ∀ c' h', Fr h₀ L h' m → News h₀ L h' (g (lstO (xs.push v) c')) → Q .none { s with heap := h' }) :
    wpAny (model prog w) A (call (.ref q) [v]) Q E s := by
  obtain ⟨pre, post, rfl, hg, h1, h2⟩ := U.split
  have hx := (N (a, lstO xs k) (List.mem_append.mpr (.inr (.head _)))).1
  refine wpAny_call (codeAny_of_tree ?_)
  show wpAny _ A.in1 (callAny (.ref q) ⟨[v], []⟩) _ _ s
  simp only [callAny]
  refine wpAny_bind (wpAny_load (N _ hq).1 ?_)
  simp only [show (Value.type "builtin_function_or_method" == Value.type "method" || Value.type "builtin_function_or_method" == Value.type "builtin_function_or_method" || Value.type "builtin_function_or_method" == Value.type "method-wrapper") = true by decide, if_true]
  show wpAny _ _ (if (Value.type "builtin_function_or_method" != Value.type "method") = true then (checkBoundCall "list.append" ⟨[.ref a, v], []⟩ >>= fun _ => again (.builtin "list.append" ⟨[.ref a, v], []⟩)) else _) _ _ _
  rw [if_pos (by decide)]
  refine wpAny_bind (check_app hx ?_)
  refine wpAny_pure ⟨plainId_quiet app_plain _, codeAny_builtin app_entry ?_⟩
  unfold Builtin.«list.append»
  refine wpAny_bind (wpAny_of_eq (a := (.ref a, v)) rfl ?_)
  show wpAny _ _ (updateSeq a (·.push v) >>= fun _ => ret .none) _ _ _
  refine wpAny_bind (wpAny_updateSeq hx rfl ?_ (by show _ ≤ 2 ^ 24; omega) (by rw [Array.size_push]; show _ ≤ 2 ^ 24 + 1; omega))
  refine wpAny_pure ?_
  obtain ⟨c2, hc2⟩ : ∃ c2, Obj.mapSeq (·.push v) (lstO xs k) = lstO (xs.push v) c2 := ⟨_, rfl⟩
  obtain ⟨F2, N2⟩ := news_upd (f := Obj.mapSeq (·.push v)) F N h1 h2 hc2 rfl
  exact h c2 _ F2 (by rw [hg]; exact N2)
theorem at_K {h₀ : Heap} {L : Addr} {m : Str → Option Value} {news : List (Addr × Obj)} {Q : Value → Shared → Prop} (F : Fr h₀ L s.heap m) (N : News h₀ L s.heap news) (hm : (a, lstO xs k) ∈ news) (hA : A.handled = none)
    (h : ∀ x h' tk', Fr h₀ L h' m → News h₀ L h' ((x, bndO a) :: news) → (∀ p ∈ news, p.1 < x) → Q (.ref x) { s with heap := h', toks := tk' }) :
    wpAny (model prog w) A (getAttr (.ref a) (Str.ofString "append") true) Q E s :=
  at_spec (N _ hm).1 hA fun tk' => h _ _ _ (F.push _) (N.push F _) fun p hp => Heap.lt_size (N p hp).1
end
end
section
open PySem PySem.W PyProof.Rows PySem.Builtin PySem.Builtin.Str PySem.StrLaws
theorem no_break {s : Str} : ∀ l : List Nat, (∀ i ∈ l, Unicode.isLineBreak (s.cps.getD i 0) = false) → Id.run (forIn (m := Id) l ((#[], 0) : LsSt) (lsBody s)) = (#[], 0)
  | [], _ => rfl
  | i :: r, h => by
    have h1 := h i (.head _)
    have ih := no_break r fun j hj => h j (.tail _ hj)
    rw [List.forIn_cons]
    have e : lsBody s i ((#[], 0) : LsSt) = pure (ForInStep.yield ((#[], 0) : LsSt)) := by
      unfold lsBody
      simp only [h1, Bool.and_false, Bool.false_eq_true, if_false]
    rw [e]
    exact ih
theorem spans_one {t : List Nat} (hne : t ≠ []) (h : ∀ c ∈ t, Unicode.isLineBreak c = false) : lineSpans (ofL t) = [(0, t.length, t.length)] := by
  rw [ls_eq, no_break]
  · unfold lsEnd
    rw [ofL_len]
    have : 0 < t.length := List.length_pos_iff.mpr hne
    simp [this]
  · intro i hi
    rw [ofL_len] at hi
    have hi' : i < t.length := by
      have := List.mem_range'_1.mp hi
      omega
    have := h t[i] (List.getElem_mem hi')
    simpa [Array.getD, hi'] using this
theorem split_run {M : Model} {A : Around} {E : Value → Shared → Prop} {s : Shared} {t : List Nat} {tt : Tok} {Q : PySem.Fin → Shared → Prop} (hne : t ≠ []) (h : ∀ c ∈ t, Unicode.isLineBreak c = false)
    (hq : Q (.done (.ret (.ref s.heap.objs.size))) { s with heap := s.heap.push (lstO #[.str (ofL t) tt] 0) }) :
    wpAny M A (Builtin.«str.splitlines» ⟨[.str (ofL t) tt], []⟩) Q E s := by
  rw [splitlines_tree, spans_one hne h]
  rw [if_pos (by rw [ofL_len]; simp)]
  refine wpAny_bind (wpAny_rule (wpAny_bind ?_))
  unfold newList
  exact wpAny_newObj_type (wpAny_pure hq) (by show 1 ≤ 2 ^ 24; omega)
theorem split_call {prog : Program} {w : World} {A : Around} {E : Value → Shared → Prop} {s : Shared} {t : List Nat} {tt : Tok} {Q : Value → Shared → Prop} {h₀ : Heap} {L : Addr} {m : Str → Option Value} {news : List (Addr × Obj)}
    (F : Fr h₀ L s.heap m) (N : News h₀ L s.heap news) (hne : t ≠ []) (h : ∀ c ∈ t, Unicode.isLineBreak c = false)
    (hq : ∀ x h', Fr h₀ L h' m → News h₀ L h' ((x, lstO #[.str (ofL t) tt] 0) :: news) → (∀ p ∈ news, p.1 < x) → Q (.ref x) { s with heap := h' }) :
    wpAny (model prog w) A (call (.builtin "str.splitlines") [.str (ofL t) tt]) Q E s := by
  refine wpAny_call (codeAny_call_builtin PySem.F.slot_str_splitlines.plain PySem.F.entry_str_splitlines (PySem.F.slot_str_splitlines.check _ _ _ _ _ _ _ _ (typeIs_str _ _ _) (PySem.F.args_str_splitlines_1 _) ?_))
  exact split_run hne h (hq _ _ (F.push _) (N.push F _) fun p hp => Heap.lt_size (N p hp).1)
theorem trans_plain {b : List Nat} (h : ∀ c ∈ b, c < 256) : ∀ d ∈ transM b, d = 9 ∨ (32 ≤ d ∧ d ≤ 126) := by
  intro d hd
  obtain ⟨c, hc, hd⟩ := List.mem_flatMap.mp hd
  have := h c hc
  unfold shownC at hd
  split at hd
  · rename_i hp
    simp only [List.mem_cons, List.not_mem_nil, or_false] at hd
    subst hd
    unfold plainC at hp
    simp at hp
    omega
  · simp only [List.mem_cons, List.not_mem_nil, or_false] at hd
    unfold hexC at hd
    rcases hd with rfl | rfl | rfl
    · omega
    · split <;> omega
    · split <;> omega
theorem plain_nobreak {d : Nat} (h : d = 9 ∨ (32 ≤ d ∧ d ≤ 126)) : Unicode.isLineBreak d = false := by
  have : ∀ d : Fin 128, (d.val = 9 ∨ (32 ≤ d.val ∧ d.val ≤ 126)) → Unicode.isLineBreak d.val = false := by decide +kernel
  exact this ⟨d, by omega⟩ h
end
section
theorem sg_eq (c d : Nat) : (ofL [c] == ofL [d]) = decide (c = d) := by
  rw [Bool.eq_iff_iff, beq_iff_eq, decide_eq_true_iff]
  constructor
  · intro h
    simpa using h
  · rintro rfl
    rfl
theorem sg_lt (c d : Nat) : ((ofL [c]).cps.toList < (ofL [d]).cps.toList) ↔ c < d := by
  simp [List.cons_lt_cons_iff]
theorem hex_all : ∀ c : Fin 256, Str.ofString "=" ++ Txt.item (Str.ofString "0123456789ABCDEF") ((c.val : Int).fdiv 16) ++ Txt.item (Str.ofString "0123456789ABCDEF") ((c.val : Int).fmod 16) = ofL [61, hexC (c.val / 16), hexC (c.val % 16)] := by decide +kernel
theorem hex_one {c : Nat} (h : c < 256) (hp : plainC c = false) : Str.ofString "=" ++ Txt.item (Str.ofString "0123456789ABCDEF") ((c : Int).fdiv 16) ++ Txt.item (Str.ofString "0123456789ABCDEF") ((c : Int).fmod 16) = ofL (shownC c) := by
  have := hex_all ⟨c, h⟩
  unfold shownC
  rw [hp]
  exact this
theorem plain_of {c : Nat} (h : c = 9 ∨ (32 ≤ c ∧ c ≤ 126 ∧ c ≠ 61)) : ofL [c] = ofL (shownC c) := by
  unfold shownC
  have : plainC c = true := by unfold plainC; simp; omega
  rw [if_pos this]
theorem plain_not {c : Nat} (h : ¬ (c = 9 ∨ (32 ≤ c ∧ c ≤ 126 ∧ c ≠ 61))) : plainC c = false := by
  unfold plainC
  simp
  omega
theorem lits : Str.ofString "\t" = ofL [9] ∧ Str.ofString " " = ofL [32] ∧ Str.ofString "~" = ofL [126] ∧ Str.ofString "=" = ofL [61] := by decide +kernel
theorem f1 (c : Nat) : (ofL [c] == Str.ofString "\t") = decide (c = 9) := by rw [lits.1, sg_eq]
theorem f2 (c : Nat) : ((ofL [c]).cps.toList < (Str.ofString " ").cps.toList) ↔ c < 32 := by rw [lits.2.1, sg_lt]
theorem f3 (c : Nat) : ((Str.ofString "~").cps.toList < (ofL [c]).cps.toList) ↔ 126 < c := by rw [lits.2.2.1, sg_lt]
theorem f4 (c : Nat) : (ofL [c] != Str.ofString "=") = decide (c ≠ 61) := by rw [lits.2.2.2, bne, sg_eq]; simp
theorem shown_spec {prog : Program} {w : World} {p : Program} {loose : List Str} {mean : ExcName → Option Value} {mg mb : Str → Option Value}
    {dp un : Nat} {gd : Option (List Code)} {cn : Str} {cs : Scope} {a : Addr} {ccd : Value} {cl : List (Str × Addr)} {outer : List Env} {A₀ : Around} {base h₀ : Heap} {L : Addr} {m : Str → Option Value} {s : Shared} {Q E : Value → Shared → Prop}
    (B : Below A₀ base outer h₀) (F : Fr h₀ L s.heap m) (X : (Kf w.params).In h₀) (T : Top p loose mean mg mb h₀) (hk : cs.kind = .function)
    {c : Nat} {tc : Tok} {own : List (Addr × Obj)}
    (N : News h₀ L s.heap own) (hc : c < 256)
    (hd : dp + 4 < recursionLimit) (hu : un + 60 < cLine)
    (hret : ∀ (t' : Tok) (h' : Heap) (tk' : Nat), Fr h₀ L h' m → News h₀ L h' own → Q (.str (ofL (shownC c)) t') { s with heap := h', toks := tk' }) :
    wpAny (model prog w) (ktrTop dp un gd cn cs L a ccd cl outer) (call (.ref 816) [.str (ofL [c]) tc]) Q E s := by
  refine wpAny_call ?_
  k_dflt k_enter
  k_steps
  all_goals
    try have g1 := of_decide_eq_true ((f1 c).symm.trans (by assumption))
    try have g2 := of_decide_eq_false ((f1 c).symm.trans (by assumption))
    try have g3 := (f2 c).mp (by assumption)
    try have g4 := mt (f2 c).mpr (by assumption)
    try have g5 := (f3 c).mp (by assumption)
    try have g6 := mt (f3 c).mpr (by assumption)
    try have g7 := of_decide_eq_true ((f4 c).symm.trans (by assumption))
    try have g8 := of_decide_eq_false ((f4 c).symm.trans (by assumption))
    first
      | (rw [plain_of (c := c) (by omega)]; exact hret _ _ _ (by assumption) (by assumption))
      | (rw [hex_one hc (plain_not (by omega))]; exact hret _ _ _ (by assumption) (by assumption))
section
theorem fl_a (c : Nat) : ((ofL [c]).cps.toList < (Str.ofString "a").cps.toList) ↔ c < 97 := by rw [show Str.ofString "a" = ofL [97] from by decide +kernel, sg_lt]
theorem fg_a (c : Nat) : ((Str.ofString "a").cps.toList < (ofL [c]).cps.toList) ↔ 97 < c := by rw [show Str.ofString "a" = ofL [97] from by decide +kernel, sg_lt]
theorem fl_z (c : Nat) : ((ofL [c]).cps.toList < (Str.ofString "z").cps.toList) ↔ c < 122 := by rw [show Str.ofString "z" = ofL [122] from by decide +kernel, sg_lt]
theorem fg_z (c : Nat) : ((Str.ofString "z").cps.toList < (ofL [c]).cps.toList) ↔ 122 < c := by rw [show Str.ofString "z" = ofL [122] from by decide +kernel, sg_lt]
theorem fl_A (c : Nat) : ((ofL [c]).cps.toList < (Str.ofString "A").cps.toList) ↔ c < 65 := by rw [show Str.ofString "A" = ofL [65] from by decide +kernel, sg_lt]
theorem fg_A (c : Nat) : ((Str.ofString "A").cps.toList < (ofL [c]).cps.toList) ↔ 65 < c := by rw [show Str.ofString "A" = ofL [65] from by decide +kernel, sg_lt]
theorem fl_Z (c : Nat) : ((ofL [c]).cps.toList < (Str.ofString "Z").cps.toList) ↔ c < 90 := by rw [show Str.ofString "Z" = ofL [90] from by decide +kernel, sg_lt]
theorem fg_Z (c : Nat) : ((Str.ofString "Z").cps.toList < (ofL [c]).cps.toList) ↔ 90 < c := by rw [show Str.ofString "Z" = ofL [90] from by decide +kernel, sg_lt]
theorem fl_z0 (c : Nat) : ((ofL [c]).cps.toList < (Str.ofString "0").cps.toList) ↔ c < 48 := by rw [show Str.ofString "0" = ofL [48] from by decide +kernel, sg_lt]
theorem fg_z0 (c : Nat) : ((Str.ofString "0").cps.toList < (ofL [c]).cps.toList) ↔ 48 < c := by rw [show Str.ofString "0" = ofL [48] from by decide +kernel, sg_lt]
theorem fl_n9 (c : Nat) : ((ofL [c]).cps.toList < (Str.ofString "9").cps.toList) ↔ c < 57 := by rw [show Str.ofString "9" = ofL [57] from by decide +kernel, sg_lt]
theorem fg_n9 (c : Nat) : ((Str.ofString "9").cps.toList < (ofL [c]).cps.toList) ↔ 57 < c := by rw [show Str.ofString "9" = ofL [57] from by decide +kernel, sg_lt]
theorem safe_leaf {Q : Value → Shared → Prop} {S : Shared} {b b' : Bool} (h : b = b') (hq : Q (.bool b') S) : Q (.bool b) S := h ▸ hq
theorem safe_out {c : Nat} (h1 : ¬ (97 ≤ c ∧ c ≤ 122)) (h2 : ¬ (65 ≤ c ∧ c ≤ 90)) (h3 : ¬ (48 ≤ c ∧ c ≤ 57)) :
    (!(Builtin.Str.occurrences (Str.ofString "_@%+=:,./-") (ofL [c]) 0 (Str.ofString "_@%+=:,./-").length 1).isEmpty) = safeC c := by
  have h := occ_eq (Str.ofString "_@%+=:,./-") c
  unfold occ at h
  rw [h, Bool.not_not, show (Str.ofString "_@%+=:,./-").cps.toList = [95, 64, 37, 43, 61, 58, 44, 46, 47, 45] from by decide +kernel]
  unfold safeC
  have e1 : (decide (97 ≤ c) && decide (c ≤ 122)) = false := by simp; omega
  have e2 : (decide (65 ≤ c) && decide (c ≤ 90)) = false := by simp; omega
  have e3 : (decide (48 ≤ c) && decide (c ≤ 57)) = false := by simp; omega
  rw [e1, e2, e3]
  simp only [Bool.false_or]
  rw [← List.elem_eq_contains, List.elem_eq_mem]
theorem safe_in {c : Nat} {b : Bool} (hb : b = true) (h : (97 ≤ c ∧ c ≤ 122) ∨ (65 ≤ c ∧ c ≤ 90) ∨ (48 ≤ c ∧ c ≤ 57)) : b = safeC c := by
  rw [hb]
  unfold safeC
  symm
  simp only [Bool.or_eq_true, Bool.and_eq_true, decide_eq_true_eq]
  omega
theorem safe_spec {prog : Program} {w : World} {p : Program} {loose : List Str} {mean : ExcName → Option Value} {mg mb : Str → Option Value}
    {dp un : Nat} {gd : Option (List Code)} {cn : Str} {cs : Scope} {a : Addr} {ccd : Value} {cl : List (Str × Addr)} {outer : List Env} {A₀ : Around} {base h₀ : Heap} {L : Addr} {m : Str → Option Value} {s : Shared} {Q E : Value → Shared → Prop}
    (B : Below A₀ base outer h₀) (F : Fr h₀ L s.heap m) (X : (Kf w.params).In h₀) (T : Top p loose mean mg mb h₀) (hk : cs.kind = .function)
    {c : Nat} {tc : Tok} {own : List (Addr × Obj)}
    (N : News h₀ L s.heap own) (hc : c < 256)
    (hd : dp + 4 < recursionLimit) (hu : un + 60 < cLine)
    (hret : ∀ (h' : Heap) (tk' : Nat), Fr h₀ L h' m → News h₀ L h' own → Q (.bool (safeC c)) { s with heap := h', toks := tk' }) :
    wpAny (model prog w) (ktrTop dp un gd cn cs L a ccd cl outer) (call (.ref 809) [.str (ofL [c]) tc]) Q E s := by
  refine wpAny_call ?_
  k_dflt k_enter
  k_steps
  all_goals
    try have l_a := (fl_a c).mp (by assumption)
    try have ln_a := mt (fl_a c).mpr (by assumption)
    try have g_a := (fg_a c).mp (by assumption)
    try have gn_a := mt (fg_a c).mpr (by assumption)
    try have l_z := (fl_z c).mp (by assumption)
    try have ln_z := mt (fl_z c).mpr (by assumption)
    try have g_z := (fg_z c).mp (by assumption)
    try have gn_z := mt (fg_z c).mpr (by assumption)
    try have l_A := (fl_A c).mp (by assumption)
    try have ln_A := mt (fl_A c).mpr (by assumption)
    try have g_A := (fg_A c).mp (by assumption)
    try have gn_A := mt (fg_A c).mpr (by assumption)
    try have l_Z := (fl_Z c).mp (by assumption)
    try have ln_Z := mt (fl_Z c).mpr (by assumption)
    try have g_Z := (fg_Z c).mp (by assumption)
    try have gn_Z := mt (fg_Z c).mpr (by assumption)
    try have l_z0 := (fl_z0 c).mp (by assumption)
    try have ln_z0 := mt (fl_z0 c).mpr (by assumption)
    try have g_z0 := (fg_z0 c).mp (by assumption)
    try have gn_z0 := mt (fg_z0 c).mpr (by assumption)
    try have l_n9 := (fl_n9 c).mp (by assumption)
    try have ln_n9 := mt (fl_n9 c).mpr (by assumption)
    try have g_n9 := (fg_n9 c).mp (by assumption)
    try have gn_n9 := mt (fg_n9 c).mpr (by assumption)
    first
      | exact safe_leaf (safe_out (by omega) (by omega) (by omega)) (hret _ _ (by assumption) (by assumption))
      | exact safe_leaf (safe_in (by first | rfl | (simp only [Bool.not_eq_true', decide_eq_false_iff_not]; assumption)) (by omega)) (hret _ _ (by assumption) (by assumption))
section
theorem slice_K (t : List Nat) {i j : Nat} (hab : i ≤ j) (hb : j ≤ t.length) : Txt.slice (ofL t) (some (i : Int)) (some (j : Int)) = ofL ((t.drop i).take (j - i)) := by
  have h := StrLaws.sliceText_nat (ofL t) hab (by rw [ofL_len]; exact hb)
  have e : Txt.slice (ofL t) (some (i : Int)) (some (j : Int)) = StrLaws.sliceText (ofL t) (some (i : Int)) (some (j : Int)) := by rfl
  rw [e, h]
def EncI (t : List Nat) (n : Nat) (i : Nat) (rows : List (List Nat)) : Prop := ∃ f, i + f ≥ t.length ∧ i ≤ t.length ∧ rows.length ≤ i ∧ rows ++ rowsM n f (t.drop i) = rowsM n t.length t
theorem enc_0 (t : List Nat) (n : Nat) : EncI t n 0 [] := ⟨t.length, by omega, by omega, Nat.le_refl _, rfl⟩
theorem getD_drop (t : List Nat) (i k : Nat) : (t.drop i).getD k 0 = t.getD (i + k) 0 := by
  simp [List.getD_eq_getElem?_getD]
theorem enc_end {t : List Nat} {n i : Nat} {rows : List (List Nat)} (h : EncI t n i rows) (hi : t.length ≤ i + n) : rows ++ [t.drop i] = rowsM n t.length t ∧ rows.length ≤ t.length := by
  obtain ⟨f, h1, h2, h3, h4⟩ := h
  refine ⟨?_, by omega⟩
  rw [← h4]
  cases f with
  | zero => rfl
  | succ f => rw [rowsM, if_pos (by rw [List.length_drop]; omega)]
theorem enc_1 {t : List Nat} {n i : Nat} {rows : List (List Nat)} (h : EncI t n i rows) (hn : 4 ≤ n) (hi : i + n < t.length) (h61 : t.getD (i + (n - 3)) 0 = 61) : EncI t n (i + (n - 3)) (rows ++ [(t.drop i).take (n - 2)]) := by
  obtain ⟨f, h1, h2, h3, h4⟩ := h
  cases f with
  | zero => omega
  | succ f =>
    rw [rowsM, if_neg (by rw [List.length_drop]; omega), if_pos (by rw [getD_drop]; exact h61), List.drop_drop] at h4
    exact ⟨f, by omega, by omega, by simp; omega, by rw [List.append_assoc]; exact h4⟩
theorem enc_2 {t : List Nat} {n i : Nat} {rows : List (List Nat)} (h : EncI t n i rows) (hn : 4 ≤ n) (hi : i + n < t.length) (h61 : t.getD (i + (n - 3)) 0 ≠ 61) (h62 : t.getD (i + (n - 2)) 0 = 61) : EncI t n (i + (n - 2)) (rows ++ [(t.drop i).take (n - 1)]) := by
  obtain ⟨f, h1, h2, h3, h4⟩ := h
  cases f with
  | zero => omega
  | succ f =>
    rw [rowsM, if_neg (by rw [List.length_drop]; omega), if_neg (by rw [getD_drop]; exact h61), if_pos (by rw [getD_drop]; exact h62), List.drop_drop] at h4
    exact ⟨f, by omega, by omega, by simp; omega, by rw [List.append_assoc]; exact h4⟩
theorem enc_3 {t : List Nat} {n i : Nat} {rows : List (List Nat)} (h : EncI t n i rows) (hn : 4 ≤ n) (hi : i + n < t.length) (h61 : t.getD (i + (n - 3)) 0 ≠ 61) (h62 : t.getD (i + (n - 2)) 0 ≠ 61) : EncI t n (i + (n - 1)) (rows ++ [(t.drop i).take (n - 1) ++ [61]]) := by
  obtain ⟨f, h1, h2, h3, h4⟩ := h
  cases f with
  | zero => omega
  | succ f =>
    rw [rowsM, if_neg (by rw [List.length_drop]; omega), if_neg (by rw [getD_drop]; exact h61), if_neg (by rw [getD_drop]; exact h62), List.drop_drop] at h4
    exact ⟨f, by omega, by omega, by simp; omega, by rw [List.append_assoc]; exact h4⟩
theorem quote_last (u : List Nat) : ∃ a c, quoteM u = a ++ [c] ∧ (c = 39 ∨ safeC c = true) := by
  unfold quoteM
  split
  · exact ⟨[39], 39, rfl, .inl rfl⟩
  · rename_i hu
    split
    · rename_i hs
      rcases List.eq_nil_or_concat u with rfl | ⟨a, c, rfl⟩
      · exact absurd rfl hu
      · refine ⟨a, c, by simp, .inr ?_⟩
        exact List.all_eq_true.mp hs c (by simp)
    · exact ⟨_, 39, rfl, .inl rfl⟩
theorem join_last : ∀ {ws : List (List Nat)}, ws ≠ [] → ∃ a c, joinM ws = a ++ [c] ∧ (c = 39 ∨ safeC c = true)
  | [], h => absurd rfl h
  | [u], _ => quote_last u
  | u :: v :: r, _ => by
    obtain ⟨a, c, e, h⟩ := join_last (ws := v :: r) (fun x => nomatch x)
    exact ⟨quoteM u ++ 32 :: a, c, by rw [joinM, e, List.append_assoc]; rfl; exact (fun x => nomatch x), h⟩
theorem trans_last {b a : List Nat} {c : Nat} (e : b = a ++ [c]) (hc : c = 39 ∨ safeC c = true) : ∃ a' d, transM b = a' ++ [d] ∧ d ≠ 32 ∧ d ≠ 9 ∧ d ≠ 10 ∧ d ≠ 13 := by
  have h1 : c < 127 ∧ c ≠ 32 ∧ c ≠ 9 ∧ c ≠ 10 ∧ c ≠ 13 := by
    rcases hc with rfl | hc
    · decide
    · have k : ∀ x : Fin 123, safeC x.1 = true → x.1 < 127 ∧ x.1 ≠ 32 ∧ x.1 ≠ 9 ∧ x.1 ≠ 10 ∧ x.1 ≠ 13 := by decide +kernel
      exact k ⟨c, safe_small hc⟩ hc
  subst e
  unfold transM
  rw [List.flatMap_append]
  unfold shownC
  simp only [List.flatMap_cons, List.flatMap_nil, List.append_nil]
  split
  · exact ⟨_, c, rfl, h1.2⟩
  · refine ⟨_ ++ [61, hexC (c / 16)], hexC (c % 16), by rw [List.append_assoc]; rfl, ?_⟩
    have k : ∀ x : Fin 16, hexC x.1 ≠ 32 ∧ hexC x.1 ≠ 9 ∧ hexC x.1 ≠ 10 ∧ hexC x.1 ≠ 13 := by decide
    exact k ⟨c % 16, Nat.mod_lt _ (by decide)⟩
section
theorem bnd_of {q a : Addr} {h₀ h : Heap} {L : Addr} {news : List (Addr × Obj)} (N : News h₀ L h news) (hm : (q, bndO a) ∈ news) : BndAt q a h := (N _ hm).1
local macro_rules | `(tactic| walk_at "callWith ref") => `(tactic| (k_here; k_dflt (refine' callWith_bnd ?k1 ?k2 ?_; (case k1 => k_asm); (case k2 => k_mem); k_whole)))
local macro_rules | `(tactic| walk_at "BndAt") => `(tactic| (k_dflt (exact bnd_of (by k_asm) (by k_mem))))
local macro_rules | `(tactic| walk_at "And") => `(tactic| ((with_reducible show BndAt _ _ _ ∧ _); refine' ⟨bnd_of (by k_asm) (by k_mem), ?_⟩; try dsimp only [List.nil_append, List.cons_append]))
local macro_rules | `(tactic| walk_at "call ref") => `(tactic| (k_here; k_dflt (refine' call_bnd ?k1 ?k2 ?k3 ?k4 ?k5 ?_; (case k1 | k2 => k_asm); (case k3 => k_mem); (case k4 => k_updF); (case k5 => assumption)); intro c9 h9 F9 N9; (try rw [push_strs] at N9)))
noncomputable def eBody0 (l : List Stmt) : List Stmt := (stB (l.getD 7 (.Pass ⟨0, 0, 0, 0⟩))).1
@[reducible] noncomputable def eB : List Stmt := by
  have h : eBody0 b795 = eBody0 b795 := rfl
  conv at h => rhs; whnf
  exact rhsOf h
@[reducible] noncomputable def eW : List Stmt := by
  have h : wBody0 eB = wBody0 eB := rfl
  conv at h => rhs; whnf
  exact rhsOf h
abbrev ME (xq lb : Addr) (t eol : List Nat) (z : Int) (t2 t3 t4 t5 t6 : Tok) (lv sv lsv stv : Option Value) : Str → Option Value := fun y =>
  if y = Str.ofString "stop" then stv else if y = Str.ofString "laststart" then lsv else if y = Str.ofString "start" then sv else if y = Str.ofString "line" then lv else
  if y = Str.ofString "append" then some (.ref xq) else if y = Str.ofString "encoded_body" then some (.ref lb) else if y = Str.ofString "maxlinelen1" then some (.int (z - 1) t2) else
  if y = Str.ofString "soft_break" then some (.str (ofL ([61] ++ eol)) t3) else if y = Str.ofString "body" then some (.str (ofL t) t4) else if y = Str.ofString "maxlinelen" then some (.int z t5) else
  if y = Str.ofString "eol" then some (.str (ofL eol) t6) else none
theorem ME_turn {xq lb : Addr} {t eol : List Nat} {z : Int} {t2 t3 t4 t5 t6 : Tok} {lv sv lsv stv a b : Option Value} :
    (fun y => if y = Str.ofString "start" then a else if y = Str.ofString "stop" then b else ME xq lb t eol z t2 t3 t4 t5 t6 lv sv lsv stv y) = ME xq lb t eol z t2 t3 t4 t5 t6 lv a lsv b :=
  chain_eq (l1 := [(_, _), (_, _), (_, _), (_, _), (_, _)]) (l2 := [(_, _), (_, _), (_, _)]) (by kernel_rfl)
theorem eq_61 {c : Nat} (h : (ofL [c] == Str.ofString "=") = true) : c = 61 := by
  rw [lits.2.2.2, sg_eq] at h
  exact of_decide_eq_true h
theorem ne_61 {c : Nat} (h : (ofL [c] == Str.ofString "=") = false) : c ≠ 61 := by
  rw [lits.2.2.2, sg_eq] at h
  exact of_decide_eq_false h
theorem eq_61k {t : List Nat} {k : Int} {j : Nat} (h : (ofL [t.getD k.toNat 0] == Str.ofString "=") = true) (e : k = (j : Int)) : t.getD j 0 = 61 := by
  subst e
  exact eq_61 h
theorem ne_61k {t : List Nat} {k : Int} {j : Nat} (h : (ofL [t.getD k.toNat 0] == Str.ofString "=") = false) (e : k = (j : Int)) : t.getD j 0 ≠ 61 := by
  subst e
  exact ne_61 h
theorem slice_at {t : List Nat} {i k : Nat} {b : Int} (e : b = ((i + k : Nat) : Int)) (h : i + k ≤ t.length) : Txt.slice (ofL t) (some (i : Int)) (some b) = ofL ((t.drop i).take k) := by
  subst e
  rw [slice_K t (by omega) h]
  congr 2
  omega
abbrev EncQ (h₀ : Heap) (L xq lb : Addr) (t eol : List Nat) (n : Nat) (t2 t3 t4 t5 t6 : Tok) (lv lsv : Option Value) (i : Nat) (rows : List (List Nat)) (l : List (Str × Tok)) (own : List (Addr × Obj)) (s : Shared) (Q : Flow → Shared → Prop) : Prop :=
  ∀ (i' : Nat) (r : List Nat) (tr ti : Tok) (stv : Option Value) (c' : Nat) (h' : Heap) (tk' : Nat), i < i' → EncI t n i' (rows ++ [r]) → Fr h₀ L h' (ME xq lb t eol n t2 t3 t4 t5 t6 lv (some (.int i' ti)) lsv stv) →
    News h₀ L h' ((xq, bndO lb) :: (lb, lstO (strValues (l ++ [(ofL r, tr)])).toArray c') :: own) → Q .next { s with heap := h', toks := tk' }
theorem enc_leaf {h₀ h' : Heap} {L xq lb : Addr} {t eol : List Nat} {n : Nat} {t2 t3 t4 t5 t6 : Tok} {lv sv lsv stv : Option Value} {i : Nat} {rows : List (List Nat)} {l : List (Str × Tok)} {own : List (Addr × Obj)} {s : Shared} {Q : Flow → Shared → Prop}
    (i' : Nat) (r : List Nat) {v1 : Int} {u1 tr : Tok} {b : Option Value} {x : Str} {c' tk' : Nat}
    (hq : EncQ h₀ L xq lb t eol n t2 t3 t4 t5 t6 lv lsv i rows l own s Q)
    (F : Fr h₀ L h' (fun y => if y = Str.ofString "start" then some (.int v1 u1) else if y = Str.ofString "stop" then b else ME xq lb t eol n t2 t3 t4 t5 t6 lv sv lsv stv y))
    (N : News h₀ L h' ((xq, bndO lb) :: (lb, lstO (strValues (l ++ [(x, tr)])).toArray c') :: own)) (hlt : i < i') (hE : EncI t n i' (rows ++ [r])) (hv : v1 = (i' : Int)) (hx : x = ofL r) : Q .next { s with heap := h', toks := tk' } := by
  subst hv
  subst hx
  exact hq i' r tr u1 b c' h' tk' hlt hE (frc F ME_turn) N
theorem str_at {prog : Program} {w : World} {A : Around} {E : Value → Shared → Prop} {s : Shared} {t : List Nat} {tt u : Tok} {k : Int} {Q : Value → Shared → Prop} (h0 : 0 ≤ k) (h1 : k < t.length) (hl : t.length < 100000)
    (h : Q (.str (ofL [t.getD k.toNat 0]) s.toks) { s with toks := s.toks + 1 }) : wpAny (model prog w) A (getItem (.str (ofL t) tt) (.int k u)) Q E s := by
  obtain ⟨j, rfl⟩ := Int.eq_ofNat_of_zero_le h0
  have hj : j < t.length := by omega
  refine PyProof.Rows.getItem_str (c := t.getD j 0) (by simp; omega) ?_ h
  have e : seqIndex? (j : Int) (ofL t).length = some j := by
    unfold seqIndex?
    rw [ofL_len]
    simp
    omega
  rw [e]
  simp [hj]
local macro_rules | `(tactic| walk_at "subscriptTail") => `(tactic| (k_here; (with_reducible show wpAny _ _ (subscriptTail _ _ (Value.str (ofL _) _) (Value.int _ _)) _ _ _); refine subscriptTail_builtin (typeIs_str _ _ _) PySem.F.slot_str_getitem.lookup ?_))
local macro_rules | `(tactic| walk_at "subscriptTail Name BinOp str int") => `(tactic| (k_here; (with_reducible show wpAny _ _ (subscriptTail _ _ (Value.str (ofL _) _) (Value.int _ _)) _ _ _); refine subscriptTail_builtin (typeIs_str _ _ _) PySem.F.slot_str_getitem.lookup ?_))
local macro_rules | `(tactic| walk_at "getItem str int") => `(tactic| (k_here; (with_reducible show wpAny _ _ (getItem (Value.str (ofL _) _) (Value.int _ _)) _ _ _); refine str_at (by omega) (by omega) (by assumption) ?_))
theorem enc_turn {prog : Program} {w : World} {p : Program} {loose : List Str} {mean : ExcName → Option Value} {mg mb : Str → Option Value}
    {dp un : Nat} {gd : Option (List Code)} {outer : List Env} {A₀ : Around} {base h₀ : Heap} {L : Addr} {s : Shared} {Q : Flow → Shared → Prop} {E : Value → Shared → Prop}
    {xq lb : Addr} {t eol : List Nat} {n : Nat} {t1 t2 t3 t4 t5 t6 ti : Tok} {lsv stv : Option Value} {i : Nat} {rows : List (List Nat)} {l : List (Str × Tok)} {c : Nat} {own : List (Addr × Obj)}
    (B : Below A₀ base outer h₀) (F : Fr h₀ L s.heap (ME xq lb t eol n t2 t3 t4 t5 t6 (some (.str (ofL t) t1)) (some (.int i ti)) lsv stv)) (X : (Kf w.params).In h₀) (T : Top p loose mean mg mb h₀)
    (N : News h₀ L s.heap ((xq, bndO lb) :: (lb, lstO (strValues l).toArray c) :: own)) (hne : xq ≠ lb) (ho : OwnOff own [lb])
    (hn : 4 ≤ n) (hn2 : n ≤ 12) (ht : t.length < 100000) (hi : i + n < t.length) (hl : (strValues l).toArray.size < 1000000) (hE : EncI t n i rows)
    (hd : dp + 8 < recursionLimit) (hu : un + 100 < cLine)
    (hq : EncQ h₀ L xq lb t eol n t2 t3 t4 t5 t6 (some (.str (ofL t) t1)) lsv i rows l own s Q) :
    wpAny (model prog w) (ktrTop dp un gd (Str.ofString "body_encode") c795 L 795 (.ref 794) [] outer) (execs eW (envOf (Str.ofString "body_encode") c795 L 795 (.ref 794))) Q E s := by
  have hz : 4 ≤ (n : Int) := by omega
  have hz2 : (n : Int) ≤ 12 := by omega
  have hi2 : (i : Int) + n < t.length := by omega
  k_steps
  all_goals
    have F9 := ‹Fr _ _ _ (fun y => if y = Str.ofString "start" then _ else _)›
    have N9 := ‹News _ _ _ _›
    first
      | have a1 := eq_61k (k := (i : Int) + (n - 1) - 2) (j := i + (n - 3)) (by assumption) (by omega)
        exact enc_leaf (i + (n - 3)) _ hq F9 N9 (by omega) (enc_1 hE hn hi a1) (by omega) (slice_at (k := n - 2) (by omega) (by omega))
      | have a1 := ne_61k (k := (i : Int) + (n - 1) - 2) (j := i + (n - 3)) (by assumption) (by omega)
        first
          | have a2 := eq_61k (k := (i : Int) + (n - 1) - 1) (j := i + (n - 2)) (by assumption) (by omega)
            exact enc_leaf (i + (n - 2)) _ hq F9 N9 (by omega) (enc_2 hE hn hi a1 a2) (by omega) (slice_at (k := n - 1) (by omega) (by omega))
          | have a2 := ne_61k (k := (i : Int) + (n - 1) - 1) (j := i + (n - 2)) (by assumption) (by omega)
            exact enc_leaf (i + (n - 1)) _ hq F9 N9 (by omega) (enc_3 hE hn hi a1 a2) (by omega) (by rw [slice_at (k := n - 1) (by omega) (by omega), lits.2.2.2]; exact ofL_app _ _)
end
section
local macro_rules | `(tactic| walk_at "execs cons") => `(tactic| (k_here; refine halt ?_))
noncomputable def eTest0 (l : List Stmt) : PySem.Expr := (stB (l.getD 2 (.Pass ⟨0, 0, 0, 0⟩))).2
@[reducible] noncomputable def eTest : PySem.Expr := by
  have h : eTest0 eB = eTest0 eB := rfl
  conv at h => rhs; whnf
  exact rhsOf h
abbrev EncS (h₀ : Heap) (L xq lb : Addr) (t eol : List Nat) (n : Nat) (t2 t3 t4 t5 t6 : Tok) (lv lsv : Option Value) (own : List (Addr × Obj)) (s : Shared) (k : Nat) (s₁ : Shared) : Prop :=
  ∃ (i : Nat) (rows : List (List Nat)) (l : List (Str × Tok)) (ti : Tok) (stv : Option Value) (c : Nat) (h : Heap) (tk : Nat), s₁ = { s with heap := h, toks := tk } ∧ k + i = t.length ∧ EncI t n i rows ∧ l.map Prod.fst = rows.map ofL ∧
    Fr h₀ L h (ME xq lb t eol n t2 t3 t4 t5 t6 lv (some (.int i ti)) lsv stv) ∧ News h₀ L h ((xq, bndO lb) :: (lb, lstO (strValues l).toArray c) :: own)
theorem enc_while {prog : Program} {w : World} {p : Program} {loose : List Str} {mean : ExcName → Option Value} {mg mb : Str → Option Value}
    {dp un : Nat} {gd : Option (List Code)} {outer : List Env} {A₀ : Around} {base h₀ : Heap} {L : Addr} {s : Shared} {Q : Flow → Shared → Prop} {E : Value → Shared → Prop}
    {xq lb : Addr} {t eol : List Nat} {n : Nat} {t1 t2 t3 t4 t5 t6 ti tl : Tok} {v i0 : Int} {stv : Option Value} {c : Nat} {own : List (Addr × Obj)} {q9 : Pos}
    (B : Below A₀ base outer h₀) (F : Fr h₀ L s.heap (ME xq lb t eol n t2 t3 t4 t5 t6 (some (.str (ofL t) t1)) (some (.int i0 ti)) (some (.int v tl)) stv)) (X : (Kf w.params).In h₀) (T : Top p loose mean mg mb h₀)
    (N : News h₀ L s.heap ((xq, bndO lb) :: (lb, lstO (strValues []).toArray c) :: own)) (hne : xq ≠ lb) (ho : OwnOff own [lb]) (hv : v = (t.length : Int) - 1 - n) (h0 : i0 = 0)
    (hn : 4 ≤ n) (hn2 : n ≤ 12) (ht : t.length < 100000)
    (hd : dp + 8 < recursionLimit) (hu : un + 100 < cLine)
    (hE : PassesOwn (model prog w) (ktrTop dp un gd (Str.ofString "body_encode") c795 L 795 (.ref 794) [] outer) (envOf (Str.ofString "body_encode") c795 L 795 (.ref 794)) E)
    (hq : ∀ (i : Nat) (rows : List (List Nat)) (l : List (Str × Tok)) (ti : Tok) (stv : Option Value) (c : Nat) (h : Heap) (tk : Nat), EncI t n i rows → t.length ≤ i + n → l.map Prod.fst = rows.map ofL →
      Fr h₀ L h (ME xq lb t eol n t2 t3 t4 t5 t6 (some (.str (ofL t) t1)) (some (.int i ti)) (some (.int v tl)) stv) → News h₀ L h ((xq, bndO lb) :: (lb, lstO (strValues l).toArray c) :: own) → Q .next { s with heap := h, toks := tk }) :
    wpAny (model prog w) (ktrTop dp un gd (Str.ofString "body_encode") c795 L 795 (.ref 794) [] outer) (exec (.While eTest eW [] q9) (envOf (Str.ofString "body_encode") c795 L 795 (.ref 794))) Q E s := by
  subst h0
  refine while_inv hE (EncS h₀ L xq lb t eol n t2 t3 t4 t5 t6 (some (.str (ofL t) t1)) (some (.int v tl)) own s) (fun k s₁ hI => ?_) t.length ⟨0, [], [], ti, stv, c, s.heap, s.toks, rfl, rfl, enc_0 t n, rfl, F, N⟩
  obtain ⟨i, rows, l, ti, stv, c, h, tk, rfl, hk, hI, hr, F, N⟩ := hI
  have hlr : l.length = rows.length := by simpa using congrArg List.length hr
  obtain ⟨f0, hf1, hf2, hf3, hf4⟩ := id hI
  k_steps
  unfold WhlIf
  split
  · rename_i hb
    have hle := of_decide_eq_true hb
    refine enc_turn B F X T N hne ho hn hn2 ht (by omega) (by simp [strValues]; omega) hI hd hu ?_
    intro i' r tr ti' stv' c' h' tk' hlt hI' F' N'
    obtain ⟨f1, _, hf6, _, _⟩ := id hI'
    exact ⟨t.length - i', by omega, i', rows ++ [r], l ++ [(ofL r, tr)], ti', stv', c', h', tk', rfl, by omega, hI', by simp [hr], F', N'⟩
  · rename_i hb
    have hle := mt (decide_eq_true) hb
    exact wpAny_execs_nil (hq i rows l ti stv c h tk hI (by omega) hr F N)
end
section
local macro_rules | `(tactic| walk_at "truthy str") => `(tactic| (k_here; (with_reducible show wpAny _ _ (truthy (Value.str (ofL _) _)) _ _ _); refine truthy_ofL (by assumption) ?_))
local macro_rules | `(tactic| walk_at "exec For Name Call cons nil") => `(tactic| (k_here; refine halt ?_))
local macro_rules | `(tactic| walk_at "pyIter ref") => `(tactic| (k_here; refine halt ?_))
theorem tr_call {prog : Program} {w : World} {A : Around} {E : Value → Shared → Prop} {s : Shared} {P : Params} {b : List Nat} {tb : Tok} {Q : Value → Shared → Prop} (X : (Kf P).In s.heap) (hne : b.isEmpty = false) (hlen : b.length < 100000)
    (hb : ∀ c ∈ b, c < 256 ∧ c ≠ 10 ∧ c ≠ 13) (hq : ∀ t' tk', Q (.str (ofL (transM b)) t') { s with toks := tk' }) :
    wpAny (model prog w) A (call (.builtin "str.translate") [.str (ofL b) tb, .ref 784]) Q E s := by
  refine wpAny_call (codeAny_call_builtin PySem.F.slot_str_translate.plain PySem.F.entry_str_translate (PySem.F.slot_str_translate.check _ _ _ _ _ _ _ _ (typeIs_str _ _ _) (PySem.F.args_str_translate_2 _ _) ?_))
  exact tr_spec (P := P) (X _ _ rfl) (by rintro rfl; cases hne) hlen hb fun t' tk' => hq t' tk'
local macro_rules | `(tactic| walk_at "getMethod str") => `(tactic| (k_here; (with_reducible show wpAny _ _ (getMethod (Value.str _ _) (PySem.Str.ofString "translate") _) _ _ _); refine GM.of (.str _ _) (typeIs_str _ _ _) PySem.F.slot_str_translate PySem.F.type_str_translate GM.noRef ?_))
local macro_rules | `(tactic| walk_at "call builtin:str.translate") => `(tactic| (k_here; k_dflt (refine' tr_call ?zX ?z1 ?z2 ?z3 ?_; (case zX => k_in); (case z1 | z2 | z3 => assumption)); intro t9 k9))
local macro_rules | `(tactic| walk_at "exec While") => `(tactic| (k_here; refine halt ?_))
local macro_rules | `(tactic| walk_at "binaryOp Add") => `(tactic| (k_here; (with_reducible show wpAny _ _ (binaryOp _ (Value.str (Str.ofString "=") _) (Value.str (ofL _) _)) _ _ _); rw [show Str.ofString "=" = ofL [61] from by decide +kernel]; refine add_ofL (by simp) (by assumption) ?_; intro t9 k9))
local macro_rules | `(tactic| walk_at "binaryOp Add str str") => `(tactic| (k_here; (with_reducible show wpAny _ _ (binaryOp _ (Value.str (Str.ofString "=") _) (Value.str (ofL _) _)) _ _ _); rw [show Str.ofString "=" = ofL [61] from by decide +kernel]; refine add_ofL (by simp) (by assumption) ?_; intro t9 k9))
local macro_rules | `(tactic| walk_at "getAttr ref") => `(tactic| (k_here; (with_reducible show wpAny _ _ (getAttr (Value.ref _) (PySem.Str.ofString "append") _) _ _ _); k_dflt (refine' at_K ?k1 ?k2 ?k3 ?k4 ?_; (case k1 | k2 => k_asm); (case k3 => k_mem); (case k4 => exact rfl)); intro x9 h9 tk9 F9 N9 l9; (try k_lt l9)))
local macro_rules | `(tactic| walk_at "callWith ref") => `(tactic| (k_here; k_dflt (refine' callWith_bnd ?k1 ?k2 ?_; (case k1 => k_asm); (case k2 => k_mem); k_whole)))
local macro_rules | `(tactic| walk_at "BndAt") => `(tactic| (k_dflt (exact bnd_of (by k_asm) (by k_mem))))
local macro_rules | `(tactic| walk_at "And") => `(tactic| ((with_reducible show BndAt _ _ _ ∧ _); refine' ⟨bnd_of (by k_asm) (by k_mem), ?_⟩; try dsimp only [List.nil_append, List.cons_append]))
local macro_rules | `(tactic| walk_at "call ref") => `(tactic| (k_here; k_dflt (refine' call_bnd ?k1 ?k2 ?k3 ?k4 ?k5 ?_; (case k1 | k2 => k_asm); (case k3 => k_mem); (case k4 => k_updF); (case k5 => assumption)); intro c9 h9 F9 N9; (try rw [push_strs] at N9)))
local macro_rules | `(tactic| walk_at "call builtin:str.splitlines") => `(tactic| (k_here; k_dflt (refine' split_call ?k1 ?k2 ?k3 ?k4 ?_; (case k1 | k2 => k_asm); (case k3 | k4 => assumption)); intro x9 h9 F9 N9 l9; (try k_lt l9)))
abbrev SgE := List (Str × Tok) × Nat × Option Value × Option Value × Option Value × Option Value
abbrev EncJ (t : List Nat) (n : Nat) (i : Nat) (a : SgE) : Prop := (i = 0 → a.1 = []) ∧ (i = 1 → a.1.map Prod.fst = (rowsM n t.length t).map ofL)
theorem ME_line {xq lb : Addr} {t eol : List Nat} {z : Int} {t2 t3 t4 t5 t6 : Tok} {lv sv lsv stv a b d : Option Value} :
    (fun y => if y = Str.ofString "laststart" then a else if y = Str.ofString "start" then b else if y = Str.ofString "line" then d else ME xq lb t eol z t2 t3 t4 t5 t6 lv sv lsv stv y) = ME xq lb t eol z t2 t3 t4 t5 t6 d b a stv :=
  chain_eq (l1 := [(_, _), (_, _), (_, _), (_, _), (_, _), (_, _), (_, _)]) (l2 := [(_, _), (_, _), (_, _), (_, _)]) (by kernel_rfl)
theorem str_last {prog : Program} {w : World} {A : Around} {E : Value → Shared → Prop} {s : Shared} {t' : List Nat} {d : Nat} {tt u : Tok} {Q : Value → Shared → Prop}
    (h : Q (.str (ofL [d]) s.toks) { s with toks := s.toks + 1 }) : wpAny (model prog w) A (getItem (.str (ofL (t' ++ [d])) tt) (.int (-1) u)) Q E s := by
  refine PyProof.Rows.getItem_str (c := d) (by decide) ?_ h
  have e : seqIndex? (-1 : Int) (ofL (t' ++ [d])).length = some t'.length := by
    unfold seqIndex?
    rw [ofL_len]
    simp
    omega
  rw [e]
  simp
theorem slice_from {t : List Nat} {i : Nat} (h : i ≤ t.length) : Txt.slice (ofL t) (some (i : Int)) none = ofL (t.drop i) := by
  have e : Builtin.Str.strSliceIndices (some (i : Int)) none 1 (ofL t).length = Builtin.Str.strSliceIndices (some (i : Int)) (some ((t.length : Nat) : Int)) 1 (ofL t).length := by
    rw [ofL_len]
    unfold Builtin.Str.strSliceIndices
    dsimp only
    congr 1
    simp only [gt_iff_lt, show (0 : Int) < 1 by decide, if_true]
    rw [if_neg (by omega)]
    omega
  have e2 : Txt.slice (ofL t) (some (i : Int)) none = Txt.slice (ofL t) (some (i : Int)) (some ((t.length : Nat) : Int)) := by
    unfold Txt.slice
    rw [e]
  rw [e2, slice_K t h (Nat.le_refl _)]
  congr 1
  exact List.take_of_length_le (by simp)
local macro_rules | `(tactic| walk_at "subscriptTail Name UnaryOp str int") => `(tactic| (k_here; (with_reducible show wpAny _ _ (subscriptTail _ _ (Value.str (ofL _) _) (Value.int _ _)) _ _ _); refine subscriptTail_builtin (typeIs_str _ _ _) PySem.F.slot_str_getitem.lookup ?_))
local macro_rules | `(tactic| walk_at "subscriptTail") => `(tactic| (k_here; (with_reducible show wpAny _ _ (subscriptTail _ _ (Value.str (ofL _) _) (Value.int _ _)) _ _ _); refine subscriptTail_builtin (typeIs_str _ _ _) PySem.F.slot_str_getitem.lookup ?_))
local macro_rules | `(tactic| walk_at "getItem str int") => `(tactic| (k_here; (with_reducible show wpAny _ _ (getItem (Value.str (ofL (_ ++ [_])) _) (Value.int _ _)) _ _ _); refine str_last ?_))
theorem enc_fin {h₀ h' : Heap} {L xq lb : Addr} {t eol : List Nat} {n : Nat} {t2 t3 t4 t5 t6 tr : Tok} {lv sv lsv stv : Option Value} {rows : List (List Nat)} {r : List Nat} {l : List (Str × Tok)} {own' : List (Addr × Obj)} {s : Shared} {Q : Flow → Shared → Prop} {x : Str} {c' tk' : Nat}
    (F : Fr h₀ L h' (ME xq lb t eol n t2 t3 t4 t5 t6 lv sv lsv stv)) (N : News h₀ L h' ((xq, bndO lb) :: (lb, lstO (strValues (l ++ [(x, tr)])).toArray c') :: own')) (hx : x = ofL r) (hl : l.map Prod.fst = rows.map ofL) (hr : rows ++ [r] = rowsM n t.length t) :
    ForPost (σ := SgE) h₀ L (fun a => [(lb, lstO (strValues a.1).toArray a.2.1)]) (fun a => ME xq lb t eol n t2 t3 t4 t5 t6 a.2.2.1 a.2.2.2.1 a.2.2.2.2.1 a.2.2.2.2.2) (fun a => EncJ t n (0 + 1) a) own' s Q .next { s with heap := h', toks := tk' } :=
  ⟨(l ++ [(x, tr)], c', lv, sv, lsv, stv), h', tk', rfl, F, fun q hq => N q (by
    simp only [List.cons_append, List.nil_append, List.mem_cons] at hq ⊢
    rcases hq with h | h <;> simp [h]), fun h => absurd h (by decide), fun _ => by simp [← hr, hl, hx]⟩
theorem enc_loop {prog : Program} {w : World} {p : Program} {loose : List Str} {mean : ExcName → Option Value} {mg mb : Str → Option Value}
    {dp un : Nat} {gd : Option (List Code)} {outer : List Env} {A₀ : Around} {base h₀ : Heap} {L : Addr} {s : Shared} {Q : Flow → Shared → Prop} {E : Value → Shared → Prop}
    {x9 xq lb : Addr} {t' eol : List Nat} {d0 n : Nat} {tt t2 t3 t4 t5 t6 : Tok} {own : List (Addr × Obj)} {px : Pos}
    (B : Below A₀ base outer h₀) (F : Fr h₀ L s.heap (ME xq lb (t' ++ [d0]) eol n t2 t3 t4 t5 t6 none none none none)) (X : (Kf w.params).In h₀) (T : Top p loose mean mg mb h₀)
    (N : News h₀ L s.heap ((x9, lstO #[.str (ofL (t' ++ [d0])) tt] 0) :: (xq, bndO lb) :: (lb, lstO (strValues []).toArray 0) :: own)) (hne : xq ≠ lb) (hne2 : x9 ≠ lb) (ho : OwnOff own [lb])
    (hn : 4 ≤ n) (hn2 : n ≤ 12) (ht : (t' ++ [d0]).length < 100000) (hd0 : d0 ≠ 32 ∧ d0 ≠ 9 ∧ d0 ≠ 10 ∧ d0 ≠ 13)
    (hd : dp + 8 < recursionLimit) (hu : un + 100 < cLine)
    (hE : PassesOwn (model prog w) (ktrTop dp un gd (Str.ofString "body_encode") c795 L 795 (.ref 794) [] outer) (envOf (Str.ofString "body_encode") c795 L 795 (.ref 794)) E)
    (hq : ∀ (l : List (Str × Tok)) (c : Nat) (lv sv lsv stv : Option Value) (h : Heap) (tk : Nat), l.map Prod.fst = (rowsM n (t' ++ [d0]).length (t' ++ [d0])).map ofL →
      Fr h₀ L h (ME xq lb (t' ++ [d0]) eol n t2 t3 t4 t5 t6 lv sv lsv stv) → News h₀ L h ((lb, lstO (strValues l).toArray c) :: (x9, lstO #[.str (ofL (t' ++ [d0])) tt] 0) :: (xq, bndO lb) :: own) → Q .next { s with heap := h, toks := tk }) :
    wpAny (model prog w) (ktrTop dp un gd (Str.ofString "body_encode") c795 L 795 (.ref 794) [] outer) (pyIter (.ref x9))
      (LoopC prog w (ktrTop dp un gd (Str.ofString "body_encode") c795 L 795 (.ref 794) [] outer) (envOf (Str.ofString "body_encode") c795 L 795 (.ref 794)) (.Name (Str.ofString "line") px) eB Q E) E s := by
  have hte : (t' ++ [d0]).isEmpty = false := by simp
  have hlb : (ofL (t' ++ [d0])).length < 1000000 := by rw [ofL_len]; omega
  have hoc : occ (Str.ofString " \t") d0 = true := by
    rw [occ_eq, show (Str.ofString " \t").cps.toList = [32, 9] from by decide +kernel]
    simp
    omega
  refine loop_list (σ := SgE) (fun a => [(lb, lstO (strValues a.1).toArray a.2.1)]) (fun a => ME xq lb (t' ++ [d0]) eol n t2 t3 t4 t5 t6 a.2.2.1 a.2.2.2.1 a.2.2.2.2.1 a.2.2.2.2.2) (fun i a => EncJ (t' ++ [d0]) n i a) [lb]
    (vs := [.str (ofL (t' ++ [d0])) tt]) (own := (x9, lstO #[.str (ofL (t' ++ [d0])) tt] 0) :: (xq, bndO lb) :: own) (a₀ := ([], 0, none, none, none, none)) rfl hE ?_ (.inl ⟨_, .head _⟩) ?_ ?_ ?_ F ?_ ?_ ?_ ?_
  · exact ⟨_, (N _ (.head _)).1, rfl, _, rfl⟩
  · intro i a _ p hp
    simp only [List.mem_cons, List.not_mem_nil, or_false] at hp
    subst hp
    exact fun e => absurd (Value.type.inj e) (by decide)
  · intro b hb
    simp only [List.mem_cons, List.not_mem_nil, or_false] at hb
    subst hb
    exact ⟨_, .head _⟩
  · intro p hp b hb
    simp only [List.mem_cons, List.not_mem_nil, or_false] at hb
    subst hb
    simp only [List.mem_cons] at hp
    rcases hp with rfl | rfl | hp
    · exact hne2
    · exact hne
    · exact ho p hp _ (by simp)
  · intro q hq
    refine N q ?_
    simp only [List.cons_append, List.nil_append, List.mem_cons] at hq ⊢
    rcases hq with h | h | h | h <;> simp [h]
  · exact ⟨fun _ => rfl, fun h => absurd h (by decide)⟩
  · rintro i x ⟨l, c, lv, sv, lsv, stv⟩ h tk own' hx ⟨j0, j1⟩ hsub hoff F1 N1
    have hi : i = 0 := by
      rcases i with _ | i
      · rfl
      · simp at hx
    subst hi
    have hx' : .str (ofL (t' ++ [d0])) tt = x := by simpa using hx
    subst hx'
    have hl := j0 rfl
    dsimp only at hl
    subst hl
    dsimp only [List.cons_append, List.nil_append] at F1 N1
    have N2 : News h₀ L h ((xq, bndO lb) :: (lb, lstO (strValues []).toArray c) :: own') := fun q hq => by
      simp only [List.mem_cons] at hq
      rcases hq with rfl | rfl | hq
      · exact N1 _ (.tail _ (hsub _ (by simp)))
      · exact N1 _ (.head _)
      · exact N1 _ (.tail _ hq)
    clear N F N1
    k_steps
    refine unhalt ?_
    have F9 := frc ‹Fr _ _ _ (fun y => if y = Str.ofString "laststart" then _ else _)› ME_line
    refine enc_while ‹Below _ _ _ _› F9 X T (by assumption) hne hoff (by rw [ofL_len]) rfl hn hn2 ht hd hu hE ?_
    intro i rows l ti stv c h tk hI hlen hr F3 N3
    clear F9
    obtain ⟨hrow, hrl⟩ := enc_end hI hlen
    obtain ⟨_, _, hil, _, _⟩ := id hI
    have z3 : (strValues l).toArray.size < 1000000 := by
      have := congrArg List.length hr
      simp at this
      simp only [strValues, List.size_toArray, List.length_map, this]
      omega
    k_steps
    all_goals exact enc_fin ‹Fr h₀ L _ (ME _ _ _ _ _ _ _ _ _ _ _ _ _ _)› ‹News h₀ L _ ((xq, bndO lb) :: (lb, lstO (strValues (l ++ [_])).toArray _) :: own')› (slice_from (by omega)) hr hrow
  · rintro ⟨l, c, lv, sv, lsv, stv⟩ h tk ⟨j0, j1⟩ F1 N1
    exact hq l c lv sv lsv stv h tk (j1 rfl) F1 N1
section
theorem look3 {y x1 x2 x3 : Str} {v1 v2 v3 : Value} (h1 : y ≠ x1) (h2 : y ≠ x2) (h3 : y ≠ x3) : List.lookup y [(x1, v1), (x2, v2), (x3, v3)] = none := by
  rw [List.lookup_cons, beq_eq_false_iff_ne.mpr h1]
  dsimp only
  rw [List.lookup_cons, beq_eq_false_iff_ne.mpr h2]
  exact look1 h3
theorem ME_start {xq lb : Addr} {t eol : List Nat} {z : Int} {t2 t3 t4 t5 t6 : Tok} {f : Str → Option Value} (h0 : f (Str.ofString "maxlinelen") = some (.int z t5)) (h1 : f (Str.ofString "eol") = some (.str (ofL eol) t6))
    (h2 : ∀ y, y ≠ Str.ofString "body" → y ≠ Str.ofString "maxlinelen" → y ≠ Str.ofString "eol" → f y = none) :
    (fun y => if y = Str.ofString "append" then some (.ref xq) else if y = Str.ofString "encoded_body" then some (.ref lb) else if y = Str.ofString "maxlinelen1" then some (.int (z - 1) t2) else
      if y = Str.ofString "soft_break" then some (.str (ofL ([61] ++ eol)) t3) else if y = Str.ofString "body" then some (.str (ofL t) t4) else f y) = ME xq lb t eol z t2 t3 t4 t5 t6 none none none none :=
  have g : ∀ x ∈ ["stop", "laststart", "start", "line"], f (Str.ofString x) = none := fun x hx => h2 _ ((by decide +kernel : ∀ x ∈ ["stop", "laststart", "start", "line"], Str.ofString x ≠ Str.ofString "body") x hx) ((by decide +kernel : ∀ x ∈ ["stop", "laststart", "start", "line"], Str.ofString x ≠ Str.ofString "maxlinelen") x hx) ((by decide +kernel : ∀ x ∈ ["stop", "laststart", "start", "line"], Str.ofString x ≠ Str.ofString "eol") x hx)
  chain_from (l1 := [(_, _), (_, _), (_, _), (_, _), (_, _)]) (l2 := [(_, _), (_, _), (_, _), (_, _), (_, _), (_, _), (_, _), (_, _), (_, _), (_, _), (_, _)]) [(_, _), (_, _), (_, _), (_, _), (_, _), (_, _)] ⟨h0, h1, g _ (.head _), g _ (.tail _ (.head _)), g _ (.tail _ (.tail _ (.head _))), g _ (.tail _ (.tail _ (.tail _ (.head _)))), trivial⟩ (fun y h => h2 y (h (_, _) (.tail _ (.tail _ (.tail _ (.tail _ (.head _)))))) (h (_, _) (.tail _ (.tail _ (.tail _ (.tail _ (.tail _ (.head _))))))) (h (_, _) (.tail _ (.tail _ (.tail _ (.tail _ (.tail _ (.tail _ (.head _))))))))) (by kernel_rfl)
theorem trans_len : ∀ b : List Nat, (transM b).length ≤ 3 * b.length
  | [] => by simp [transM]
  | c :: r => by
    have ih := trans_len r
    have := shown_len c
    unfold transM at ih ⊢
    rw [List.flatMap_cons, List.length_append, List.length_cons]
    omega
theorem rows_tail {f r : Nat} {rs : List (List Nat)} {row l : List Nat} (hr : row.length ≤ r + 1) (hl : r ≤ l.length) (i : (rs.map List.length).sum ≤ l.length - r + f ∧ rs.length ≤ f + 1) :
    ((row :: rs).map List.length).sum ≤ l.length + (f + 1) ∧ (row :: rs).length ≤ f + 1 + 1 := by
  obtain ⟨i1, i2⟩ := i
  refine ⟨?_, Nat.succ_le_succ i2⟩
  show row.length + (rs.map List.length).sum ≤ _
  refine Nat.le_trans (Nat.add_le_add hr i1) (Nat.le_of_eq ?_)
  rw [Nat.add_assoc, Nat.add_left_comm, ← Nat.add_assoc r, Nat.add_sub_cancel' hl]
  exact (Nat.add_left_comm 1 l.length f).trans (congrArg _ (Nat.add_comm 1 f))
theorem rows_sum (n : Nat) : ∀ (f : Nat) (l : List Nat), ((rowsM n f l).map List.length).sum ≤ l.length + f ∧ (rowsM n f l).length ≤ f + 1
  | 0, l => by simp [rowsM]
  | f + 1, l => by
    unfold rowsM
    split
    · simp
    · rename_i h
      have hn : ∀ k, n - k ≤ l.length := fun k => Nat.le_trans (Nat.sub_le _ _) (Nat.le_of_not_le h)
      split
      · exact rows_tail (r := n - 3) (Nat.le_trans (List.length_take_le _ _) (Nat.le_succ_of_pred_le (Nat.le_refl (n - 3)))) (hn 3) (List.length_drop ▸ rows_sum n f (l.drop (n - 3)))
      · split
        · exact rows_tail (r := n - 2) (Nat.le_trans (List.length_take_le _ _) (Nat.le_succ_of_pred_le (Nat.le_refl (n - 2)))) (hn 2) (List.length_drop ▸ rows_sum n f (l.drop (n - 2)))
        · exact rows_tail (r := n - 1) (by rw [List.length_append]; exact Nat.succ_le_succ (List.length_take_le _ _)) (hn 1) (List.length_drop ▸ rows_sum n f (l.drop (n - 1)))
theorem unite_str (eol : List Nat) : ∀ rs : List (List Nat), Str.join (ofL eol) (rs.map ofL) = ofL (unite eol rs)
  | [] => rfl
  | [u] => rfl
  | u :: v :: r => by
    have ih := unite_str eol (v :: r)
    simp only [List.map_cons] at ih ⊢
    show ofL u ++ ofL eol ++ Str.join (ofL eol) (ofL v :: r.map ofL) = _
    rw [ih, ofL_app, ofL_app]
    rfl
theorem unite_join (eol : List Nat) (rs : List (List Nat)) : Txt.join (ofL eol) (rs.map ofL) = ofL (unite eol rs) := by
  show Builtin.Str.glued _ _ = _
  rw [StrLaws.glued_eq_join, unite_str]
theorem enc_join {prog : Program} {w : World} {A : Around} {E : Value → Shared → Prop} {s : Shared} {h₀ : Heap} {L : Addr} {news : List (Addr × Obj)} {D : Addr} {l : List (Str × Tok)} {c n : Nat} {t eol : List Nat} {te : Tok} {Q : Value → Shared → Prop}
    (N : News h₀ L s.heap news) (hm : (D, lstO (strValues l).toArray c) ∈ news) (hl : l.map Prod.fst = (rowsM n t.length t).map ofL) (he : eol.length ≤ 64) (ht : t.length < 90000)
    (hq : ∀ t' k, Q (.str (ofL (unite eol (rowsM n t.length t))) t') { s with toks := k }) :
    wpAny (model prog w) A (call (.builtin "str.join") [.str (ofL eol) te, .ref D]) Q E s := by
  refine join_listC (items := (strValues l).toArray) (ys := l.map (·.1)) ⟨_, (N _ hm).1, rfl, _, rfl⟩ (strsAre_of_values l) (by rw [ofL_len]; exact he) ?_ ?_
  · have h1 := rows_sum n t.length t
    have e : (l.map (·.1)) = (rowsM n t.length t).map ofL := hl
    rw [e, List.map_map, List.length_map]
    have e2 : ((rowsM n t.length t).map ((fun x : Str => x.length) ∘ ofL)) = (rowsM n t.length t).map List.length := by
      apply List.map_congr_left
      intro a _
      exact ofL_len a
    rw [e2]
    omega
  · intro t' k
    have e : (l.map (·.1)) = (rowsM n t.length t).map ofL := hl
    rw [e, unite_join]
    exact hq t' k
local macro_rules | `(tactic| walk_at "call builtin:str.join") => `(tactic| (k_here; k_dflt (refine' enc_join ?k1 ?k2 ?k3 ?k4 ?k5 ?_; (case k1 => k_asm); (case k2 => k_mem); (case k3 | k4 | k5 => assumption)); intro t9 k9))
theorem enc_spec {prog : Program} {w : World} {p : Program} {loose : List Str} {mean : ExcName → Option Value} {mg mb : Str → Option Value}
    {dp un : Nat} {gd : Option (List Code)} {cn : Str} {cs : Scope} {a : Addr} {ccd : Value} {cl : List (Str × Addr)} {outer : List Env} {A₀ : Around} {base h₀ : Heap} {L : Addr} {m : Str → Option Value} {s : Shared} {Q E : Value → Shared → Prop}
    (B : Below A₀ base outer h₀) (F : Fr h₀ L s.heap m) (X : (Kf w.params).In h₀) (T : Top p loose mean mg mb h₀) (hk : cs.kind = .function)
    {b b' eol : List Nat} {d0 : Nat} {tb te tz : Tok} {n : Nat} {own : List (Addr × Obj)}
    (N : News h₀ L s.heap own) (hb : b.length < 30000) (hne : b ≠ []) (hbc : ∀ c ∈ b, c < 256 ∧ c ≠ 10 ∧ c ≠ 13) (he : IsEol eol) (hn : 4 ≤ n) (hn2 : n ≤ 12) (hlast : transM b = b' ++ [d0]) (hd0 : d0 ≠ 32 ∧ d0 ≠ 9 ∧ d0 ≠ 10 ∧ d0 ≠ 13)
    (hd : dp + 10 < recursionLimit) (hu : un + 150 < cLine)
    (hret : ∀ (t' : Tok) (h' : Heap) (tk' : Nat), Fr h₀ L h' m → News h₀ L h' own → Q (.str (ofL (encodeM b n eol)) t') { s with heap := h', toks := tk' }) :
    wpAny (model prog w) (ktrTop dp un gd cn cs L a ccd cl outer) (call (.ref 795) [.str (ofL b) tb, .int n tz, .str (ofL eol) te]) Q E s := by
  have hb6 : b.length < 1000000 := by omega
  have hb5 : b.length < 100000 := by omega
  have hz : 4 ≤ (n : Int) := by omega
  have hz2 : (n : Int) ≤ 12 := by omega
  have heol : eol.length < 1000000 := by rcases he with rfl | rfl | rfl <;> simp
  have hbe : b.isEmpty = false := by cases b <;> simp at hne ⊢
  have htne : transM b ≠ [] := by rw [hlast]; simp
  have htb : ∀ d ∈ transM b, Unicode.isLineBreak d = false := fun d hd => plain_nobreak (trans_plain (fun c hc => (hbc c hc).1) d hd)
  have htl := trans_len b
  have hoc : occ (Str.ofString "\x0d\n") d0 = true := by
    rw [occ_eq, show (Str.ofString "\x0d\n").cps.toList = [13, 10] from by decide +kernel]
    simp
    omega
  refine wpAny_call ?_
  k_dflt k_enter
  k_steps
  refine unhalt ?_
  refine for_start ?_
  k_steps
  refine unhalt ?_
  rename News _ _ _ _ => N9
  have F8 := ‹Fr _ _ _ (fun y => if y = Str.ofString "append" then _ else _)›
  have F9 := frc F8 (ME_start rfl rfl (fun y h1 h2 h3 => look3 h3 h2 h1))
  rw [hlast] at N9 F9
  refine enc_loop ‹Below (ktrTop _ _ _ _ _ _ _ _ _ _) _ _ _› F9 (by assumption) (by assumption) N9 (Nat.ne_of_gt (‹_ < _ ∧ AllLt _ own›).1) (Nat.ne_of_gt (‹_ < _ ∧ _ < _ ∧ AllLt _ own›).2.1)
    (fun p hp b hb => by simp only [List.mem_cons, List.not_mem_nil, or_false] at hb; subst hb; exact Nat.ne_of_lt (‹∀ p ∈ own, p.1 < _› p hp)) hn hn2 (by rw [← hlast]; omega) hd0 (by ktr_room) (by ktr_units) (by first | passes_own | with_unfolding_all passes_own) ?_
  intro l c lv sv lsv stv h tk hl F3 N3
  clear F9 F8 N9
  dsimp only
  have ht9 : (b' ++ [d0]).length < 90000 := by rw [← hlast]; omega
  have he9 : eol.length ≤ 64 := by rcases he with rfl | rfl | rfl <;> decide
  k_steps
  all_goals
    rw [← hlast]
    exact hret _ _ _ (by assumption) (fun p hp => ‹News h₀ L _ ((_, _) :: (_, _) :: (_, _) :: own)› p (.tail _ (.tail _ (.tail _ hp))))
end
end
section
theorem ofs_eq (a b : String) : (Str.ofString a = Str.ofString b) = (a = b) := by
  apply propext
  constructor
  · intro h
    rw [Str.ofString_eq_toList, Str.ofString_eq_toList] at h
    have h1 : a.toList.map Char.toNat = b.toList.map Char.toNat := by
      simpa using h
    have h2 : a.toList = b.toList := (List.map_inj_right (fun x y e => Char.toNat_inj.mp e)).mp h1
    exact String.toList_inj.mp h2
  · rintro rfl
    rfl
section
variable {prog : Program} {w : World} {A : Around} {E : Value → Shared → Prop} {env : Env} {s : Shared}
theorem rest_const {h₀ : Heap} {L : Addr} {m : Str → Option Value} {elt : PySem.Expr} {x : Str} {scope : Scope} {cl : List (Str × Addr)} {S : List (Addr × Obj) → Prop} {P : Nat → Value → Prop} {Fin : List Value → List (Addr × Obj) → Prop} {n : Nat} {news : List (Addr × Obj)}
    (R : Nat → Value → Prop) (hS : S news)
    (turn : ∀ i v ys I oI C oC D m₂ h tk (E' : Value → Shared → Prop), P i v → LCg.NsObj oC m₂ → m₂ x = some v → Fr h₀ L h m → News h₀ L h ((I, oI) :: (C, oC) :: (D, LCg.lst ys) :: news) → LCg.Off3 I C D news → ((@Ne Nat I C) ∧ (@Ne Nat I D) ∧ (@Ne Nat C D)) →
      wpAny (model prog w) A (eval elt (compEnvC scope cl C env)) (fun y s' => ∃ h' tk', s' = { s with heap := h', toks := tk' } ∧ Fr h₀ L h' m ∧ News h₀ L h' ((I, oI) :: (C, oC) :: (D, LCg.lst ys) :: news) ∧ R i y) E' { s with heap := h, toks := tk })
    (fin : ∀ ys, ys.length = n → (∀ i y, ys[i]? = some y → R i y) → Fin ys news) : LCg.CompRest prog w A h₀ L m env elt x scope cl s S P Fin n 0 [] news := by
  have key : ∀ k i ys, i + k = n → ys.length = i → (∀ j y, ys[j]? = some y → R j y) → LCg.CompRest prog w A h₀ L m env elt x scope cl s S P Fin k i ys news := by
    intro k
    induction k with
    | zero => intro i ys hk hl hr; exact fin ys (by omega) hr
    | succ k ih =>
      intro i ys hk hl hr
      refine LCg.CompRest.succ fun v I oI C oC D m₂ h tk E' hP hC hx F N hoff hne => ?_
      refine wpAny_mono (turn i v ys I oI C oC D m₂ h tk E' hP hC hx F N hoff hne) (fun y s' hy => ?_) fun _ _ z => z
      obtain ⟨h', tk', rfl, F', N', hR⟩ := hy
      refine ⟨h', tk', news, rfl, F', N', hoff, hS, ih (i + 1) (ys ++ [y]) (by omega) (by simp [hl]) fun j z hj => ?_⟩
      rcases Nat.lt_or_ge j ys.length with hlt | hge
      · rw [List.getElem?_append_left hlt] at hj
        exact hr j z hj
      · rw [List.getElem?_append_right hge] at hj
        have : j = ys.length := by
          have := (List.getElem?_eq_some_iff.mp hj).1
          simp at this
          omega
        subst this
        simp at hj
        subst hj
        rw [hl]
        exact hR
  exact key n 0 [] (by omega) rfl fun j y h => by simp at h
theorem loop_listT {σ : Type} {elts : List PySem.Expr} {x1 : Nat} {px : Pos} (F : σ → List (Addr × Obj)) (M : σ → Str → Option Value) (J : Nat → σ → Prop) (adr : List Addr) {h₀ : Heap} {l : Addr} {vs : List Value} {body : List Stmt} {Q : Flow → Shared → Prop} {own : List (Addr × Obj)} {a₀ : σ}
    (hh : A.handled = none) (hE : PassesOwn (model prog w) A env E) (hrefs : ∀ v ∈ vs, ∃ a, v = .ref a)
    (hl : s.heap.IsList l vs.toArray) (hlo : (∃ o, (l, o) ∈ own) ∨ ∃ o, h₀.get? l = some o)
    (hF : ∀ i a, J i a → ∀ p ∈ F a, p.2.cls ≠ .type "list_iterator") (hadr : ∀ b ∈ adr, ∃ o, (b, o) ∈ F a₀) (hoff : OwnOff own adr)
    (F0 : Fr h₀ env.locals s.heap (M a₀)) (N0 : News h₀ env.locals s.heap (F a₀ ++ own)) (j0 : J 0 a₀)
    (turn : ∀ i x a h tk own', vs[i]? = some x → J i a → (∀ p ∈ own, p ∈ own') → OwnOff own' adr → Fr h₀ env.locals h (M a) → News h₀ env.locals h (F a ++ own') →
      wpAny (model prog w) A (assign (.Tuple elts x1 px) env x) (fun _ s₂ => wpAny (model prog w) A (execs body env) (ForPost h₀ env.locals F M (J (i + 1)) own' { s with heap := h, toks := tk } Q) E s₂) E { s with heap := h, toks := tk })
    (done : ∀ a h tk, J vs.length a → Fr h₀ env.locals h (M a) → News h₀ env.locals h (F a ++ own) → Q .next { s with heap := h, toks := tk }) :
    wpAny (model prog w) A (pyIter (.ref l)) (LoopC prog w A env (.Tuple elts x1 px) body Q E) E s := by
  refine wpAny_pyIter_list hl ?_
  obtain ⟨ol, hol, _⟩ := id hl
  have hne : l ≠ s.heap.objs.size := Nat.ne_of_lt (Heap.lt_size hol)
  have W := Walks.list (prog := prog) (w := w) hh s.heap.objs.size l hne vs.toArray
  have hn : vs.toArray.size = vs.length := by simp
  rw [hn] at W
  have F1 := F0.push { cls := .type "list_iterator", data := .fields #[.ref l, .int 0 0] }
  have N1 := N0.push F0 { cls := .type "list_iterator", data := .fields #[.ref l, .int 0 0] }
  have hl1 : (s.heap.push { cls := .type "list_iterator", data := .fields #[.ref l, .int 0 0] }).IsList l vs.toArray := hl.at fun o e => Heap.get?_push_of_some _ e
  refine walk_forT F M J (own := own) (a₀ := a₀) (o₀ := { cls := .type "list_iterator", data := .fields #[.ref l, .int 0 0] }) hE W (fun b hb => by simpa using hb) (ty := "list_iterator") (fun i h st => ?_) (fun i v s Q E hv st hQ => ?_) (fun b hb => ?_) ?_ (next_is_new F0) hF (fun p hp => ?_) ⟨⟨_, Heap.get?_push_size _ rfl, rfl, rfl⟩, hl1⟩ F1 (fun q hq => N1 q ?_) j0 (fun i x a h tk o hi hx hj Fa Na => ?_) (fun a h tk hj Fa Na => done a h tk hj Fa Na)
  · obtain ⟨⟨o, ho, hc, _⟩, _⟩ := st
    exact ⟨o, ho, hc⟩
  · obtain ⟨a, rfl⟩ := hrefs v (List.mem_of_getElem? (by simpa using hv))
    exact wpAny_letOwnedTupleGo_listiter st.1 hQ
  · simp only [List.mem_cons, List.not_mem_nil, or_false] at hb
    rcases hb with rfl | rfl
    · exact .inl rfl
    · exact .inr hlo
  · obtain ⟨oL, _, _, hL, _⟩ := F0.ns
    exact Nat.ne_of_gt (Heap.lt_size hL)
  · exact Nat.ne_of_lt (Heap.lt_size (N0 p (List.mem_append.mpr (.inr hp))).1)
  · simp only [List.mem_append, List.mem_cons] at hq ⊢
    rcases hq with h | h | h <;> simp [h]
  · refine turn i x a h tk ((s.heap.objs.size, o) :: own) (by simpa using hx) hj (fun p hp => .tail _ hp) (fun p hp b hb => ?_) Fa Na
    rcases List.mem_cons.mp hp with rfl | hp
    · obtain ⟨ob, hob⟩ := hadr b hb
      exact Nat.ne_of_gt (Heap.lt_size (N0 _ (List.mem_append.mpr (.inl hob))).1)
    · exact hoff p hp b hb
end
section
section
variable {prog : Program} {w : World} {A : Around} {E : Value → Shared → Prop} {env : Env} {s : Shared}
theorem notEmpty {items : Array Value} (hz : 0 < items.size) : items.isEmpty = false := by
  cases h : items.isEmpty with
  | false => rfl
  | true =>
    have := Array.isEmpty_iff.mp h
    subst this
    exact absurd hz (Nat.lt_irrefl _)
theorem eq_nil {a b : Addr} {items : Array Value} {Q : Value → Shared → Prop} (hl : s.heap.IsList a items) (hb : s.heap.IsList b #[]) (hu : A.units < cLine) (h : Q (.bool items.isEmpty) s) : wpAny (model prog w) A (compareOp .Eq (.ref a) (.ref b)) Q E s := by
  rcases Nat.eq_zero_or_pos items.size with hz | hz
  · have e : items = #[] := Array.eq_empty_of_size_eq_zero hz
    subst e
    exact SeqAt.eq_listAt (e := fun _ => true) hl hb rfl hu (fun j h1 _ => absurd h1 (Nat.not_lt_zero _)) h
  · have e := notEmpty hz
    rw [e] at h
    exact SeqAt.eq_list_lengthsAt hl hb (by simp only [List.size_toArray, List.length_nil, bne_iff_ne]; exact Nat.ne_of_gt hz) hu h
theorem ne_nil {a b : Addr} {items : Array Value} {Q : Value → Shared → Prop} (hl : s.heap.IsList a items) (hb : s.heap.IsList b #[]) (hu : A.units < cLine) (h : Q (.bool (!items.isEmpty)) s) : wpAny (model prog w) A (compareOp .NotEq (.ref a) (.ref b)) Q E s := by
  rcases Nat.eq_zero_or_pos items.size with hz | hz
  · have e : items = #[] := Array.eq_empty_of_size_eq_zero hz
    subst e
    exact SeqAt.RcNeAt.lists (e := fun _ => true) hl hb rfl hu (fun j h1 _ => absurd h1 (Nat.not_lt_zero _)) prog w E Q h
  · have e := notEmpty hz
    rw [e] at h
    exact SeqAt.RcNeAt.lists_lengths hl hb (by simp only [List.size_toArray, List.length_nil, bne_iff_ne]; exact Nat.ne_of_gt hz) hu prog w E Q h
def StrSrc (prog : Program) (w : World) (A : Around) (h₀ : Heap) (L : Addr) (m : Str → Option Value) (env : Env) (ct elt : PySem.Expr) (x : Str) (scope : Scope) (cl : List (Str × Addr)) (Q : Value → Shared → Prop) (xv : Value) (s₁ : Shared) : Prop :=
  ∃ (xt : List Nat) (t : Tok) (news : List (Addr × Obj)), xv = .str (ofL xt) t ∧ A.handled = none ∧ Fr h₀ L s₁.heap m ∧ News h₀ L s₁.heap news ∧ xt.length ≤ sizeLine ∧
    ∀ s₂ : Shared, (∃ h, s₂ = { s₁ with heap := h }) → LCt.CompRestT prog w A h₀ L m env ct elt x scope cl s₂ (fun _ => True) (SignAt (ofL xt)) (LCg.FinE h₀ L m s₂ Q) xt.length 0 [] news
theorem ListComp_str {h₀ : Heap} {L : Addr} {m : Str → Option Value} {ct elt iter : PySem.Expr} {x : Str} {px : Pos} {scope : Scope} {cl : List (Str × Addr)} {pos : Pos} {Q : Value → Shared → Prop} (F₀ : Fr h₀ L s.heap m)
    (hclos : closureFor scope env = pure cl) (hcell : ∀ y ∈ scope.names, y.2 ≠ .cell) (hkind : scope.kind = .function)
    (hnames : ∀ y ∈ scope.names, y.2 = .local → scope.names.lookup y.1 = some .local) (hx : scope.names.lookup x = some .local)
    (h : wpAny (model prog w) A (eval iter env) (StrSrc prog w A h₀ L m env ct elt x scope cl Q) E s)
    (hs : ∀ x, foldedSetIterable iter env x = pure x := by intro _; rfl) :
    wpAny (model prog w) A (eval (.ListComp elt [⟨.Name x px, iter, [ct], 0⟩] scope pos) env) Q E s := by
  rw [eval_ListComp]
  refine wpAny_comprehension_free (use := none) rfl hs hclos hkind hnames (wpAny_mono h (fun xv s₁ h₁ => ?_) fun _ _ e => e)
  obtain ⟨xt, t, news, rfl, hh, F, N, hsz, R⟩ := h₁
  have hn : (ofL xt).cps.size = xt.length := by simp [ofL]
  refine wpAny_pyIter_strU ?_
  obtain ⟨T, eT, W'⟩ : ∃ T, strIterType (ofL xt) = T ∧ Walks prog w A s₁.heap.objs.size [s₁.heap.objs.size] [s₁.heap.objs.size] (ofL xt).cps.size (SignAt (ofL xt)) (fun i h => h.IsStrIter s₁.heap.objs.size T (ofL xt) t i) := by
    cases ha : (ofL xt).cps.all (· < 128)
    · exact ⟨"str_iterator", by unfold strIterType; rw [ha]; rfl, Walks.strWide hh _ _ t⟩
    · exact ⟨"str_ascii_iterator", by unfold strIterType; rw [ha]; rfl, Walks.strAscii hh _ _ t⟩
  rw [eT]
  rw [hn] at W'
  have up : ∀ b ob, s₁.heap.get? b = some ob → (s₁.heap.push { cls := .type T, data := .fields #[.str (ofL xt) t, .int 0 0] }).get? b = some ob := fun b ob e => Heap.get?_push_of_some _ e
  refine LCt.block_T W' hsz (fun i h st => ?_) (fun i h h' o' nw st e1 e2 _ _ _ => W'.frame _ _ _ st fun b hb o2 e => ?_) hcell hkind hx ⟨_, Heap.get?_push_size _ rfl, rfl, rfl⟩ (fun b hb => ?_)
      (F.keeps up) (N.grown up) (Nat.ne_of_lt F.ns.lt) (next_is_new F) (fun p hp => Nat.ne_of_lt (Heap.lt_size (N p hp).1)) trivial (R _ ⟨_, rfl⟩) ?_
  · obtain ⟨o, ho, _⟩ := st
    exact ⟨o, ho⟩
  · simp only [List.mem_cons, List.not_mem_nil, or_false] at hb
    subst hb
    rw [e1] at e
    cases e
    exact e2
  · rw [List.mem_singleton.mp hb]
    show s₁.heap.objs.size < (s₁.heap.push _).objs.size
    rw [Heap.size_push]
    exact Nat.lt_succ_self _
  · intro D C h tk m' ys news' F' N' o1 hn hC₀ hD₀ hCL hDL hCD offC fin
    refine ⟨m', hn, fun h'' hs'' => fin D h'' tk (F'.change hs'' hCL hC₀) (fun p hp => ?_) o1⟩
    refine ⟨hs''.extBut _ _ ?_ (N' p hp).1, (N' p hp).2⟩
    rcases List.mem_cons.mp hp with rfl | hp
    · exact Ne.symm hCD
    · exact offC p hp
theorem rest_constT {h₀ : Heap} {L : Addr} {m : Str → Option Value} {ct elt : PySem.Expr} {x : Str} {scope : Scope} {cl : List (Str × Addr)} {S : List (Addr × Obj) → Prop} {P : Nat → Value → Prop} {Fin : List Value → List (Addr × Obj) → Prop} {n : Nat} {news : List (Addr × Obj)}
    (J : Nat → List Value → Prop) (hS : S news) (j0 : J 0 [])
    (turn : ∀ i v ys I oI C oC D m₂ h tk (E' : Value → Shared → Prop), P i v → J i ys → LCg.NsObj oC m₂ → m₂ x = some v → Fr h₀ L h m → News h₀ L h ((I, oI) :: (C, oC) :: (D, LCg.lst ys) :: news) →
      wpAny (model prog w) A (isTrue ct (compEnvC scope cl C env) (eval ct (compEnvC scope cl C env))) (fun ok s' => if ok = true then
        wpAny (model prog w) A (eval elt (compEnvC scope cl C env)) (fun y s'' => ∃ h' tk', s'' = { s with heap := h', toks := tk' } ∧ Fr h₀ L h' m ∧ News h₀ L h' ((I, oI) :: (C, oC) :: (D, LCg.lst ys) :: news) ∧ J (i + 1) (ys ++ [y])) E' s'
        else ∃ h' tk', s' = { s with heap := h', toks := tk' } ∧ Fr h₀ L h' m ∧ News h₀ L h' ((I, oI) :: (C, oC) :: (D, LCg.lst ys) :: news) ∧ J (i + 1) ys) E' { s with heap := h, toks := tk })
    (fin : ∀ ys, J n ys → Fin ys news) : LCt.CompRestT prog w A h₀ L m env ct elt x scope cl s S P Fin n 0 [] news := by
  have key : ∀ k i ys, i + k = n → J i ys → LCt.CompRestT prog w A h₀ L m env ct elt x scope cl s S P Fin k i ys news := by
    intro k
    induction k with
    | zero => intro i ys hk hj; exact fin ys (by rw [show n = i by omega]; exact hj)
    | succ k ih =>
      intro i ys hk hj
      refine LCt.CompRestT.succ fun v I oI C oC D m₂ h tk E' hP hC hx F N hoff hne => ?_
      refine wpAny_mono (turn i v ys I oI C oC D m₂ h tk E' hP hj hC hx F N) (fun ok s' hy => ?_) fun _ _ z => z
      cases ok with
      | true =>
        simp only [if_true] at hy ⊢
        refine wpAny_mono hy (fun y s'' hz => ?_) fun _ _ z => z
        obtain ⟨h', tk', rfl, F', N', hR⟩ := hz
        exact ⟨h', tk', news, rfl, F', N', hoff, hS, ih (i + 1) (ys ++ [y]) (by omega) hR⟩
      | false =>
        simp only [Bool.false_eq_true, if_false] at hy ⊢
        obtain ⟨h', tk', rfl, F', N', hR⟩ := hy
        exact ⟨h', tk', news, rfl, F', N', hoff, hS, ih (i + 1) ys (by omega) hR⟩
  exact key n 0 [] (by omega) j0
end
section
structure PO where
  addr : Addr
  piece : Piece
  t1 : Tok
  t2 : Tok
  n : Nat
def saidV (o : Option (List Nat)) (t : Tok) : Value := match o with
  | none => .none
  | some x => .str (ofL x) t
abbrev pobj (p : Piece) (t1 t2 : Tok) (n : Nat) : Obj := lstO #[.str (ofL p.shown) t1, saidV p.said t2, .bool p.after] n
abbrev PO.ent (x : PO) : Addr × Obj := (x.addr, pobj x.piece x.t1 x.t2 x.n)
abbrev refs (xs : List PO) : List Value := xs.map fun x => .ref x.addr
local macro_rules | `(tactic| walk_at "truthy str") => `(tactic| (k_here; (with_reducible show wpAny _ _ (truthy (Value.str (ofL _) _)) _ _ _); refine truthy_ofL (by assumption) ?_))
local macro_rules | `(tactic| walk_at "call builtin:list.append") => `(tactic| (k_here; k_dflt (refine' append_own ?k1 ?k2 ?k3 ?k4 ?_; (case k1 | k2 => k_asm); (case k3 => k_updF); (case k4 => assumption)); intro c9 h9 F9 N9; (try rw [push_strs] at N9)))
abbrev MT (D W : Addr) (z : Int) (eol : List Nat) (tz te : Tok) (re ro wo wi sh sa af : Option Value) : Str → Option Value := fun y =>
  if y = Str.ofString "after" then af else if y = Str.ofString "said" then sa else if y = Str.ofString "shown" then sh else if y = Str.ofString "within" then wi else if y = Str.ofString "word" then wo else
  if y = Str.ofString "words" then some (.ref W) else if y = Str.ofString "row" then ro else if y = Str.ofString "rest" then re else if y = Str.ofString "end" then some (.str (ofL eol) te) else
  if y = Str.ofString "size" then some (.int z tz) else if y = Str.ofString "pieces" then some (.ref D) else none
theorem MT_brk {D W : Addr} {z : Int} {eol : List Nat} {tz te : Tok} {re ro wo wi sh sa af a b c : Option Value} :
    (fun y => if y = Str.ofString "word" then c else if y = Str.ofString "row" then b else if y = Str.ofString "rest" then a else MT D W z eol tz te re ro wo wi sh sa af y) = MT D W z eol tz te a b c wi sh sa af :=
  chain_eq (l1 := [(_, _), (_, _), (_, _), (_, _), (_, _), (_, _), (_, _), (_, _), (_, _), (_, _), (_, _)]) (l2 := [(_, _), (_, _), (_, _), (_, _), (_, _), (_, _), (_, _), (_, _)]) (by kernel_rfl)
noncomputable def tFor0 (l : List Stmt) : List Stmt := (stB (l.getD 5 (.Pass ⟨0, 0, 0, 0⟩))).1
@[reducible] noncomputable def tB : List Stmt := by
  have h : tFor0 b826 = tFor0 b826 := rfl
  conv at h => rhs; whnf
  exact rhsOf h
noncomputable def head0 (l : List Stmt) : Stmt := match l with
  | s :: _ => s
  | [] => .Pass ⟨0, 0, 0, 0⟩
@[reducible] noncomputable def tIf : Stmt := by
  have h : head0 tB = head0 tB := rfl
  conv at h => rhs; whnf
  exact rhsOf h
abbrev ToldAQ (h₀ : Heap) (L D W : Addr) (eol sh : List Nat) (n : Nat) (tz te t1 : Tok) (sa af : Option Value) (st : TSt) (own : List (Addr × Obj)) (s : Shared) (Q : Flow → Shared → Prop) : Prop :=
  ∀ (st' : TSt) (l' : List (Str × Tok)) (c' : Nat) (tr to tw : Tok) (h' : Heap) (tk' : Nat), st' = (if st.rest > n ∧ st.row + sh.length ≥ n then toldBreak eol st else st) → l'.map Prod.fst = st'.words.map ofL →
    Fr h₀ L h' (MT D W n eol tz te (some (.int st'.rest tr)) (some (.int st'.row to)) (some (saidV st'.word tw)) (some (.bool st'.within)) (some (.str (ofL sh) t1)) sa af) → News h₀ L h' ((W, lstO (strValues l').toArray c') :: own) → Q .next { s with heap := h', toks := tk' }
section
variable {h₀ h' : Heap} {L D W : Addr} {eol sh : List Nat} {n : Nat} {tz te t1 : Tok} {sa af : Option Value} {rest row : Nat} {words : List (List Nat)} {own : List (Addr × Obj)} {s : Shared} {Q : Flow → Shared → Prop} {l : List (Str × Tok)} {c' tk' : Nat}
theorem toldA_keep {o : Option (List Nat)} {b : Bool} {tr to tw : Tok} (hq : ToldAQ h₀ L D W eol sh n tz te t1 sa af ⟨rest, row, words, o, b⟩ own s Q)
    (F : Fr h₀ L h' (MT D W n eol tz te (some (.int rest tr)) (some (.int row to)) (some (saidV o tw)) (some (.bool b)) (some (.str (ofL sh) t1)) sa af)) (N : News h₀ L h' ((W, lstO (strValues l).toArray c') :: own)) (hl : l.map Prod.fst = words.map ofL)
    (hc : ¬ (rest > n ∧ row + sh.length ≥ n)) : Q .next { s with heap := h', toks := tk' } :=
  hq ⟨rest, row, words, o, b⟩ l c' tr to tw h' tk' (by rw [if_neg hc]) hl F N
theorem toldA_out {o : Option (List Nat)} {re ro wo : Option Value} {u u' t' : Tok} {X : Str} {v : Int} (hq : ToldAQ h₀ L D W eol sh n tz te t1 sa af ⟨rest, row, words, o, false⟩ own s Q)
    (F : Fr h₀ L h' (fun y => if y = Str.ofString "word" then some .none else if y = Str.ofString "row" then some (.int 0 u) else if y = Str.ofString "rest" then some (.int v u') else MT D W n eol tz te re ro wo (some (.bool false)) (some (.str (ofL sh) t1)) sa af y))
    (N : News h₀ L h' ((W, lstO (strValues (l ++ [(X, t')])).toArray c') :: own)) (hl : l.map Prod.fst = words.map ofL) (hc : rest > n ∧ row + sh.length ≥ n) (h2 : row ≤ rest) (hv : v = (rest : Int) - row) (hX : X = ofL (o.getD [] ++ [61])) : Q .next { s with heap := h', toks := tk' } := by
  refine hq (toldBreak eol ⟨rest, row, words, o, false⟩) (l ++ [(X, t')]) c' u' u 0 h' tk' (by rw [if_pos hc]) (by simp [toldBreak, hl, hX]) ?_ N
  have e : v = ((rest - row : Nat) : Int) := by omega
  subst e
  exact frc F MT_brk
theorem toldA_in {x : List Nat} {re ro wo : Option Value} {u u' t' : Tok} {X : Str} {v : Int} (hq : ToldAQ h₀ L D W eol sh n tz te t1 sa af ⟨rest, row, words, some x, true⟩ own s Q)
    (F : Fr h₀ L h' (fun y => if y = Str.ofString "word" then some (.str X t') else if y = Str.ofString "row" then some (.int 0 u) else if y = Str.ofString "rest" then some (.int v u') else MT D W n eol tz te re ro wo (some (.bool true)) (some (.str (ofL sh) t1)) sa af y))
    (N : News h₀ L h' ((W, lstO (strValues l).toArray c') :: own)) (hl : l.map Prod.fst = words.map ofL) (hc : rest > n ∧ row + sh.length ≥ n) (h2 : row ≤ rest) (hv : v = (rest : Int) - row) (hX : X = ofL (x ++ 61 :: eol)) : Q .next { s with heap := h', toks := tk' } := by
  refine hq (toldBreak eol ⟨rest, row, words, some x, true⟩) l c' u' u t' h' tk' (by rw [if_pos hc]) (by simp [toldBreak, hl]) ?_ N
  have e : v = ((rest - row : Nat) : Int) := by omega
  subst e
  subst hX
  exact frc F MT_brk
end
theorem told_A {prog : Program} {w : World} {p : Program} {loose : List Str} {mean : ExcName → Option Value} {mg mb : Str → Option Value}
    {dp un : Nat} {gd : Option (List Code)} {outer : List Env} {A₀ : Around} {base h₀ : Heap} {L : Addr} {s : Shared} {Q : Flow → Shared → Prop} {E : Value → Shared → Prop}
    {D W : Addr} {eol sh : List Nat} {n : Nat} {tz te tr to tw t1 : Tok} {sa af : Option Value} {rest row c : Nat} {o : Option (List Nat)} {b : Bool} {l : List (Str × Tok)} {words : List (List Nat)} {own : List (Addr × Obj)}
    (B : Below A₀ base outer h₀) (F : Fr h₀ L s.heap (MT D W n eol tz te (some (.int rest tr)) (some (.int row to)) (some (saidV o tw)) (some (.bool b)) (some (.str (ofL sh) t1)) sa af)) (X : (Kf w.params).In h₀) (T : Top p loose mean mg mb h₀)
    (N : News h₀ L s.heap ((W, lstO (strValues l).toArray c) :: own)) (ho : OwnOff own [W]) (hb : b = true → o ≠ none) (hl : l.map Prod.fst = words.map ofL) (hlen : (strValues l).toArray.size < 1000000)
    (h1 : rest < 1000000) (h2 : row ≤ rest) (h3 : sh.length < 1000000) (h4 : ∀ x, o = some x → x.length < 1000000) (h5 : eol.length < 1000) (h6 : n < 1000)
    (hd : dp + 8 < recursionLimit) (hu : un + 100 < cLine)
    (hq : ToldAQ h₀ L D W eol sh n tz te t1 sa af ⟨rest, row, words, o, b⟩ own s Q) :
    wpAny (model prog w) (ktrTop dp un gd (Str.ofString "_law_told") c826 L 826 (.ref 825) [] outer) (exec tIf (envOf (Str.ofString "_law_told") c826 L 826 (.ref 825))) Q E s := by
  have hsl : (ofL sh).length < 1000000 := by rw [ofL_len]; exact h3
  have hel : (ofL eol).length < 1000000 := by rw [ofL_len]; omega
  have hsn : (ofL sh).length = sh.length := ofL_len sh
  cases b
  · rcases o with _ | _ | ⟨d, r⟩
    all_goals
      dsimp only [saidV] at F
      first | (have z1 := h4 _ rfl; have z2 : (ofL _).length < 1000000 := (ofL_len _).symm ▸ z1) | skip
      first | (have z4 : (d :: r).isEmpty = false := rfl) | (have z4 : ([] : List Nat).isEmpty = true := rfl)
      k_steps
      all_goals
        have F9 := ‹Fr h₀ L _ _›
        have N9 := ‹News h₀ L _ _›
        first
          | exact toldA_keep hq F9 N9 hl (by omega)
          | exact toldA_keep (tw := 0) hq F9 N9 hl (by omega)
          | exact toldA_out hq F9 N9 hl (by omega) h2 rfl (by first | (decide +kernel) | (rw [lits.2.2.2, ofL_app]; rfl))
          | trace_state
  · rcases o with _ | x
    · exact absurd rfl (hb rfl)
    · have z1 := h4 _ rfl
      have z2 : (ofL x).length < 1000000 := by rw [ofL_len]; exact z1
      dsimp only [saidV] at F
      k_steps
      all_goals
        have F9 := ‹Fr h₀ L _ _›
        have N9 := ‹News h₀ L _ _›
        first
          | exact toldA_keep hq F9 N9 hl (by omega)
          | exact toldA_in hq F9 N9 hl (by omega) h2 rfl (by rw [lits.2.2.2, ofL_app, ofL_app]; rfl)
          | trace_state
section
local macro_rules | `(tactic| walk_at "exec If") => `(tactic| (k_here; (with_reducible show wpAny _ _ (exec (Stmt.If (PySem.Expr.BoolOp _ _ _) _ _ _) _) _ _ _); refine halt ?_))
theorem MT_tup {D W : Addr} {z : Int} {eol : List Nat} {tz te : Tok} {re ro wo wi sh sa af a b c : Option Value} :
    (fun y => if y = Str.ofString "after" then c else if y = Str.ofString "said" then b else if y = Str.ofString "shown" then a else MT D W z eol tz te re ro wo wi sh sa af y) = MT D W z eol tz te re ro wo wi a b c :=
  chain_eq (l1 := [(_, _), (_, _), (_, _), (_, _), (_, _), (_, _)]) (l2 := [(_, _), (_, _), (_, _)]) (by kernel_rfl)
theorem MT_put {D W : Addr} {z : Int} {eol : List Nat} {tz te : Tok} {re ro wo wi sh sa af a b c : Option Value} :
    (fun y => if y = Str.ofString "word" then c else if y = Str.ofString "within" then b else if y = Str.ofString "row" then a else MT D W z eol tz te re ro wo wi sh sa af y) = MT D W z eol tz te re a c b sh sa af :=
  chain_eq (l1 := [(_, _), (_, _), (_, _), (_, _), (_, _), (_, _), (_, _), (_, _), (_, _), (_, _)]) (l2 := [(_, _), (_, _), (_, _), (_, _), (_, _), (_, _), (_, _)]) (by kernel_rfl)
theorem MT_put2 {D W : Addr} {z : Int} {eol : List Nat} {tz te : Tok} {re ro wo wi sh sa af a b : Option Value} :
    (fun y => if y = Str.ofString "within" then b else if y = Str.ofString "row" then a else MT D W z eol tz te re ro wo wi sh sa af y) = MT D W z eol tz te re a wo b sh sa af :=
  chain_eq (l1 := [(_, _), (_, _), (_, _), (_, _), (_, _), (_, _), (_, _), (_, _), (_, _)]) (l2 := [(_, _), (_, _), (_, _), (_, _), (_, _), (_, _), (_, _)]) (by kernel_rfl)
noncomputable def tTgt0 (l : List Stmt) : PySem.Expr := (stB (l.getD 5 (.Pass ⟨0, 0, 0, 0⟩))).2
@[reducible] noncomputable def tTgt : PySem.Expr := by
  have h : tTgt0 b826 = tTgt0 b826 := rfl
  conv at h => rhs; whnf
  exact rhsOf h
abbrev ToldQ (h₀ : Heap) (L D W : Addr) (eol : List Nat) (n : Nat) (tz te : Tok) (p : Piece) (st : TSt) (own : List (Addr × Obj)) (s : Shared) (Q : Flow → Shared → Prop) : Prop :=
  ∀ (st' : TSt) (l' : List (Str × Tok)) (c' : Nat) (tr to tw : Tok) (sh sa af : Option Value) (h' : Heap) (tk' : Nat), st' = toldStep n eol st p → l'.map Prod.fst = st'.words.map ofL →
    Fr h₀ L h' (MT D W n eol tz te (some (.int st'.rest tr)) (some (.int st'.row to)) (some (saidV st'.word tw)) (some (.bool st'.within)) sh sa af) → News h₀ L h' ((W, lstO (strValues l').toArray c') :: own) → Q .next { s with heap := h', toks := tk' }
theorem drop2 {h₀ h : Heap} {L : Addr} {a b : Addr × Obj} {own : List (Addr × Obj)} (N : News h₀ L h (a :: b :: own)) : News h₀ L h (a :: own) := fun q hq => by
  rcases List.mem_cons.mp hq with rfl | hq
  · exact N _ (.head _)
  · exact N _ (.tail _ (.tail _ hq))
theorem brk_facts {n k : Nat} {eol : List Nat} {st st' : TSt} (e : st' = (if st.rest > n ∧ st.row + k ≥ n then toldBreak eol st else st)) (hb : st.within = true → st.word ≠ none) :
    st'.row ≤ st.row ∧ (∀ y, st'.word = some y → ∃ z, st.word = some z ∧ y.length ≤ z.length + eol.length + 1) ∧ st'.words.length ≤ st.words.length + 1 := by
  subst e
  split
  · unfold toldBreak
    split
    · rename_i hw
      refine ⟨Nat.zero_le _, fun y hy => ?_, Nat.le_succ _⟩
      cases ho : st.word with
      | none => exact absurd ho (hb hw)
      | some z =>
        refine ⟨z, rfl, ?_⟩
        rw [ho] at hy
        have := Option.some.inj hy
        subst this
        simp
        omega
    · exact ⟨Nat.zero_le _, (fun y hy => nomatch hy), by simp⟩
  · exact ⟨Nat.le_refl _, fun y hy => ⟨y, hy, by omega⟩, Nat.le_succ _⟩
section
variable {h₀ h' : Heap} {L D W : Addr} {eol shn : List Nat} {n : Nat} {tz te : Tok} {st : TSt} {rest row : Nat} {words : List (List Nat)} {own : List (Addr × Obj)} {s : Shared} {Q : Flow → Shared → Prop} {l : List (Str × Tok)} {c' tk' : Nat} {aft b : Bool} {re : Nat} {ro wo wi sh sa af : Option Value} {u u' tr : Tok} {v : Int}
theorem put_some {o : Option (List Nat)} {y : List Nat} {X : Str} (hq : ToldQ h₀ L D W eol n tz te ⟨shn, some y, aft⟩ st own s Q) (e : (⟨rest, row, words, o, b⟩ : TSt) = (if st.rest > n ∧ st.row + shn.length ≥ n then toldBreak eol st else st))
    (F : Fr h₀ L h' (fun q => if q = Str.ofString "word" then some (.str X u') else if q = Str.ofString "within" then some (.bool aft) else if q = Str.ofString "row" then some (.int v u) else MT D W n eol tz te (some (.int rest tr)) ro wo wi sh sa af q))
    (N : News h₀ L h' ((W, lstO (strValues l).toArray c') :: own)) (hl : l.map Prod.fst = words.map ofL) (hv : v = (row : Int) + shn.length) (hX : X = ofL (o.getD [] ++ y)) : Q .next { s with heap := h', toks := tk' } := by
  refine hq (toldPut ⟨shn, some y, aft⟩ ⟨rest, row, words, o, b⟩) l c' tr u u' sh sa af h' tk' (by rw [e]; rfl) hl ?_ N
  have e : v = ((row + shn.length : Nat) : Int) := by omega
  subst e
  subst hX
  exact frc F MT_put
theorem put_end {y : List Nat} {X : Str} {t' : Tok} (hq : ToldQ h₀ L D W eol n tz te ⟨shn, none, aft⟩ st own s Q) (e : (⟨rest, row, words, some y, b⟩ : TSt) = (if st.rest > n ∧ st.row + shn.length ≥ n then toldBreak eol st else st))
    (F : Fr h₀ L h' (fun q => if q = Str.ofString "word" then some .none else if q = Str.ofString "within" then some (.bool aft) else if q = Str.ofString "row" then some (.int v u) else MT D W n eol tz te (some (.int rest tr)) ro wo wi sh sa af q))
    (N : News h₀ L h' ((W, lstO (strValues (l ++ [(X, t')])).toArray c') :: own)) (hl : l.map Prod.fst = words.map ofL) (hv : v = (row : Int) + shn.length) (hX : X = ofL y) : Q .next { s with heap := h', toks := tk' } := by
  refine hq (toldPut ⟨shn, none, aft⟩ ⟨rest, row, words, some y, b⟩) (l ++ [(X, t')]) c' tr u 0 sh sa af h' tk' (by rw [e]; rfl) (by simp [toldPut, hl, hX]) ?_ N
  have e : v = ((row + shn.length : Nat) : Int) := by omega
  subst e
  exact frc F MT_put
theorem put_not (hq : ToldQ h₀ L D W eol n tz te ⟨shn, none, aft⟩ st own s Q) (e : (⟨rest, row, words, none, b⟩ : TSt) = (if st.rest > n ∧ st.row + shn.length ≥ n then toldBreak eol st else st))
    (F : Fr h₀ L h' (fun q => if q = Str.ofString "within" then some (.bool aft) else if q = Str.ofString "row" then some (.int v u) else MT D W n eol tz te (some (.int rest tr)) ro (some .none) wi sh sa af q))
    (N : News h₀ L h' ((W, lstO (strValues l).toArray c') :: own)) (hl : l.map Prod.fst = words.map ofL) (hv : v = (row : Int) + shn.length) : Q .next { s with heap := h', toks := tk' } := by
  refine hq (toldPut ⟨shn, none, aft⟩ ⟨rest, row, words, none, b⟩) l c' tr u 0 sh sa af h' tk' (by rw [e]; rfl) hl ?_ N
  have e : v = ((row + shn.length : Nat) : Int) := by omega
  subst e
  exact frc F MT_put2
end
theorem told_turn {prog : Program} {w : World} {p : Program} {loose : List Str} {mean : ExcName → Option Value} {mg mb : Str → Option Value}
    {dp un : Nat} {gd : Option (List Code)} {outer : List Env} {A₀ : Around} {base h₀ : Heap} {L : Addr} {s : Shared} {Q : Flow → Shared → Prop} {E : Value → Shared → Prop}
    {D W : Addr} {eol : List Nat} {n : Nat} {tz te tr to tw : Tok} {sh sa af : Option Value} {c : Nat} {st : TSt} {x : PO} {l : List (Str × Tok)} {own : List (Addr × Obj)}
    (B : Below A₀ base outer h₀) (F : Fr h₀ L s.heap (MT D W n eol tz te (some (.int st.rest tr)) (some (.int st.row to)) (some (saidV st.word tw)) (some (.bool st.within)) sh sa af)) (X : (Kf w.params).In h₀) (T : Top p loose mean mg mb h₀)
    (N : News h₀ L s.heap ((W, lstO (strValues l).toArray c) :: own)) (ho : OwnOff own [W]) (hx : x.ent ∈ own) (hb : st.within = true → st.word ≠ none) (hl : l.map Prod.fst = st.words.map ofL) (hlen : st.words.length < 100000)
    (h1 : st.rest < 100000) (h2 : st.row ≤ st.rest) (h3 : x.piece.shown.length < 1000) (h4 : ∀ y, st.word = some y → y.length < 100000) (h5 : eol.length < 1000) (h6 : n < 1000) (h7 : ∀ y, x.piece.said = some y → y.length < 1000)
    (hd : dp + 8 < recursionLimit) (hu : un + 100 < cLine)
    (hq : ToldQ h₀ L D W eol n tz te x.piece st own s Q) :
    wpAny (model prog w) (ktrTop dp un gd (Str.ofString "_law_told") c826 L 826 (.ref 825) [] outer) (assign tTgt (envOf (Str.ofString "_law_told") c826 L 826 (.ref 825)) (.ref x.addr))
      (fun _ s₂ => wpAny (model prog w) (ktrTop dp un gd (Str.ofString "_law_told") c826 L 826 (.ref 825) [] outer) (execs tB (envOf (Str.ofString "_law_told") c826 L 826 (.ref 825))) Q E s₂) E s := by
  obtain ⟨rest, row, words, o, b⟩ := st
  obtain ⟨xa, ⟨shn, said, aft⟩, x1, x2, xn⟩ := x
  dsimp only at *
  have hls : l.length = words.length := by simpa using congrArg List.length hl
  have hsz : (strValues l).toArray.size < 1000000 := by simp [strValues]; omega
  have N2 : News h₀ L s.heap ((W, lstO (strValues l).toArray c) :: (xa, pobj ⟨shn, said, aft⟩ x1 x2 xn) :: own) := fun q hq => by
    simp only [List.mem_cons] at hq
    rcases hq with rfl | rfl | hq
    · exact N _ (.head _)
    · exact N _ (.tail _ hx)
    · exact N _ (.tail _ hq)
  have ho2 : OwnOff ((xa, pobj ⟨shn, said, aft⟩ x1 x2 xn) :: own) [W] := fun q hq b hb => by
    rcases List.mem_cons.mp hq with rfl | hq
    · exact ho _ hx b hb
    · exact ho q hq b hb
  have hxW : xa ≠ W := ho _ hx W (by simp)
  clear N
  unfold pobj at N2
  k_steps
  refine unhalt ?_
  have F8 := ‹Fr _ _ _ (fun y => if y = Str.ofString "after" then _ else _)›
  have N8 := ‹News h₀ L _ _›
  refine told_A B (frc F8 MT_tup) X T N8 ho2 hb hl hsz (by omega) h2 (Nat.lt_of_lt_of_le h3 (by decide)) (fun y hy => by have := h4 y hy; omega) h5 h6 hd hu ?_
  intro st' l' c' tr' to' tw' h' tk' e1 e2 F3 N3
  clear F8 N8
  obtain ⟨b1, b2, b3⟩ := brk_facts e1 hb
  obtain ⟨rest', row', words', o', b'⟩ := st'
  dsimp only at *
  have hls' : l'.length = words'.length := by simpa using congrArg List.length e2
  have hsz' : (strValues l').toArray.size < 1000000 := by simp [strValues]; omega
  have hsl : (ofL shn).length < 1000000 := by rw [ofL_len]; omega
  have hsn : (ofL shn).length = shn.length := ofL_len shn
  rcases o' with _ | _ | ⟨d, r⟩
  all_goals
    cases said
    all_goals
      dsimp only [saidV] at F3 N3
      first
        | (obtain ⟨z, hz1, hz2⟩ := b2 _ rfl
           have z0 := h4 _ hz1
           have z1b := Nat.lt_of_le_of_lt hz2 (show _ < 1000000 by omega)
           have z1 : (ofL _).length < 1000000 := Nat.lt_of_le_of_lt (Nat.le_of_eq (ofL_len _)) (Nat.lt_of_le_of_lt hz2 (by omega)))
        | skip
      first
        | (have y0 := h7 _ rfl
           have y1 : (ofL _).length < 1000000 := Nat.lt_of_le_of_lt (Nat.le_of_eq (ofL_len _)) (Nat.lt_trans y0 (by decide)))
        | skip
      first | (have z4 : (d :: r).isEmpty = false := rfl) | (have z4 : ([] : List Nat).isEmpty = true := rfl)
      k_steps
      all_goals
        have F9 := ‹Fr h₀ L _ _›
        have N9 := drop2 ‹News h₀ L _ (_ :: (xa, _) :: own)›
        first
          | exact put_some hq e1 F9 N9 e2 (by rw [hsn]) (by rw [ofL_app]; rfl)
          | exact put_some hq e1 F9 N9 e2 (by rw [hsn]) (by rw [empty_eq, ofL_app]; rfl)
          | exact put_end hq e1 F9 N9 e2 (by rw [hsn]) rfl
          | exact put_not hq e1 F9 N9 e2 (by rw [hsn])
          | trace_state
end
end
section
local macro_rules | `(tactic| walk_at "CompSrc") => `(tactic| (k_here; refine halt ?_))
local macro_rules | `(tactic| walk_at "exec For") => `(tactic| (k_here; refine halt ?_))
local macro_rules | `(tactic| walk_at "pyIter ref") => `(tactic| (k_here; refine halt ?_))
local macro_rules | `(tactic| walk_at "call builtin:list.append") => `(tactic| (k_here; k_dflt (refine' append_own ?k1 ?k2 ?k3 ?k4 ?_; (case k1 | k2 => k_asm); (case k3 => k_updF); (case k4 => assumption)); intro c9 h9 F9 N9; (try rw [push_strs] at N9)))
def TInv (ps : List Piece) (i : Nat) (st : TSt) : Prop := (st.within = true → st.word ≠ none) ∧ st.rest = st.row + (lineOf (ps.drop i)).length ∧ (∀ y, st.word = some y → y.length ≤ 6 * i) ∧ st.words.length ≤ 2 * i ∧ st.rest ≤ (lineOf ps).length
theorem tinv_step {ps : List Piece} {i n : Nat} {st : TSt} {p : Piece} {eol : List Nat} (h : TInv ps i st) (hp : ps[i]? = some p) (p1 : p.shown.length ≤ 3) (p2 : ∀ y, p.said = some y → y.length ≤ 3) (p3 : p.after = true → p.said ≠ none) (he : eol.length ≤ 2) :
    TInv ps (i + 1) (toldStep n eol st p) := by
  obtain ⟨h1, h2, h3, h4, h5⟩ := h
  have hd : (lineOf (ps.drop i)).length = p.shown.length + (lineOf (ps.drop (i + 1))).length := by
    obtain ⟨hl, e⟩ := List.getElem?_eq_some_iff.mp hp
    rw [List.drop_eq_getElem_cons hl, e]
    simp [lineOf]
  have key : ∀ st' : TSt, st'.rest = st'.row + (lineOf (ps.drop i)).length → (∀ y, st'.word = some y → y.length ≤ 6 * i + 3) → st'.words.length ≤ 2 * i + 1 → st'.rest ≤ (lineOf ps).length → TInv ps (i + 1) (toldPut p st') := by
    intro st' g2 g3 g4 g5
    unfold toldPut
    cases hs : p.said with
    | some t =>
      have := p2 t hs
      refine ⟨fun _ => (fun e => nomatch e), by dsimp only; omega, fun y hy => ?_, by dsimp only; omega, g5⟩
      have := Option.some.inj hy
      subst this
      cases hw : st'.word with
      | none => simp [hw]; omega
      | some z =>
        have := g3 z hw
        simp [hw]
        omega
    | none =>
      have ha : p.after ≠ true := fun e => p3 e hs
      cases hw : st'.word with
      | none =>
        simp only [hw]
        exact ⟨fun e => absurd e ha, by dsimp only; omega, fun y hy => (by simp [hw] at hy), by dsimp only; omega, g5⟩
      | some z =>
        simp only [hw]
        exact ⟨fun e => absurd e ha, by dsimp only; omega, (fun y hy => nomatch hy), by simp; omega, g5⟩
  unfold toldStep
  split
  · refine key _ ?_ ?_ ?_ ?_
    · unfold toldBreak
      split <;> (dsimp only; omega)
    · unfold toldBreak
      split
      · rename_i hw
        intro y hy
        have := Option.some.inj hy
        subst this
        cases ho : st.word with
        | none => exact absurd ho (h1 hw)
        | some z =>
          have := h3 z ho
          simp [ho]
          omega
      · exact fun y hy => nomatch hy
    · unfold toldBreak
      split
      · dsimp only; omega
      · simp; omega
    · unfold toldBreak
      split <;> (dsimp only; omega)
  · exact key _ h2 (fun y hy => by have := h3 y hy; omega) (by omega) h5
theorem line_len : ∀ {ps : List Piece}, (∀ p ∈ ps, p.shown.length ≤ 3) → (lineOf ps).length ≤ 3 * ps.length
  | [], _ => by simp [lineOf]
  | p :: r, h => by
    have ih := line_len (ps := r) fun q hq => h q (.tail _ hq)
    have h1 := h p (.head _)
    unfold lineOf at ih ⊢
    rw [List.flatMap_cons, List.length_append, List.length_cons]
    omega
theorem tinv_0 (ps : List Piece) : TInv ps 0 ⟨(lineOf ps).length, 0, [], none, false⟩ := ⟨(fun h => nomatch h), by simp, (fun y hy => nomatch hy), by simp, Nat.le_refl _⟩
abbrev SgT := List (Str × Tok) × Nat × (Tok × Tok × Tok) × (Option Value × Option Value × Option Value) × TSt
abbrev ToldJ (ps : List Piece) (n : Nat) (eol : List Nat) (i : Nat) (a : SgT) : Prop := a.2.2.2.2 = (ps.take i).foldl (toldStep n eol) ⟨(lineOf ps).length, 0, [], none, false⟩ ∧ a.1.map Prod.fst = a.2.2.2.2.words.map ofL ∧ TInv ps i a.2.2.2.2
theorem told_loop {prog : Program} {w : World} {p : Program} {loose : List Str} {mean : ExcName → Option Value} {mg mb : Str → Option Value}
    {dp un : Nat} {gd : Option (List Code)} {outer : List Env} {A₀ : Around} {base h₀ : Heap} {L : Addr} {s : Shared} {Q : Flow → Shared → Prop} {E : Value → Shared → Prop}
    {D W : Addr} {eol : List Nat} {n c0 : Nat} {tz te tr to : Tok} {xs : List PO} {own : List (Addr × Obj)} {v : Int}
    (B : Below A₀ base outer h₀) (F : Fr h₀ L s.heap (MT D W n eol tz te (some (.int v tr)) (some (.int 0 to)) (some .none) (some (.bool false)) none none none)) (X : (Kf w.params).In h₀) (T : Top p loose mean mg mb h₀)
    (N : News h₀ L s.heap ((W, lstO (strValues []).toArray 0) :: own)) (hv : v = ((lineOf (xs.map (·.piece))).length : Int)) (ho : OwnOff own [W]) (hD : (D, lstO (refs xs).toArray c0) ∈ own) (hx : ∀ x ∈ xs, x.ent ∈ own) (hlen : xs.length ≤ 10000)
    (hp : ∀ x ∈ xs, x.piece.shown.length ≤ 3 ∧ (∀ y, x.piece.said = some y → y.length ≤ 3) ∧ (x.piece.after = true → x.piece.said ≠ none)) (he : eol.length ≤ 2) (hn : n < 1000)
    (hd : dp + 8 < recursionLimit) (hu : un + 100 < cLine)
    (hE : PassesOwn (model prog w) (ktrTop dp un gd (Str.ofString "_law_told") c826 L 826 (.ref 825) [] outer) (envOf (Str.ofString "_law_told") c826 L 826 (.ref 825)) E)
    (hq : ∀ (st : TSt) (l : List (Str × Tok)) (c : Nat) (tr to tw : Tok) (sh sa af : Option Value) (h : Heap) (tk : Nat), st = (xs.map (·.piece)).foldl (toldStep n eol) ⟨(lineOf (xs.map (·.piece))).length, 0, [], none, false⟩ → l.map Prod.fst = st.words.map ofL → l.length ≤ 20000 → (∀ y, st.word = some y → y.length ≤ 60000) →
      Fr h₀ L h (MT D W n eol tz te (some (.int st.rest tr)) (some (.int st.row to)) (some (saidV st.word tw)) (some (.bool st.within)) sh sa af) → News h₀ L h ((W, lstO (strValues l).toArray c) :: own) → Q .next { s with heap := h, toks := tk }) :
    wpAny (model prog w) (ktrTop dp un gd (Str.ofString "_law_told") c826 L 826 (.ref 825) [] outer) (pyIter (.ref D))
      (LoopC prog w (ktrTop dp un gd (Str.ofString "_law_told") c826 L 826 (.ref 825) [] outer) (envOf (Str.ofString "_law_told") c826 L 826 (.ref 825)) tTgt tB Q E) E s := by
  subst hv
  have hps : ∀ q ∈ xs.map (·.piece), q.shown.length ≤ 3 := fun q hq => by
    obtain ⟨x, hx1, rfl⟩ := List.mem_map.mp hq
    exact (hp x hx1).1
  have hline := line_len hps
  rw [List.length_map] at hline
  refine loop_listT (σ := SgT) (fun a => [(W, lstO (strValues a.1).toArray a.2.1)]) (fun a => MT D W n eol tz te (some (.int a.2.2.2.2.rest a.2.2.1.1)) (some (.int a.2.2.2.2.row a.2.2.1.2.1)) (some (saidV a.2.2.2.2.word a.2.2.1.2.2)) (some (.bool a.2.2.2.2.within)) a.2.2.2.1.1 a.2.2.2.1.2.1 a.2.2.2.1.2.2)
    (fun i a => ToldJ (xs.map (·.piece)) n eol i a) [W] (vs := refs xs) (own := own) (a₀ := ([], 0, (tr, to, 0), (none, none, none), ⟨(lineOf (xs.map (·.piece))).length, 0, [], none, false⟩)) rfl hE ?_ ?_ (.inl ⟨_, hD⟩) ?_ ?_ ho F N ?_ ?_ ?_
  · intro v hv
    obtain ⟨x, _, rfl⟩ := List.mem_map.mp hv
    exact ⟨_, rfl⟩
  · exact ⟨_, (N _ (.tail _ hD)).1, rfl, _, rfl⟩
  · intro i a _ p hp
    simp only [List.mem_cons, List.not_mem_nil, or_false] at hp
    subst hp
    exact fun e => absurd (Value.type.inj e) (by decide)
  · intro b hb
    simp only [List.mem_cons, List.not_mem_nil, or_false] at hb
    subst hb
    exact ⟨_, .head _⟩
  · exact ⟨rfl, rfl, tinv_0 _⟩
  · rintro i v ⟨l, c, ⟨tr, to, tw⟩, ⟨sh, sa, af⟩, st⟩ h tk own' hxi ⟨e1, e2, hT⟩ hsub hoff F1 N1
    dsimp only at e1 e2 hT F1
    obtain ⟨x, hx1, rfl⟩ : ∃ x, xs[i]? = some x ∧ v = .ref x.addr := by
      simp only [refs, List.getElem?_map] at hxi
      obtain ⟨x, h1, h2⟩ := Option.map_eq_some_iff.mp hxi
      exact ⟨x, h1, h2.symm⟩
    have hxm : x ∈ xs := List.mem_of_getElem? hx1
    have hi := (List.getElem?_eq_some_iff.mp hx1).1
    obtain ⟨i1, i2, i3, i4, i5⟩ := id hT
    obtain ⟨p1, p2, p3⟩ := hp x hxm
    refine told_turn B F1 X T N1 hoff (hsub _ (hx x hxm)) i1 e2 (by omega) (by omega) (by omega) (by omega) (fun y hy => by have := i3 y hy; omega) (by omega) hn (fun y hy => by have := p2 y hy; omega) hd hu ?_
    intro st' l' c' tr' to' tw' sh' sa' af' h' tk' g1 g2 F2 N2
    have hpi : (xs.map (·.piece))[i]? = some x.piece := by simp [hx1]
    refine ⟨(l', c', (tr', to', tw'), (sh', sa', af'), st'), h', tk', rfl, F2, N2, ?_, g2, ?_⟩
    · dsimp only
      rw [g1, e1, List.take_add_one, hpi]
      simp
    · dsimp only
      rw [g1]
      exact tinv_step hT hpi p1 p2 p3 he
  · rintro ⟨l, c, ⟨tr, to, tw⟩, ⟨sh, sa, af⟩, st⟩ h tk ⟨e1, e2, hT⟩ F1 N1
    dsimp only at e1 e2 hT F1
    obtain ⟨i1, i2, i3, i4, i5⟩ := id hT
    have hll : l.length = st.words.length := by simpa using congrArg List.length e2
    rw [List.length_map] at i3 i4
    refine hq st l c tr to tw sh sa af h tk ?_ e2 (by omega) (fun y hy => by have := i3 y hy; omega) F1 N1
    rw [e1, List.take_of_length_le (by simp)]
theorem look3' {y x1 x2 x3 : Str} {v1 v2 v3 : Value} (h1 : y ≠ x1) (h2 : y ≠ x2) (h3 : y ≠ x3) : List.lookup y [(x1, v1), (x2, v2), (x3, v3)] = none := by
  rw [List.lookup_cons, beq_eq_false_iff_ne.mpr h1]
  dsimp only
  rw [List.lookup_cons, beq_eq_false_iff_ne.mpr h2]
  exact look1 h3
theorem MT_start {D W : Addr} {z : Int} {eol : List Nat} {tz te : Tok} {a b c d : Option Value} {f : Str → Option Value} (h0 : f (Str.ofString "end") = some (.str (ofL eol) te)) (h1 : f (Str.ofString "size") = some (.int z tz)) (h2 : f (Str.ofString "pieces") = some (.ref D))
    (h3 : ∀ y, y ≠ Str.ofString "end" → y ≠ Str.ofString "size" → y ≠ Str.ofString "pieces" → f y = none) :
    (fun y => if y = Str.ofString "within" then a else if y = Str.ofString "word" then b else if y = Str.ofString "words" then some (.ref W) else if y = Str.ofString "row" then c else if y = Str.ofString "rest" then d else f y) = MT D W z eol tz te d c b a none none none :=
  have g : ∀ x ∈ ["after", "said", "shown"], f (Str.ofString x) = none := fun x hx => h3 _ ((by decide +kernel : ∀ x ∈ ["after", "said", "shown"], Str.ofString x ≠ Str.ofString "end") x hx) ((by decide +kernel : ∀ x ∈ ["after", "said", "shown"], Str.ofString x ≠ Str.ofString "size") x hx) ((by decide +kernel : ∀ x ∈ ["after", "said", "shown"], Str.ofString x ≠ Str.ofString "pieces") x hx)
  chain_from (l1 := [(_, _), (_, _), (_, _), (_, _), (_, _)]) (l2 := [(_, _), (_, _), (_, _), (_, _), (_, _), (_, _), (_, _), (_, _), (_, _), (_, _), (_, _)]) [(_, _), (_, _), (_, _), (_, _), (_, _), (_, _)] ⟨h0, h1, h2, g _ (.head _), g _ (.tail _ (.head _)), g _ (.tail _ (.tail _ (.head _))), trivial⟩ (fun y h => h3 y (h (_, _) (.tail _ (.tail _ (.tail _ (.tail _ (.tail _ (.head _))))))) (h (_, _) (.tail _ (.tail _ (.tail _ (.tail _ (.tail _ (.tail _ (.head _)))))))) (h (_, _) (.tail _ (.tail _ (.tail _ (.tail _ (.tail _ (.tail _ (.tail _ (.head _)))))))))) (by kernel_rfl)
theorem ints_of : ∀ {ys : List Value} {xs : List PO}, ys.length = xs.length → (∀ (i : Nat) (y : Value), ys[i]? = some y → ∃ x t, xs[i]? = some x ∧ y = .int (x.piece.shown.length : Int) t) → IntsAre ys (xs.map fun x => (x.piece.shown.length : Int))
  | [], [], _, _ => .nil
  | y :: ys, x :: xs, hl, h => by
    obtain ⟨x', t, e, rfl⟩ := h 0 y rfl
    have : x = x' := Option.some.inj e
    subst this
    exact .cons _ _ (ints_of (by simpa using hl) fun i z hz => h (i + 1) z hz)
  | [], _ :: _, hl, _ => by simp at hl
  | _ :: _, [], hl, _ => by simp at hl
theorem sum_lens : ∀ xs : List PO, (xs.map fun x => (x.piece.shown.length : Int)).sum = ((lineOf (xs.map (·.piece))).length : Int)
  | [] => rfl
  | x :: xs => by
    have ih := sum_lens xs
    simp only [List.map_cons, List.sum_cons, ih]
    simp [lineOf]
theorem told_spec {prog : Program} {w : World} {p : Program} {loose : List Str} {mean : ExcName → Option Value} {mg mb : Str → Option Value}
    {dp un : Nat} {gd : Option (List Code)} {cn : Str} {cs : Scope} {a : Addr} {ccd : Value} {cl : List (Str × Addr)} {outer : List Env} {A₀ : Around} {base h₀ : Heap} {L : Addr} {m : Str → Option Value} {s : Shared} {Q E : Value → Shared → Prop}
    (B : Below A₀ base outer h₀) (F : Fr h₀ L s.heap m) (X : (Kf w.params).In h₀) (T : Top p loose mean mg mb h₀) (hk : cs.kind = .function)
    {D : Addr} {xs : List PO} {c0 n : Nat} {own : List (Addr × Obj)} {tz te : Tok} {eol : List Nat}
    (N : News h₀ L s.heap ((D, lstO (refs xs).toArray c0) :: own)) (hx : ∀ x ∈ xs, x.ent ∈ own) (hlen : xs.length ≤ 10000)
    (hp : ∀ x ∈ xs, x.piece.shown.length ≤ 3 ∧ (∀ y, x.piece.said = some y → y.length ≤ 3) ∧ (x.piece.after = true → x.piece.said ≠ none)) (he : eol.length ≤ 2) (hn : n < 1000)
    (hd : dp + 10 < recursionLimit) (hu : un + 150 < cLine)
    (hret : ∀ (W : Addr) (l : List (Str × Tok)) (c : Nat) (h' : Heap) (tk' : Nat), l.map Prod.fst = (toldM (xs.map (·.piece)) n eol).map ofL → l.length ≤ 20001 → Fr h₀ L h' m → News h₀ L h' ((W, lstO (strValues l).toArray c) :: (D, lstO (refs xs).toArray c0) :: own) → AllLt W own → Q (.ref W) { s with heap := h', toks := tk' }) :
    wpAny (model prog w) (ktrTop dp un gd cn cs L a ccd cl outer) (call (.ref 826) [.ref D, .int n tz, .str (ofL eol) te]) Q E s := by
  refine wpAny_call ?_
  k_dflt k_enter
  k_steps
  refine unhalt ?_
  refine LCg.CompSrc.ledger (its := (refs xs).toArray) rfl (by k_asm) (by k_asm) (.head _) (by simp [sizeLine]; omega) fun g => ?_
  have hsz : (refs xs).toArray.size = xs.length := by simp
  rw [hsz]
  refine rest_const (fun i y => ∃ x t, xs[i]? = some x ∧ y = .int (x.piece.shown.length : Int) t) ?_ ?_ ?_
  · exact .inr ⟨_, .head _, rfl, _, rfl⟩
  · intro i v ys I oI C oC D' m₂ h tk E' hv hC hm F1 N1 off ne
    obtain ⟨x, hxi, rfl⟩ : ∃ x, xs[i]? = some x ∧ v = .ref x.addr := by
      have : ((refs xs).toArray)[i]? = some v := hv
      simp only [refs, List.getElem?_toArray, List.getElem?_map] at this
      obtain ⟨x, h1, h2⟩ := Option.map_eq_some_iff.mp this
      exact ⟨x, h1, h2.symm⟩
    have hxm : x ∈ xs := List.mem_of_getElem? hxi
    have hxl : (ofL x.piece.shown).length < 1000000 := by have := (hp x hxm).1; rw [ofL_len]; omega
    have N2 : News _ _ h (x.ent :: (I, oI) :: (C, oC) :: (D', LCg.lst ys) :: (D, lstO (refs xs).toArray c0) :: own) := fun q hq => by
      rcases List.mem_cons.mp hq with rfl | hq
      · exact N1 _ (.tail _ (.tail _ (.tail _ (.tail _ (hx x hxm)))))
      · exact N1 _ hq
    k_steps
    all_goals first
      | exact F1
      | exact N1
      | exact ⟨x, _, hxi, by rw [ofL_len]⟩
  · intro ys hl hr
    have hi := ints_of hl hr
    intro D2 h2 tk2 F2 N2 off2
    k_steps
    refine unhalt ?_
    refine for_start ?_
    k_steps
    refine unhalt ?_
    have F8 := ‹Fr _ _ _ (fun y => if y = Str.ofString "within" then _ else _)›
    have F9 := frc F8 (MT_start rfl rfl rfl (fun y h1 h2 h3 => look3' h1 h2 h3))
    have N9 := ‹News _ _ _ ((_, W.listOf #[] 0) :: _)›
    have l9 := ‹D2 < _ ∧ D < _ ∧ AllLt _ own›
    refine told_loop ‹Below (ktrTop _ _ _ _ _ _ _ _ _ _) _ _ _› F9 (by assumption) (by assumption) N9 (sum_lens xs) (allLt_off (own := (D2, _) :: (D, _) :: own) l9) (.tail _ (.head _)) (fun x hx1 => .tail _ (.tail _ (hx x hx1))) hlen hp he hn (by ktr_room) (by ktr_units) (by first | passes_own | with_unfolding_all passes_own) ?_
    intro st l c tr to tw sh sa af h3 tk3 e1 e2 hll hw F3 N3
    clear F9 F8 N9
    have hsz : (strValues l).toArray.size < 1000000 := by simp [strValues]; omega
    have hM : toldEnd st = toldM (xs.map (·.piece)) n eol := by rw [e1]; rfl
    obtain ⟨rest, row, words, o, b⟩ := st
    dsimp only at *
    have l8 := l9.2.2
    clear l9
    rcases o with _ | y
    · dsimp only [saidV] at F3
      k_steps
      all_goals exact hret _ l c _ _ (by rw [← hM]; exact e2) (by omega) (by assumption) (drop2 (by assumption)) l8
    · dsimp only [saidV] at F3
      k_steps
      all_goals exact hret _ (l ++ [(ofL y, tw)]) _ _ _ (by rw [← hM]; simp [toldEnd, e2]) (by simp; omega) (by assumption) (drop2 (by assumption)) l8
end
section
theorem extend_own {prog : Program} {w : World} {A : Around} {E : Value → Shared → Prop} {s : Shared} {h₀ : Heap} {L : Addr} {m : Str → Option Value} {S b : Addr} {ys : List Value} {its2 : Array Value} {c n2 : Nat} {news : List (Addr × Obj)} {g : Obj → List (Addr × Obj)} {Q : Value → Shared → Prop}
    (F : Fr h₀ L s.heap m) (N : News h₀ L s.heap news) (hb : (b, lstO its2 n2) ∈ news) (U : UpdF S (lstO ys.toArray c) news g) (hn : ys.length + its2.size ≤ 1000000)
    (h : ∀ c' h', Fr h₀ L h' m → News h₀ L h' (g (lstO (ys ++ its2.toList).toArray c')) → Q .none { s with heap := h' }) :
    wpAny (model prog w) A (call (.builtin "list.extend") [.ref S, .ref b]) Q E s := by
  obtain ⟨pre, post, rfl, hg, h1, h2⟩ := U.split
  refine extend_in (hsz := Nat.le_trans hn (by decide)) F N h1 h2 (N _ hb).1 fun h' n' F' N' => h n' h' F' ?_
  rw [hg]
  exact N'
abbrev MP (S P : Addr) (wv bv gv hv : Option Value) : Str → Option Value := fun y =>
  if y = Str.ofString "shown" then hv else if y = Str.ofString "sign" then gv else if y = Str.ofString "bare" then bv else if y = Str.ofString "word" then wv else
  if y = Str.ofString "pieces" then some (.ref P) else if y = Str.ofString "words" then some (.ref S) else none
noncomputable def pFor0 (l : List Stmt) : List Stmt := (stB (l.getD 1 (.Pass ⟨0, 0, 0, 0⟩))).1
@[reducible] noncomputable def wdB : List Stmt := by
  have h : pFor0 b821 = pFor0 b821 := rfl
  conv at h => rhs; whnf
  exact rhsOf h
section
noncomputable def sFor0 (l : List Stmt) : List Stmt := match l with
  | _ :: _ :: _ :: .For _ _ b _ _ :: _ => b
  | _ => []
@[reducible] noncomputable def sgB : List Stmt := by
  have h : sFor0 wdB = sFor0 wdB := rfl
  conv at h => rhs; whnf
  exact rhsOf h
local macro_rules | `(tactic| walk_at "call builtin:list.append") => `(tactic| (k_here; k_dflt (refine' append_own ?k1 ?k2 ?k3 ?k4 ?_; (case k1 | k2 => k_asm); (case k3 => k_updF); (case k4 => assumption)); intro c9 h9 F9 N9))
local macro_rules | `(tactic| walk_at "call builtin:list.extend") => `(tactic| (k_here; k_dflt (refine' extend_own ?k1 ?k2 ?k0 ?k3 ?k4 ?_; (case k1 | k2 => k_asm); (case k0 => k_mem); (case k3 => k_updF); (case k4 => (simp only [List.length_append, List.size_toArray, List.length_cons, List.length_nil]; omega))); intro c9 h9 F9 N9))
local macro_rules | `(tactic| walk_at "call ref") => `(tactic| (k_here; (with_reducible show wpAny _ _ (call (Value.ref 816) [Value.str (ofL [_]) _]) _ _ _); k_dflt (refine' shown_spec ?zB ?zF ?zX ?zT ?zK ?zN ?zc ?zd ?zu ?_; (case zK => first | exact rfl | assumption); (case zB | zF => k_asm); (case zX | zT | zN => k_asm); (case zc => assumption); (case zd => ktr_room); (case zu => ktr_units)); intro t9 h9 tk9 F9 N9))
local macro_rules | `(tactic| walk_at "callWith") => `(tactic| (k_here; (with_reducible show wpAny _ _ (callWith _ (Value.builtin "list.extend") [_] _ _) _ _ _); refine callWith_method1 ?_))
theorem MP_sign {S P : Addr} {wv bv gv hv a : Option Value} : (fun y => if y = Str.ofString "sign" then a else MP S P wv bv gv hv y) = MP S P wv bv a hv := by
  funext y
  by_cases e1 : y = Str.ofString "sign"
  · subst e1; simp [MP, ofs_eq]
  · simp only [MP, e1, if_false]
theorem MP_shown {S P : Addr} {wv bv gv hv a b : Option Value} : (fun y => if y = Str.ofString "shown" then b else if y = Str.ofString "sign" then a else MP S P wv bv gv hv y) = MP S P wv bv a b := by
  funext y
  by_cases e1 : y = Str.ofString "shown"
  · subst e1; simp [MP]
  · by_cases e2 : y = Str.ofString "sign"
    · subst e2; simp [MP, ofs_eq]
    · simp only [MP, e1, e2, if_false]
theorem ne_ref {h₀ h : Heap} {L a P : Addr} {news : List (Addr × Obj)} {x : Str} {t : Tok} {C zs : List Value} {k n : Nat} (N : News h₀ L h news) (h1 : (a, lstO (Value.str x t :: C).toArray k) ∈ news) (h2 : (P, lstO zs.toArray n) ∈ news) (hz : ∀ z ∈ zs, ∃ r, z = .ref r) : a ≠ P := by
  rintro rfl
  have e1 := (N _ h1).1
  have e2 := (N _ h2).1
  dsimp only at e1 e2
  rw [e1] at e2
  have e3 := congrArg Obj.data (Option.some.inj e2)
  simp only [Data.seq.injEq] at e3
  have e4 : Value.str x t :: C = zs := by simpa using e3.1
  obtain ⟨r, hr⟩ := hz (.str x t) (by rw [← e4]; simp)
  cases hr
theorem refs_ref (xs : List PO) : ∀ z ∈ refs xs, ∃ r, z = .ref r := fun z hz => by
  obtain ⟨x, _, rfl⟩ := List.mem_map.mp hz
  exact ⟨_, rfl⟩
theorem q39 : Str.ofString "'" = ofL [39] := by decide +kernel
theorem q34 : Str.ofString "\"" = ofL [34] := by decide +kernel
abbrev SignQ (h₀ : Heap) (L S P : Addr) (wv : Option Value) (bare : Bool) (new : List Piece) (xs : List PO) (rest : List (Addr × Obj)) (s : Shared) (Q : Flow → Shared → Prop) : Prop :=
  ∀ (ys : List PO) (n' : Nat) (gv hv : Option Value) (h' : Heap) (tk' : Nat), ys.map (·.piece) = new → (∀ y ∈ ys, y.addr ≠ P) → Fr h₀ L h' (MP S P wv (some (.bool bare)) gv hv) →
    News h₀ L h' ((P, lstO (refs (xs ++ ys)).toArray n') :: (ys.map PO.ent ++ rest)) → Q .next { s with heap := h', toks := tk' }
section
variable {h₀ h' : Heap} {L S P : Addr} {wv gv hv g gh : Option Value} {bare : Bool} {xs : List PO} {rest : List (Addr × Obj)} {s : Shared} {Q : Flow → Shared → Prop} {n' tk' c : Nat}
theorem sign_leaf1 {l0 l1 l2 l3 l4 l5 l6 : Addr} {a1 a2 b1 b2 c1 c2 d1 d2 e1 e2 : Tok} (hq : SignQ h₀ L S P wv bare (signPieces bare 39) xs rest s Q)
    (F : Fr h₀ L h' (fun y => if y = Str.ofString "sign" then g else MP S P wv (some (.bool bare)) gv hv y))
    (N : News h₀ L h' ((l0, W.listOf #[.ref l2, .ref l1] 0) :: (l1, W.listOf #[.str (Str.ofString "'") a1, .str (Str.ofString "") a2, .bool true] 0) :: (l2, W.listOf #[.str (Str.ofString "\"") b1, .str (Str.ofString "") b2, .bool false] 0) ::
      (l3, W.listOf #[.ref l6, .ref l5, .ref l4] 0) :: (l4, W.listOf #[.str (Str.ofString "'") c1, .str (Str.ofString "'") c2, .bool true] 0) :: (l5, W.listOf #[.str (Str.ofString "\"") d1, .str (Str.ofString "") d2, .bool true] 0) ::
      (l6, W.listOf #[.str (Str.ofString "'") e1, .str (Str.ofString "") e2, .bool false] 0) :: (P, lstO (refs xs ++ #[Value.ref l6, .ref l5, .ref l4].toList ++ #[Value.ref l2, .ref l1].toList).toArray n') :: rest)) : Q .next { s with heap := h', toks := tk' } := by
  rw [q39, q34, empty_eq] at N
  have hz : ∀ z ∈ refs xs ++ #[Value.ref l6, .ref l5, .ref l4].toList ++ #[Value.ref l2, .ref l1].toList, ∃ r, z = .ref r := fun z hz => by
    simp only [List.mem_append, List.mem_cons, List.not_mem_nil, or_false] at hz
    rcases hz with (hz | rfl | rfl | rfl) | rfl | rfl
    · exact refs_ref xs z hz
    all_goals exact ⟨_, rfl⟩
  refine hq [⟨l6, ⟨[39], some [], false⟩, e1, e2, 0⟩, ⟨l5, ⟨[34], some [], true⟩, d1, d2, 0⟩, ⟨l4, ⟨[39], some [39], true⟩, c1, c2, 0⟩, ⟨l2, ⟨[34], some [], false⟩, b1, b2, 0⟩, ⟨l1, ⟨[39], some [], true⟩, a1, a2, 0⟩] n' _ _ h' tk' rfl ?_ (frc F MP_sign) ?_
  · intro y hy
    simp only [List.mem_cons, List.not_mem_nil, or_false] at hy
    rcases hy with rfl | rfl | rfl | rfl | rfl
    · exact ne_ref N (.tail _ (.tail _ (.tail _ (.tail _ (.tail _ (.tail _ (.head _))))))) (.tail _ (.tail _ (.tail _ (.tail _ (.tail _ (.tail _ (.tail _ (.head _)))))))) hz
    · exact ne_ref N (.tail _ (.tail _ (.tail _ (.tail _ (.tail _ (.head _)))))) (.tail _ (.tail _ (.tail _ (.tail _ (.tail _ (.tail _ (.tail _ (.head _)))))))) hz
    · exact ne_ref N (.tail _ (.tail _ (.tail _ (.tail _ (.head _))))) (.tail _ (.tail _ (.tail _ (.tail _ (.tail _ (.tail _ (.tail _ (.head _)))))))) hz
    · exact ne_ref N (.tail _ (.tail _ (.head _))) (.tail _ (.tail _ (.tail _ (.tail _ (.tail _ (.tail _ (.tail _ (.head _)))))))) hz
    · exact ne_ref N (.tail _ (.head _)) (.tail _ (.tail _ (.tail _ (.tail _ (.tail _ (.tail _ (.tail _ (.head _)))))))) hz
  · intro q hq
    refine N q ?_
    simp only [List.map_cons, List.map_nil, List.cons_append, List.nil_append, List.mem_cons, List.append_assoc, refs, List.map_append] at hq ⊢
    rcases hq with h | h | h | h | h | h | h
    · right; right; right; right; right; right; right; left; exact h
    · right; right; right; right; right; right; left; exact h
    · right; right; right; right; right; left; exact h
    · right; right; right; right; left; exact h
    · right; right; left; exact h
    · right; left; exact h
    · right; right; right; right; right; right; right; right; exact h
theorem sign_leaf2 {l : Addr} {t : Tok} (hq : SignQ h₀ L S P wv bare (signPieces bare c) xs rest s Q) (hc : ¬ c = 39)
    (F : Fr h₀ L h' (fun y => if y = Str.ofString "shown" then gh else if y = Str.ofString "sign" then g else MP S P wv (some (.bool bare)) gv hv y))
    (N : News h₀ L h' ((l, W.listOf #[.str (ofL (shownC c)) t, .str (ofL (shownC c)) t, .bool !bare] 0) :: (P, lstO ((refs xs).toArray.push (.ref l)) n') :: rest)) : Q .next { s with heap := h', toks := tk' } := by
  have e : (refs xs).toArray.push (.ref l) = (refs (xs ++ [⟨l, ⟨shownC c, some (shownC c), !bare⟩, t, t, 0⟩])).toArray := by simp
  rw [e] at N
  refine hq [⟨l, ⟨shownC c, some (shownC c), !bare⟩, t, t, 0⟩] n' _ _ h' tk' (by simp [signPieces, hc]) ?_ (frc F MP_shown) ?_
  · intro y hy
    simp only [List.mem_cons, List.not_mem_nil, or_false] at hy
    subst hy
    exact ne_ref N (.head _) (.tail _ (.head _)) (refs_ref _)
  · intro q hq
    refine N q ?_
    simp only [List.map_cons, List.map_nil, List.cons_append, List.nil_append, List.mem_cons] at hq ⊢
    rcases hq with h | h | h
    · right; left; exact h
    · left; exact h
    · right; right; exact h
end
local macro_rules | `(tactic| walk_at "zz") => `(tactic| skip)
theorem sign_turn {prog : Program} {w : World} {p : Program} {loose : List Str} {mean : ExcName → Option Value} {mg mb : Str → Option Value}
    {dp un : Nat} {gd : Option (List Code)} {outer : List Env} {A₀ : Around} {base h₀ : Heap} {L : Addr} {s : Shared} {Q : Flow → Shared → Prop} {E : Value → Shared → Prop}
    {S P : Addr} {xs : List PO} {c n : Nat} {wv gv hv : Option Value} {bare : Bool} {u : Tok} {rest : List (Addr × Obj)}
    (B : Below A₀ base outer h₀) (F : Fr h₀ L s.heap (MP S P wv (some (.bool bare)) gv hv)) (X : (Kf w.params).In h₀) (T : Top p loose mean mg mb h₀)
    (N : News h₀ L s.heap ((P, lstO (refs xs).toArray n) :: rest)) (ho : OwnOff rest [P]) (hc : c < 256) (hlen : xs.length < 100000)
    (hd : dp + 8 < recursionLimit) (hu : un + 100 < cLine)
    (hq : SignQ h₀ L S P wv bare (signPieces bare c) xs rest s Q) :
    wpAny (model prog w) (ktrTop dp un gd (Str.ofString "_law_pieces") c821 L 821 (.ref 820) [] outer) (storeName (envOf (Str.ofString "_law_pieces") c821 L 821 (.ref 820)) (Str.ofString "sign") (.str (ofL [c]) u))
      (fun _ s₂ => wpAny (model prog w) (ktrTop dp un gd (Str.ofString "_law_pieces") c821 L 821 (.ref 820) [] outer) (execs sgB (envOf (Str.ofString "_law_pieces") c821 L 821 (.ref 820))) Q E s₂) E s := by
  have hsz : (refs xs).toArray.size < 1000000 := by simp; omega
  have hsz2 : (refs xs).length < 100000 := by simp; omega
  by_cases h39 : c = 39
  · subst h39
    have z1 : (ofL [39] == Str.ofString "'") = true := by decide +kernel
    k_steps
    all_goals exact sign_leaf1 hq (by assumption) (by assumption)
  · have z1 : (ofL [c] == Str.ofString "'") = false := by
      rw [show Str.ofString "'" = ofL [39] from by decide +kernel, sg_eq]
      exact decide_eq_false h39
    k_steps
    all_goals exact sign_leaf2 hq h39 (by assumption) (by assumption)
end
section
local macro_rules | `(tactic| walk_at "eval ListComp") => `(tactic| (k_here; refine halt ?_))
local macro_rules | `(tactic| walk_at "call ref") => `(tactic| (k_here; (with_reducible show wpAny _ _ (call (Value.ref 809) [Value.str (ofL [_]) _]) _ _ _); k_dflt (refine' safe_spec ?zB ?zF ?zX ?zT ?zK ?zN ?zc ?zd ?zu ?_; (case zK => first | exact rfl | assumption); (case zB | zF => k_asm); (case zX | zT | zN => k_asm); (case zc => assumption); (case zd => ktr_room); (case zu => ktr_units)); intro h9 tk9 F9 N9))
local macro_rules | `(tactic| walk_at "compareOp Eq ref ref") => `(tactic| (k_here; (with_reducible show wpAny _ _ (compareOp CmpOp.Eq (Value.ref _) (Value.ref _)) _ _ _); k_dflt (refine' eq_nil ?k1 ?k2 ?k3 ?_; (case k1 => exact ⟨_, (‹News _ _ _ _› (_, _) (.tail _ (.head _))).1, rfl, _, rfl⟩); (case k2 => exact ⟨_, (‹News _ _ _ _› (_, _) (.head _)).1, rfl, _, rfl⟩); (case k3 => ktr_units))))
local macro_rules | `(tactic| walk_at "compareOp NotEq ref ref") => `(tactic| (k_here; (with_reducible show wpAny _ _ (compareOp CmpOp.NotEq (Value.ref _) (Value.ref _)) _ _ _); k_dflt (refine' ne_nil ?k1 ?k2 ?k3 ?_; (case k1 => exact ⟨_, (‹News _ _ _ _› (_, _) (.tail _ (.head _))).1, rfl, _, rfl⟩); (case k2 => exact ⟨_, (‹News _ _ _ _› (_, _) (.head _)).1, rfl, _, rfl⟩); (case k3 => ktr_units))))
local macro_rules | `(tactic| walk_at "call builtin:list.append") => `(tactic| (k_here; k_dflt (refine' append_own ?k1 ?k2 ?k3 ?k4 ?_; (case k1 | k2 => k_asm); (case k3 => k_updF); (case k4 => assumption)); intro c9 h9 F9 N9))
noncomputable def nthS (l : List Stmt) (k : Nat) : Stmt := l.getD k (.Pass ⟨0, 0, 0, 0⟩)
@[reducible] noncomputable def wS0 : Stmt := by
  have h : nthS wdB 0 = nthS wdB 0 := rfl
  conv at h => rhs; whnf
  exact rhsOf h
@[reducible] noncomputable def wS1 : Stmt := by
  have h : nthS wdB 1 = nthS wdB 1 := rfl
  conv at h => rhs; whnf
  exact rhsOf h
@[reducible] noncomputable def wS2 : Stmt := by
  have h : nthS wdB 2 = nthS wdB 2 := rfl
  conv at h => rhs; whnf
  exact rhsOf h
@[reducible] noncomputable def wS3 : Stmt := by
  have h : nthS wdB 3 = nthS wdB 3 := rfl
  conv at h => rhs; whnf
  exact rhsOf h
@[reducible] noncomputable def wS4 : Stmt := by
  have h : nthS wdB 4 = nthS wdB 4 := rfl
  conv at h => rhs; whnf
  exact rhsOf h
theorem MP_bare {S P : Addr} {wv bv gv hv a : Option Value} : (fun y => if y = Str.ofString "bare" then a else MP S P wv bv gv hv y) = MP S P wv a gv hv := by
  funext y
  by_cases e1 : y = Str.ofString "bare"
  · subst e1; simp [MP, ofs_eq]
  · simp only [MP, e1, if_false]
abbrev SegQ (h₀ : Heap) (L P : Addr) (m : Str → Option Value) (new : List Piece) (xs : List PO) (rest : List (Addr × Obj)) (s : Shared) (Q : Flow → Shared → Prop) : Prop :=
  ∀ (ys : List PO) (n' : Nat) (h' : Heap) (tk' : Nat), ys.map (·.piece) = new → (∀ y ∈ ys, y.addr ≠ P) → Fr h₀ L h' m → News h₀ L h' ((P, lstO (refs (xs ++ ys)).toArray n') :: (ys.map PO.ent ++ rest)) → Q .next { s with heap := h', toks := tk' }
section
variable {h₀ h' : Heap} {L P : Addr} {m : Str → Option Value} {xs : List PO} {rest : List (Addr × Obj)} {s : Shared} {Q : Flow → Shared → Prop} {n' tk' : Nat}
theorem seg_skip {new : List Piece} (hq : SegQ h₀ L P m new xs rest s Q) (hn : new = []) (F : Fr h₀ L h' m) (N : News h₀ L h' ((P, lstO (refs xs).toArray n') :: rest)) : Q .next { s with heap := h', toks := tk' } := by
  subst hn
  exact hq [] n' h' tk' rfl (fun y hy => nomatch hy) F (by rw [List.append_nil]; exact N)
theorem seg_one {new : List Piece} {p : Piece} {l : Addr} {t1 t2 : Tok} (hq : SegQ h₀ L P m new xs rest s Q) (hn : new = [p]) (F : Fr h₀ L h' m)
    (N : News h₀ L h' ((l, pobj p t1 t2 0) :: (P, lstO ((refs xs).toArray.push (.ref l)) n') :: rest)) : Q .next { s with heap := h', toks := tk' } := by
  subst hn
  have e : (refs xs).toArray.push (.ref l) = (refs (xs ++ [⟨l, p, t1, t2, 0⟩])).toArray := by simp
  rw [e] at N
  refine hq [⟨l, p, t1, t2, 0⟩] n' h' tk' rfl ?_ F ?_
  · intro y hy
    simp only [List.mem_cons, List.not_mem_nil, or_false] at hy
    subst hy
    exact ne_ref N (.head _) (.tail _ (.head _)) (refs_ref _)
  · intro q hq
    refine N q ?_
    simp only [List.map_cons, List.map_nil, List.cons_append, List.nil_append, List.mem_cons] at hq ⊢
    rcases hq with h | h | h
    · right; left; exact h
    · left; exact h
    · right; right; exact h
end
local macro_rules | `(tactic| walk_at "zz") => `(tactic| skip)
theorem bare_seg {prog : Program} {w : World} {p : Program} {loose : List Str} {mean : ExcName → Option Value} {mg mb : Str → Option Value}
    {dp un : Nat} {gd : Option (List Code)} {outer : List Env} {A₀ : Around} {base h₀ : Heap} {L : Addr} {s : Shared} {Q : Flow → Shared → Prop} {E : Value → Shared → Prop}
    {S P : Addr} {bv gv hv : Option Value} {u : List Nat} {tw : Tok} {own : List (Addr × Obj)}
    (B : Below A₀ base outer h₀) (F : Fr h₀ L s.heap (MP S P (some (.str (ofL u) tw)) bv gv hv)) (X : (Kf w.params).In h₀) (T : Top p loose mean mg mb h₀)
    (N : News h₀ L s.heap own) (hc : ∀ c ∈ u, c < 256) (hlen : u.length < 100000)
    (hd : dp + 8 < recursionLimit) (hu : un + 100 < cLine)
    (hq : ∀ (h' : Heap) (tk' : Nat), Fr h₀ L h' (MP S P (some (.str (ofL u) tw)) (some (.bool (bareW u))) gv hv) → News h₀ L h' own → Q .next { s with heap := h', toks := tk' }) :
    wpAny (model prog w) (ktrTop dp un gd (Str.ofString "_law_pieces") c821 L 821 (.ref 820) [] outer) (exec wS0 (envOf (Str.ofString "_law_pieces") c821 L 821 (.ref 820))) Q E s := by
  rcases u with _ | ⟨d, r⟩
  · have z1 : (ofL [] != Str.ofString "") = false := by decide +kernel
    k_steps
    all_goals exact hq _ _ (frc (by assumption) MP_bare) (by assumption)
  · have z1 : (ofL (d :: r) != Str.ofString "") = true := by
      rw [bne, ne_empty (by simp)]
      rfl
    k_steps
    refine unhalt ?_
    refine ListComp_str (F₀ := by k_asm) (by with_unfolding_all rfl) (by decide) (by rfl) (by decide) (by rfl) ?_
    k_steps
    refine ⟨d :: r, _, own, rfl, rfl, by assumption, by assumption, Nat.le_trans (Nat.le_of_lt hlen) (by decide), fun s₂ hs₂ => ?_⟩
    obtain ⟨h2, rfl⟩ := hs₂
    refine rest_constT (fun i ys => ys.isEmpty = ((d :: r).take i).all safeC) trivial rfl ?_ ?_
    · intro i v ys I oI C oC D m₂ h tk E' hv hj hC hm F1 N1
      obtain ⟨c, t, hci, rfl⟩ := hv
      have hci' : (d :: r)[i]? = some c := by simpa [ofL] using hci
      have hc1 := hc c (List.mem_of_getElem? hci')
      change m₂ (Str.ofString "sign") = some (Value.str (ofL [c]) t) at hm
      cases hs : safeC c
      all_goals
        k_steps
        all_goals first
          | assumption
          | (rw [List.take_add_one, hci']; simp [hs, hj])
          | trace_state
    · intro ys hj D2 h3 tk3 F3 N3 off3
      have e : ys.toArray.isEmpty = bareW (d :: r) := by
        rw [List.take_length] at hj
        unfold bareW
        simp only [List.isEmpty_toArray, hj, List.isEmpty_cons, Bool.not_false, Bool.true_and]
      k_steps
      all_goals exact hq _ _ (e ▸ frc (by assumption) MP_bare) (nTail (nTail (by assumption)))
theorem sep_seg {prog : Program} {w : World} {p : Program} {loose : List Str} {mean : ExcName → Option Value} {mg mb : Str → Option Value}
    {dp un : Nat} {gd : Option (List Code)} {outer : List Env} {A₀ : Around} {base h₀ : Heap} {L : Addr} {s : Shared} {Q : Flow → Shared → Prop} {E : Value → Shared → Prop}
    {S P : Addr} {wv bv gv hv : Option Value} {xs : List PO} {n : Nat} {rest : List (Addr × Obj)}
    (B : Below A₀ base outer h₀) (F : Fr h₀ L s.heap (MP S P wv bv gv hv)) (X : (Kf w.params).In h₀) (T : Top p loose mean mg mb h₀)
    (N : News h₀ L s.heap ((P, lstO (refs xs).toArray n) :: rest)) (ho : OwnOff rest [P]) (hlen : xs.length < 100000)
    (hd : dp + 8 < recursionLimit) (hu : un + 100 < cLine)
    (hq : SegQ h₀ L P (MP S P wv bv gv hv) (if xs = [] then [] else [⟨[32], none, false⟩]) xs rest s Q) :
    wpAny (model prog w) (ktrTop dp un gd (Str.ofString "_law_pieces") c821 L 821 (.ref 820) [] outer) (exec wS1 (envOf (Str.ofString "_law_pieces") c821 L 821 (.ref 820))) Q E s := by
  have q32 : Str.ofString " " = ofL [32] := by decide +kernel
  have hsz : (refs xs).toArray.size < 1000000 := by simp; omega
  rcases xs with _ | ⟨x, xs⟩
  · k_steps
    all_goals exact seg_skip hq rfl (by assumption) (nTail (by assumption))
  · have z1 : (!(refs (x :: xs)).toArray.isEmpty) = true := by simp
    k_steps
    all_goals
      have N9 := ‹News h₀ L _ ((_, W.listOf #[_, _, _] 0) :: _)›
      rw [q32] at N9
      exact seg_one (p := ⟨[32], none, false⟩) (t2 := 0) hq (by simp) (by assumption) (fun q hq => N9 q (by
        simp only [List.mem_cons] at hq ⊢
        rcases hq with h | h | h
        · left; exact h
        · right; right; left; exact h
        · right; right; right; exact h))
theorem open_seg {prog : Program} {w : World} {p : Program} {loose : List Str} {mean : ExcName → Option Value} {mg mb : Str → Option Value}
    {dp un : Nat} {gd : Option (List Code)} {outer : List Env} {A₀ : Around} {base h₀ : Heap} {L : Addr} {s : Shared} {Q : Flow → Shared → Prop} {E : Value → Shared → Prop}
    {S P : Addr} {wv gv hv : Option Value} {bare : Bool} {xs : List PO} {n : Nat} {rest : List (Addr × Obj)}
    (B : Below A₀ base outer h₀) (F : Fr h₀ L s.heap (MP S P wv (some (.bool bare)) gv hv)) (X : (Kf w.params).In h₀) (T : Top p loose mean mg mb h₀)
    (N : News h₀ L s.heap ((P, lstO (refs xs).toArray n) :: rest)) (ho : OwnOff rest [P]) (hlen : xs.length < 100000)
    (hd : dp + 8 < recursionLimit) (hu : un + 100 < cLine)
    (hq : SegQ h₀ L P (MP S P wv (some (.bool bare)) gv hv) (if bare then [] else [⟨[39], some [], true⟩]) xs rest s Q) :
    wpAny (model prog w) (ktrTop dp un gd (Str.ofString "_law_pieces") c821 L 821 (.ref 820) [] outer) (exec wS2 (envOf (Str.ofString "_law_pieces") c821 L 821 (.ref 820))) Q E s := by
  have hsz : (refs xs).toArray.size < 1000000 := by simp; omega
  cases bare
  · k_steps
    all_goals
      have N9 := ‹News h₀ L _ ((_, W.listOf #[_, _, _] 0) :: _)›
      rw [q39, empty_eq] at N9
      exact seg_one (p := ⟨[39], some [], true⟩) hq rfl (by assumption) N9
  · k_steps
    all_goals exact seg_skip hq rfl (by assumption) (by assumption)
theorem close_seg {prog : Program} {w : World} {p : Program} {loose : List Str} {mean : ExcName → Option Value} {mg mb : Str → Option Value}
    {dp un : Nat} {gd : Option (List Code)} {outer : List Env} {A₀ : Around} {base h₀ : Heap} {L : Addr} {s : Shared} {Q : Flow → Shared → Prop} {E : Value → Shared → Prop}
    {S P : Addr} {wv gv hv : Option Value} {bare : Bool} {xs : List PO} {n : Nat} {rest : List (Addr × Obj)}
    (B : Below A₀ base outer h₀) (F : Fr h₀ L s.heap (MP S P wv (some (.bool bare)) gv hv)) (X : (Kf w.params).In h₀) (T : Top p loose mean mg mb h₀)
    (N : News h₀ L s.heap ((P, lstO (refs xs).toArray n) :: rest)) (ho : OwnOff rest [P]) (hlen : xs.length < 100000)
    (hd : dp + 8 < recursionLimit) (hu : un + 100 < cLine)
    (hq : SegQ h₀ L P (MP S P wv (some (.bool bare)) gv hv) (if bare then [] else [⟨[39], some [], false⟩]) xs rest s Q) :
    wpAny (model prog w) (ktrTop dp un gd (Str.ofString "_law_pieces") c821 L 821 (.ref 820) [] outer) (exec wS4 (envOf (Str.ofString "_law_pieces") c821 L 821 (.ref 820))) Q E s := by
  have hsz : (refs xs).toArray.size < 1000000 := by simp; omega
  cases bare
  · k_steps
    all_goals
      have N9 := ‹News h₀ L _ ((_, W.listOf #[_, _, _] 0) :: _)›
      rw [q39, empty_eq] at N9
      exact seg_one (p := ⟨[39], some [], false⟩) hq rfl (by assumption) N9
  · k_steps
    all_goals exact seg_skip hq rfl (by assumption) (by assumption)
end
section
local macro_rules | `(tactic| walk_at "pyIter str") => `(tactic| (k_here; refine halt ?_))
local macro_rules | `(tactic| walk_at "exec Assign") => `(tactic| (k_here; refine halt ?_))
local macro_rules | `(tactic| walk_at "exec If") => `(tactic| (k_here; refine halt ?_))
local macro_rules | `(tactic| walk_at "exec For Name Name cons nil") => `(tactic| (k_here; refine halt ?_))
theorem off_app {ys : List PO} {P : Addr} {rest : List (Addr × Obj)} (h : ∀ y ∈ ys, y.addr ≠ P) (ho : OwnOff rest [P]) : OwnOff (ys.map PO.ent ++ rest) [P] := fun q hq b hb => by
  simp only [List.mem_cons, List.not_mem_nil, or_false] at hb
  subst hb
  rcases List.mem_append.mp hq with hq | hq
  · obtain ⟨y, hy, rfl⟩ := List.mem_map.mp hq
    exact h y hy
  · exact ho q hq _ (by simp)
theorem sign_len (b : Bool) (c : Nat) : (signPieces b c).length ≤ 5 := by
  unfold signPieces
  split <;> simp
theorem signs_len (b : Bool) : ∀ u : List Nat, (u.flatMap (signPieces b)).length ≤ 5 * u.length
  | [] => by simp
  | c :: r => by
    have ih := signs_len b r
    have := sign_len b c
    rw [List.flatMap_cons, List.length_append, List.length_cons]
    omega
theorem iter_list (x : List Nat) : Value.type "list" ≠ .type (strIterType (ofL x)) := by
  intro e
  have e := Value.type.inj e
  unfold strIterType at e
  split at e <;> exact absurd e (by decide)
abbrev SgP := List PO × Nat × Option Value × Option Value
theorem for_seg {prog : Program} {w : World} {p : Program} {loose : List Str} {mean : ExcName → Option Value} {mg mb : Str → Option Value}
    {dp un : Nat} {gd : Option (List Code)} {outer : List Env} {A₀ : Around} {base h₀ : Heap} {L : Addr} {s : Shared} {Q : Flow → Shared → Prop} {E : Value → Shared → Prop}
    {S P : Addr} {gv hv : Option Value} {bare : Bool} {u : List Nat} {tw : Tok} {xs : List PO} {n : Nat} {rest : List (Addr × Obj)}
    (B : Below A₀ base outer h₀) (F : Fr h₀ L s.heap (MP S P (some (.str (ofL u) tw)) (some (.bool bare)) gv hv)) (X : (Kf w.params).In h₀) (T : Top p loose mean mg mb h₀)
    (N : News h₀ L s.heap ((P, lstO (refs xs).toArray n) :: rest)) (ho : OwnOff rest [P]) (hlen : xs.length < 50000) (hc : ∀ c ∈ u, c < 256) (hul : u.length ≤ 1000)
    (hd : dp + 8 < recursionLimit) (hu : un + 100 < cLine)
    (hE : PassesOwn (model prog w) (ktrTop dp un gd (Str.ofString "_law_pieces") c821 L 821 (.ref 820) [] outer) (envOf (Str.ofString "_law_pieces") c821 L 821 (.ref 820)) E)
    (hq : SignQ h₀ L S P (some (.str (ofL u) tw)) bare (u.flatMap (signPieces bare)) xs rest s Q) :
    wpAny (model prog w) (ktrTop dp un gd (Str.ofString "_law_pieces") c821 L 821 (.ref 820) [] outer) (exec wS3 (envOf (Str.ofString "_law_pieces") c821 L 821 (.ref 820))) Q E s := by
  refine for_start ?_
  k_steps
  refine unhalt ?_
  refine loop_str (σ := SgP) (fun a => (P, lstO (refs (xs ++ a.1)).toArray a.2.1) :: a.1.map PO.ent) (fun a => MP S P (some (.str (ofL u) tw)) (some (.bool bare)) a.2.2.1 a.2.2.2)
    (fun i a => a.1.map (·.piece) = (u.take i).flatMap (signPieces bare) ∧ ∀ y ∈ a.1, y.addr ≠ P) [P] (own := rest) (a₀ := ([], n, gv, hv)) rfl hE ?_ ?_ ho (by assumption) ?_ ⟨rfl, (fun y hy => nomatch hy)⟩ ?_ ?_
  · intro i a _ p hp
    rcases List.mem_cons.mp hp with rfl | hp
    · exact iter_list u
    · obtain ⟨y, _, rfl⟩ := List.mem_map.mp hp
      exact iter_list u
  · intro b hb
    simp only [List.mem_cons, List.not_mem_nil, or_false] at hb
    subst hb
    exact ⟨_, .head _⟩
  · intro q hq
    simp only [List.append_nil, List.map_nil] at hq
    exact N q hq
  · rintro i c t ⟨zs, k, gv, hv⟩ h tk own' hci ⟨j1, j2⟩ hsub hoff F1 N1
    dsimp only at j1 j2 F1 N1
    have hi := (List.getElem?_eq_some_iff.mp hci).1
    have hzl : zs.length ≤ 5000 := by
      have h1 := congrArg List.length j1
      have h2 := signs_len bare (u.take i)
      simp only [List.length_map, List.length_take] at h1 h2
      omega
    refine sign_turn B F1 X T (xs := xs ++ zs) (rest := zs.map PO.ent ++ own') N1 (off_app j2 hoff) (hc c (List.mem_of_getElem? hci)) (by simp; omega) hd hu ?_
    intro ys n' gv' hv' h' tk' e1 e2 F2 N2
    refine ⟨(zs ++ ys, n', gv', hv'), h', tk', rfl, F2, fun q hq => N2 q ?_, ?_, ?_⟩
    · simp only [List.cons_append, List.mem_cons, List.map_append, List.mem_append, List.append_assoc] at hq ⊢
      rcases hq with h | h | h | h
      · left; rw [h]
      · right; right; left; exact h
      · right; left; exact h
      · right; right; right; exact h
    · rw [List.map_append, j1, e1, List.take_add_one, hci]
      simp
    · intro y hy
      rcases List.mem_append.mp hy with hy | hy
      · exact j2 y hy
      · exact e2 y hy
  · rintro ⟨zs, k, gv, hv⟩ h tk ⟨j1, j2⟩ F1 N1
    rw [List.take_length] at j1
    exact hq zs k gv hv h tk j1 j2 F1 N1
abbrev WordQ (h₀ : Heap) (L S P : Addr) (new : List Piece) (xs : List PO) (rest : List (Addr × Obj)) (s : Shared) (Q : Flow → Shared → Prop) : Prop :=
  ∀ (ys : List PO) (n' : Nat) (wv bv gv hv : Option Value) (h' : Heap) (tk' : Nat), ys.map (·.piece) = new → (∀ y ∈ ys, y.addr ≠ P) → Fr h₀ L h' (MP S P wv bv gv hv) →
    News h₀ L h' ((P, lstO (refs (xs ++ ys)).toArray n') :: (ys.map PO.ent ++ rest)) → Q .next { s with heap := h', toks := tk' }
theorem MP_word {S P : Addr} {wv bv gv hv a : Option Value} : (fun y => if y = Str.ofString "word" then a else MP S P wv bv gv hv y) = MP S P a bv gv hv := by
  funext y
  by_cases e1 : y = Str.ofString "word"
  · subst e1; simp [MP, ofs_eq]
  · simp only [MP, e1, if_false]
theorem word_body {prog : Program} {w : World} {p : Program} {loose : List Str} {mean : ExcName → Option Value} {mg mb : Str → Option Value}
    {dp un : Nat} {gd : Option (List Code)} {outer : List Env} {A₀ : Around} {base h₀ : Heap} {L : Addr} {s : Shared} {Q : Flow → Shared → Prop} {E : Value → Shared → Prop}
    {S P : Addr} {wv bv gv hv : Option Value} {u : List Nat} {tw : Tok} {xs : List PO} {n : Nat} {rest : List (Addr × Obj)}
    (B : Below A₀ base outer h₀) (F : Fr h₀ L s.heap (MP S P wv bv gv hv)) (X : (Kf w.params).In h₀) (T : Top p loose mean mg mb h₀)
    (N : News h₀ L s.heap ((P, lstO (refs xs).toArray n) :: rest)) (ho : OwnOff rest [P]) (hlen : xs.length < 40000) (hc : ∀ c ∈ u, c < 256) (hul : u.length ≤ 1000)
    (hd : dp + 8 < recursionLimit) (hu : un + 100 < cLine)
    (hE : PassesOwn (model prog w) (ktrTop dp un gd (Str.ofString "_law_pieces") c821 L 821 (.ref 820) [] outer) (envOf (Str.ofString "_law_pieces") c821 L 821 (.ref 820)) E)
    (hq : WordQ h₀ L S P ((if xs = [] then [] else [⟨[32], none, false⟩]) ++ wordPieces u) xs rest s Q) :
    wpAny (model prog w) (ktrTop dp un gd (Str.ofString "_law_pieces") c821 L 821 (.ref 820) [] outer) (storeName (envOf (Str.ofString "_law_pieces") c821 L 821 (.ref 820)) (Str.ofString "word") (.str (ofL u) tw)) (fun _ s₂ => wpAny (model prog w) (ktrTop dp un gd (Str.ofString "_law_pieces") c821 L 821 (.ref 820) [] outer) (execs wdB (envOf (Str.ofString "_law_pieces") c821 L 821 (.ref 820))) Q E s₂) E s := by
  k_steps
  refine unhalt ?_
  have F1 := frc ‹Fr _ _ _ (fun y => if y = Str.ofString "word" then _ else _)› MP_word
  refine bare_seg B F1 X T (by assumption) hc (by omega) hd hu ?_
  intro h1 tk1 F2 N2
  clear F1
  dsimp only
  k_steps
  refine unhalt ?_
  refine sep_seg B F2 X T N2 ho (by omega) hd hu ?_
  intro y1 n1 h2 tk2 a1 b1 F3 N3
  clear F2 N2
  dsimp only
  have l1 : y1.length ≤ 1 := by
    have h := congrArg List.length a1
    rw [List.length_map] at h
    rw [h]
    split <;> simp
  k_steps
  refine unhalt ?_
  refine open_seg B F3 X T N3 (off_app b1 ho) (by simp; omega) hd hu ?_
  intro y2 n2 h3 tk3 a2 b2 F4 N4
  clear F3 N3
  dsimp only
  have l2 : y2.length ≤ 1 := by
    have h := congrArg List.length a2
    rw [List.length_map] at h
    rw [h]
    split <;> simp
  k_steps
  refine unhalt ?_
  refine for_seg B F4 X T N4 (off_app b2 (off_app b1 ho)) (by simp; omega) hc hul hd hu hE ?_
  intro y3 n3 gv3 hv3 h4 tk4 a3 b3 F5 N5
  clear F4 N4
  dsimp only
  have l3 : y3.length ≤ 5 * u.length := by
    have h1 := congrArg List.length a3
    have h2 := signs_len (bareW u) u
    simp only [List.length_map] at h1
    omega
  k_steps
  refine unhalt ?_
  refine close_seg B F5 X T N5 (off_app b3 (off_app b2 (off_app b1 ho))) (by simp; omega) hd hu ?_
  intro y4 n4 h5 tk5 a4 b4 F6 N6
  clear F5 N5
  dsimp only
  k_steps
  refine hq (y1 ++ y2 ++ y3 ++ y4) n4 _ _ _ _ _ _ ?_ ?_ (by assumption) (fun q hq => ‹News h₀ L _ _› q ?_)
  · simp only [List.map_append, a1, a2, a3, a4, wordPieces, List.append_assoc]
  · intro y hy
    simp only [List.mem_append] at hy
    rcases hy with ((hy | hy) | hy) | hy
    · exact b1 y hy
    · exact b2 y hy
    · exact b3 y hy
    · exact b4 y hy
  · simp only [List.cons_append, List.mem_cons, List.map_append, List.mem_append, List.append_assoc] at hq ⊢
    rcases hq with h | h | h | h | h | h
    · left; exact h
    · right; right; right; right; left; exact h
    · right; right; right; left; exact h
    · right; right; left; exact h
    · right; left; exact h
    · right; right; right; right; right; exact h
end
section
local macro_rules | `(tactic| walk_at "exec For Name Name cons nil") => `(tactic| (k_here; refine for_start ?_))
local macro_rules | `(tactic| walk_at "pyIter ref") => `(tactic| (k_here; refine halt ?_))
theorem MP_start {S P : Addr} {f : Str → Option Value} (h0 : f (Str.ofString "words") = some (.ref S)) (h1 : ∀ y, y ≠ Str.ofString "words" → f y = none) :
    (fun y => if y = Str.ofString "pieces" then some (.ref P) else f y) = MP S P none none none none :=
  have g : ∀ x ∈ ["shown", "sign", "bare", "word"], f (Str.ofString x) = none := fun x hx => h1 _ ((by decide +kernel : ∀ x ∈ ["shown", "sign", "bare", "word"], Str.ofString x ≠ Str.ofString "words") x hx)
  chain_from (l1 := [(_, _)]) (l2 := [(_, _), (_, _), (_, _), (_, _), (_, _), (_, _)]) [(_, _), (_, _), (_, _), (_, _), (_, _)] ⟨h0, g _ (.head _), g _ (.tail _ (.head _)), g _ (.tail _ (.tail _ (.head _))), g _ (.tail _ (.tail _ (.tail _ (.head _)))), trivial⟩ (fun y h => h1 y (h (_, _) (.tail _ (.head _)))) (by kernel_rfl)
theorem wordPieces_ne (u : List Nat) : wordPieces u ≠ [] := by
  unfold wordPieces
  cases hb : bareW u with
  | false => simp
  | true =>
    simp only [if_true, List.nil_append, List.append_nil]
    unfold bareW at hb
    cases u with
    | nil => simp at hb
    | cons c r =>
      rw [List.flatMap_cons]
      unfold signPieces
      split <;> simp
theorem pieces_snoc (w : List Nat) : ∀ ws : List (List Nat), piecesM (ws ++ [w]) = piecesM ws ++ ((if piecesM ws = [] then [] else [⟨[32], none, false⟩]) ++ wordPieces w)
  | [] => by simp [piecesM]
  | [v] => by
    have := wordPieces_ne v
    simp [piecesM, this]
  | v :: v' :: r => by
    have ih := pieces_snoc w (v' :: r)
    simp only [List.cons_append] at ih ⊢
    simp only [piecesM, ih, List.append_assoc, List.cons_append]
    have e1 : piecesM (v' :: r) ≠ [] := by
      cases r with
      | nil => exact wordPieces_ne v'
      | cons a b => simp [piecesM, wordPieces_ne]
    rw [if_neg e1]
    simp
theorem word_len (u : List Nat) : (wordPieces u).length ≤ 5 * u.length + 2 := by
  have := signs_len (bareW u) u
  unfold wordPieces
  cases hb : bareW u
  all_goals
    rw [hb] at this
    simp only [if_true, Bool.false_eq_true, if_false, List.length_append, List.length_cons, List.length_nil]
    omega
theorem pieces_len : ∀ {ws : List (List Nat)}, (∀ u ∈ ws, u.length ≤ 100) → (piecesM ws).length ≤ 503 * ws.length
  | [], _ => by simp [piecesM]
  | [v], h => by
    have := word_len v
    have := h v (.head _)
    simp only [piecesM, List.length_cons, List.length_nil]
    omega
  | v :: v' :: r, h => by
    have ih := pieces_len (ws := v' :: r) fun u hu => h u (.tail _ hu)
    have := word_len v
    have := h v (.head _)
    simp only [piecesM, List.length_append, List.length_cons] at ih ⊢
    omega
abbrev PieceOk (p : Piece) : Prop := p.shown.length ≤ 3 ∧ (∀ y, p.said = some y → y.length ≤ 3) ∧ (p.after = true → p.said ≠ none)
theorem sign_ok2 (b : Bool) (c : Nat) : ∀ p ∈ signPieces b c, PieceOk p := by
  intro p hp
  unfold signPieces at hp
  split at hp
  · simp only [List.mem_cons, List.not_mem_nil, or_false] at hp
    rcases hp with rfl | rfl | rfl | rfl | rfl <;> exact ⟨by decide, (fun y hy => by cases hy; decide), by decide⟩
  · simp only [List.mem_cons, List.not_mem_nil, or_false] at hp
    subst hp
    have := shown_len c
    exact ⟨this, (fun y hy => by cases hy; exact this), (fun _ e => nomatch e)⟩
theorem word_ok2 (u : List Nat) : ∀ p ∈ wordPieces u, PieceOk p := by
  intro p hp
  unfold wordPieces at hp
  simp only [List.mem_append] at hp
  rcases hp with (hp | hp) | hp
  · split at hp
    · cases hp
    · simp only [List.mem_cons, List.not_mem_nil, or_false] at hp
      subst hp
      exact ⟨by decide, (fun y hy => by cases hy; decide), by decide⟩
  · obtain ⟨c, _, hp⟩ := List.mem_flatMap.mp hp
    exact sign_ok2 _ c p hp
  · split at hp
    · cases hp
    · simp only [List.mem_cons, List.not_mem_nil, or_false] at hp
      subst hp
      exact ⟨by decide, (fun y hy => by cases hy; decide), by decide⟩
theorem pieces_ok2 : ∀ ws : List (List Nat), ∀ p ∈ piecesM ws, PieceOk p
  | [], p, hp => nomatch hp
  | [v], p, hp => word_ok2 v p hp
  | v :: v' :: r, p, hp => by
    simp only [piecesM, List.mem_append, List.mem_cons] at hp
    rcases hp with hp | rfl | hp
    · exact word_ok2 v p hp
    · exact ⟨by decide, (fun y hy => nomatch hy), (fun h => nomatch h)⟩
    · exact pieces_ok2 (v' :: r) p hp
abbrev SgW2 := List PO × Nat × Option Value × Option Value × Option Value × Option Value
theorem words_loop {prog : Program} {w : World} {p : Program} {loose : List Str} {mean : ExcName → Option Value} {mg mb : Str → Option Value}
    {dp un : Nat} {gd : Option (List Code)} {outer : List Env} {A₀ : Around} {base h₀ : Heap} {L : Addr} {s : Shared} {Q : Flow → Shared → Prop} {E : Value → Shared → Prop}
    {S P : Addr} {l : List (Str × Tok)} {ws : List (List Nat)} {c0 n : Nat} {own : List (Addr × Obj)} {px : Pos}
    (B : Below A₀ base outer h₀) (F : Fr h₀ L s.heap (MP S P none none none none)) (X : (Kf w.params).In h₀) (T : Top p loose mean mg mb h₀)
    (N : News h₀ L s.heap ((P, lstO (refs []).toArray n) :: own)) (ho : OwnOff own [P]) (hS : (S, lstO (strValues l).toArray c0) ∈ own) (hl : l.map Prod.fst = ws.map ofL) (hws : ws.length ≤ 50) (hw : ∀ u ∈ ws, u.length ≤ 100 ∧ ∀ c ∈ u, c < 256)
    (hd : dp + 8 < recursionLimit) (hu : un + 100 < cLine)
    (hE : PassesOwn (model prog w) (ktrTop dp un gd (Str.ofString "_law_pieces") c821 L 821 (.ref 820) [] outer) (envOf (Str.ofString "_law_pieces") c821 L 821 (.ref 820)) E)
    (hq : ∀ (xs : List PO) (n : Nat) (wv bv gv hv : Option Value) (h : Heap) (tk : Nat), xs.map (·.piece) = piecesM ws → Fr h₀ L h (MP S P wv bv gv hv) → News h₀ L h ((P, lstO (refs xs).toArray n) :: (xs.map PO.ent ++ own)) → Q .next { s with heap := h, toks := tk }) :
    wpAny (model prog w) (ktrTop dp un gd (Str.ofString "_law_pieces") c821 L 821 (.ref 820) [] outer) (pyIter (.ref S))
      (LoopC prog w (ktrTop dp un gd (Str.ofString "_law_pieces") c821 L 821 (.ref 820) [] outer) (envOf (Str.ofString "_law_pieces") c821 L 821 (.ref 820)) (.Name (Str.ofString "word") px) wdB Q E) E s := by
  have hll : l.length = ws.length := by simpa using congrArg List.length hl
  refine loop_list (σ := SgW2) (fun a => (P, lstO (refs a.1).toArray a.2.1) :: a.1.map PO.ent) (fun a => MP S P a.2.2.1 a.2.2.2.1 a.2.2.2.2.1 a.2.2.2.2.2) (fun i a => a.1.map (·.piece) = piecesM (ws.take i) ∧ ∀ y ∈ a.1, y.addr ≠ P) [P]
    (vs := strValues l) (own := own) (a₀ := ([], n, none, none, none, none)) rfl hE ?_ (.inl ⟨_, hS⟩) ?_ ?_ ho F ?_ ⟨rfl, (fun y hy => nomatch hy)⟩ ?_ ?_
  · exact ⟨_, (N _ (.tail _ hS)).1, rfl, _, rfl⟩
  · intro i a _ p hp
    rcases List.mem_cons.mp hp with rfl | hp
    · exact fun e => absurd (Value.type.inj e) (by decide)
    · obtain ⟨y, _, rfl⟩ := List.mem_map.mp hp
      exact fun e => absurd (Value.type.inj e) (by decide)
  · intro b hb
    simp only [List.mem_cons, List.not_mem_nil, or_false] at hb
    subst hb
    exact ⟨_, .head _⟩
  · intro q hq
    exact N q hq
  · rintro i v ⟨xs, k, wv, bv, gv, hv⟩ h tk own' hvi ⟨j1, j2⟩ hsub hoff F1 N1
    dsimp only at j1 j2 F1 N1
    obtain ⟨pr, hpr, rfl⟩ : ∃ pr, l[i]? = some pr ∧ v = .str pr.1 pr.2 := by
      simp only [strValues, List.getElem?_map] at hvi
      obtain ⟨x, h1, h2⟩ := Option.map_eq_some_iff.mp hvi
      exact ⟨x, h1, h2.symm⟩
    obtain ⟨u, hu1, hu2⟩ : ∃ u, ws[i]? = some u ∧ pr.1 = ofL u := by
      have e := congrArg (fun z => z[i]?) hl
      simp only [List.getElem?_map, hpr, Option.map_some] at e
      obtain ⟨u, h1, h2⟩ := Option.map_eq_some_iff.mp e.symm
      exact ⟨u, h1, h2.symm⟩
    obtain ⟨x, t⟩ := pr
    dsimp only at hu2
    subst hu2
    have hi := (List.getElem?_eq_some_iff.mp hu1).1
    have hum := hw u (List.mem_of_getElem? hu1)
    have hxl : xs.length ≤ 503 * 50 := by
      have h1 := congrArg List.length j1
      have h2 := pieces_len (ws := ws.take i) fun u hu => (hw u (List.mem_of_mem_take hu)).1
      rw [List.length_map] at h1
      rw [List.length_take] at h2
      have : 503 * min i ws.length ≤ 503 * 50 := Nat.mul_le_mul_left _ (by omega)
      omega
    refine word_body B F1 X T (rest := xs.map PO.ent ++ own') N1 (off_app j2 hoff) (by omega) hum.2 (by omega) hd hu hE ?_
    intro ys n' wv' bv' gv' hv' h' tk' e1 e2 F2 N2
    refine ⟨(xs ++ ys, n', wv', bv', gv', hv'), h', tk', rfl, F2, fun q hq => N2 q ?_, ?_, ?_⟩
    · simp only [List.cons_append, List.mem_cons, List.map_append, List.mem_append, List.append_assoc] at hq ⊢
      rcases hq with h | h | h | h
      · left; exact h
      · right; right; left; exact h
      · right; left; exact h
      · right; right; right; exact h
    · have ex : (xs = []) = (piecesM (ws.take i) = []) := by
        rw [← j1]
        simp
      dsimp only
      rw [List.map_append, j1, e1, List.take_add_one, hu1]
      show _ = piecesM (ws.take i ++ [u])
      rw [pieces_snoc]
      congr 2
      by_cases hx : xs = []
      · rw [if_pos hx, if_pos (ex ▸ hx)]
      · rw [if_neg hx, if_neg (fun z => hx (ex.symm ▸ z))]
    · intro y hy
      rcases List.mem_append.mp hy with hy | hy
      · exact j2 y hy
      · exact e2 y hy
  · rintro ⟨xs, k, wv, bv, gv, hv⟩ h tk ⟨j1, j2⟩ F1 N1
    have e : (strValues l).length = ws.length := by simp [strValues, hll]
    rw [e, List.take_length] at j1
    exact hq xs k wv bv gv hv h tk j1 F1 N1
theorem pieces_spec {prog : Program} {w : World} {p : Program} {loose : List Str} {mean : ExcName → Option Value} {mg mb : Str → Option Value}
    {dp un : Nat} {gd : Option (List Code)} {cn : Str} {cs : Scope} {a : Addr} {ccd : Value} {cl : List (Str × Addr)} {outer : List Env} {A₀ : Around} {base h₀ : Heap} {L : Addr} {m : Str → Option Value} {s : Shared} {Q E : Value → Shared → Prop}
    (B : Below A₀ base outer h₀) (F : Fr h₀ L s.heap m) (X : (Kf w.params).In h₀) (T : Top p loose mean mg mb h₀) (hk : cs.kind = .function)
    {S : Addr} {l : List (Str × Tok)} {ws : List (List Nat)} {c0 : Nat} {own : List (Addr × Obj)}
    (N : News h₀ L s.heap own) (hS : (S, lstO (strValues l).toArray c0) ∈ own) (hl : l.map Prod.fst = ws.map ofL) (hws : ws.length ≤ 50) (hw : ∀ u ∈ ws, u.length ≤ 100 ∧ ∀ c ∈ u, c < 256)
    (hd : dp + 10 < recursionLimit) (hu : un + 150 < cLine)
    (hret : ∀ (P : Addr) (xs : List PO) (n : Nat) (h' : Heap) (tk' : Nat), xs.map (·.piece) = piecesM ws → Fr h₀ L h' m → News h₀ L h' ((P, lstO (refs xs).toArray n) :: (xs.map PO.ent ++ own)) → Q (.ref P) { s with heap := h', toks := tk' }) :
    wpAny (model prog w) (ktrTop dp un gd cn cs L a ccd cl outer) (call (.ref 821) [.ref S]) Q E s := by
  refine wpAny_call ?_
  k_dflt k_enter
  k_steps
  refine unhalt ?_
  have F8 := ‹Fr _ _ _ (fun y => if y = Str.ofString "pieces" then _ else _)›
  have F9 := frc F8 (MP_start rfl (fun y hy => look1 hy))
  have N9 := ‹News _ _ _ ((_, W.listOf #[] 0) :: _)›
  refine words_loop ‹Below (ktrTop _ _ _ _ _ _ _ _ _ _) _ _ _› F9 (by assumption) (by assumption) N9 (fun p hp b hb => by simp only [List.mem_cons, List.not_mem_nil, or_false] at hb; subst hb; exact Nat.ne_of_lt (‹∀ p ∈ own, p.1 < _› p hp)) hS hl hws hw (by ktr_room) (by ktr_units) (by first | passes_own | with_unfolding_all passes_own) ?_
  intro xs n wv bv gv hv h tk e1 F3 N3
  clear F9 F8 N9
  dsimp only
  k_steps
  all_goals exact hret _ xs n _ _ e1 (by assumption) (by assumption)
end
section
local macro_rules | `(tactic| walk_at "call ref") => `(tactic| (k_here; refine halt ?_))
local macro_rules | `(tactic| walk_at "compareOp Eq ref ref") => `(tactic| (k_here; refine halt ?_))
abbrev ML (S : Addr) (n : Nat) (eol : List Nat) (tz te : Tok) (tot : Int) (tt : Tok) (bo : Option Value) : Str → Option Value := fun y =>
  if y = Str.ofString "body" then bo else if y = Str.ofString "end" then some (.str (ofL eol) te) else if y = Str.ofString "size" then some (.int n tz) else if y = Str.ofString "total" then some (.int tot tt) else if y = Str.ofString "words" then some (.ref S) else none
noncomputable def lawT0 (l : List Stmt) : List Stmt := match l with
  | _ :: _ :: _ :: _ :: _ :: r => r
  | _ => []
@[reducible] noncomputable def lawT : List Stmt := by
  have h : lawT0 b831 = lawT0 b831 := rfl
  conv at h => rhs; whnf
  exact rhsOf h
theorem eq_strs {prog : Program} {w : World} {A : Around} {E : Value → Shared → Prop} {s : Shared} {a b : Addr} {l1 l2 : List (Str × Tok)} {Q : Value → Shared → Prop} (hl : s.heap.IsList a (strValues l1).toArray) (hb : s.heap.IsList b (strValues l2).toArray)
    (he : l1.map Prod.fst = l2.map Prod.fst) (hu : A.units < cLine) (h : Q (.bool true) s) : wpAny (model prog w) A (compareOp .Eq (.ref a) (.ref b)) Q E s := by
  have hn : l1.length = l2.length := by simpa using congrArg List.length he
  refine SeqAt.eq_listAt (e := fun _ => true) hl hb (by simp [strValues, hn]) hu (fun j h1 h2 => ?_) (by rw [show (List.range (strValues l1).toArray.size).all (fun _ => true) = true from by simp]; exact h)
  simp only [strValues, List.size_toArray, List.length_map] at h1 h2
  have e := congrArg (fun z => z[j]?) he
  simp only [List.getElem?_map, List.getElem?_eq_getElem h1, List.getElem?_eq_getElem h2, Option.map_some, Option.some.injEq] at e
  simp only [strValues, List.getElem_toArray, List.getElem_map]
  have k := SeqAt.EqAt.str_str (A := A.in1) (s := s) l1[j].1 l1[j].2 l2[j].1 l2[j].2
  rw [e, beq_self_eq_true] at k
  rw [e]
  exact k
theorem quote_ok {u : List Nat} (h : ∀ c ∈ u, c < 256 ∧ c ≠ 10 ∧ c ≠ 13) : ∀ c ∈ quoteM u, c < 256 ∧ c ≠ 10 ∧ c ≠ 13 := by
  intro c hc
  unfold quoteM at hc
  split at hc
  · simp only [List.mem_cons, List.not_mem_nil, or_false] at hc
    rcases hc with rfl | rfl <;> decide
  · split at hc
    · exact h c hc
    · simp only [List.cons_append, List.mem_cons, List.mem_append, List.mem_flatMap, List.not_mem_nil, or_false] at hc
      rcases hc with rfl | ⟨d, hd, hc⟩ | rfl
      · decide
      · split at hc
        · simp only [List.mem_cons, List.not_mem_nil, or_false] at hc
          rcases hc with rfl | rfl | rfl | rfl | rfl <;> decide
        · simp only [List.mem_cons, List.not_mem_nil, or_false] at hc
          subst hc
          exact h _ hd
      · decide
theorem join_sign : ∀ {ws : List (List Nat)}, (∀ u ∈ ws, ∀ c ∈ u, c < 256 ∧ c ≠ 10 ∧ c ≠ 13) → ∀ c ∈ joinM ws, c < 256 ∧ c ≠ 10 ∧ c ≠ 13
  | [], _, c, hc => nomatch hc
  | [u], h, c, hc => quote_ok (h u (.head _)) c hc
  | u :: v :: r, h, c, hc => by
    simp only [joinM, List.mem_append, List.mem_cons] at hc
    rcases hc with hc | rfl | hc
    · exact quote_ok (h u (.head _)) c hc
    · decide
    · exact join_sign (ws := v :: r) (fun x hx => h x (.tail _ hx)) c hc
theorem join_length : ∀ {ws : List (List Nat)}, (∀ u ∈ ws, u.length ≤ 10) → (joinM ws).length ≤ 53 * ws.length
  | [], _ => by simp [joinM]
  | [u], h => by
    have := quoteM_len u
    have := h u (.head _)
    simp only [joinM, List.length_cons, List.length_nil]
    omega
  | u :: v :: r, h => by
    have ih := join_length (ws := v :: r) fun x hx => h x (.tail _ hx)
    have := quoteM_len u
    have := h u (.head _)
    simp only [joinM, List.length_append, List.length_cons] at ih ⊢
    omega
theorem unite_length (eol : List Nat) : ∀ rs : List (List Nat), (unite eol rs).length ≤ (rs.map List.length).sum + eol.length * rs.length
  | [] => by simp [unite]
  | [u] => by simp [unite]
  | u :: v :: r => by
    have ih := unite_length eol (v :: r)
    simp only [unite, List.length_append, List.map_cons, List.sum_cons, List.length_cons] at ih ⊢
    have : eol.length * (r.length + 1 + 1) = eol.length * (r.length + 1) + eol.length := Nat.mul_succ _ _
    omega
theorem tinv_all {ps : List Piece} {n : Nat} {eol : List Nat} (hp : ∀ p ∈ ps, PieceOk p) (he : eol.length ≤ 2) : ∀ i, i ≤ ps.length → TInv ps i ((ps.take i).foldl (toldStep n eol) ⟨(lineOf ps).length, 0, [], none, false⟩)
  | 0, _ => tinv_0 ps
  | i + 1, hi => by
    have hlt : i < ps.length := hi
    have e : ps[i]? = some ps[i] := List.getElem?_eq_getElem hlt
    obtain ⟨p1, p2, p3⟩ := hp ps[i] (List.getElem_mem hlt)
    have := tinv_step (n := n) (tinv_all (n := n) hp he i (Nat.le_of_lt hlt)) e p1 p2 p3 he
    rw [List.take_add_one, e, Option.toList_some, List.foldl_append]
    exact this
theorem told_length {ps : List Piece} {n : Nat} {eol : List Nat} (hp : ∀ p ∈ ps, PieceOk p) (he : eol.length ≤ 2) : (toldM ps n eol).length ≤ 2 * ps.length + 1 := by
  have h := tinv_all (n := n) hp he ps.length (Nat.le_refl _)
  rw [List.take_length] at h
  have h4 := h.2.2.2.1
  unfold toldM toldEnd
  split
  · rw [List.length_append, List.length_singleton]
    omega
  · omega
local macro_rules | `(tactic| walk_at "zz") => `(tactic| skip)
theorem law_tail {prog : Program} {w : World} {p : Program} {loose : List Str} {mean : ExcName → Option Value} {mg mb : Str → Option Value} {h₀ : Heap} {L fa : Addr} {ccd : Value} {s : Shared} {Q : Flow → Shared → Prop} {E : Value → Shared → Prop}
    {S : Addr} {l : List (Str × Tok)} {ws : List (List Nat)} {n c : Nat} {eol : List Nat} {tz te tt : Tok} {tot : Int} {own : List (Addr × Obj)} {o4 : Obj}
    (B : Below callerA h₀ [] h₀) (F : Fr h₀ L s.heap (ML S n eol tz te tot tt none)) (X : (Kf w.params).In h₀) (T : Top p loose mean mg mb h₀)
    (N : News h₀ L s.heap ((746, recO #[]) :: (S, lstO (strValues l).toArray c) :: own)) (hown : ∀ q ∈ own, q.1 ≠ 746)
    (hl : l.map Prod.fst = ws.map ofL) (hne : ws ≠ []) (hws : ws.length ≤ 11) (hw : ∀ u ∈ ws, u.length ≤ 10 ∧ ∀ c ∈ u, c < 256 ∧ c ≠ 10 ∧ c ≠ 13)
    (h4 : h₀.get? 4 = some o4) (hc4 : o4.cls = .type "module") (hd4 : o4.dict = some builtinsNs) (hp4 : o4.data = .plain)
    (he : IsEol eol) (hn : 4 ≤ n) (hn2 : n ≤ 12)
    (hq : ∀ (s' : Shared), (∀ b o, h₀.get? b = some o → s'.heap.get? b = some o) → (∃ ps, s'.heap.get? 746 = some (recO ps)) → s'.os = s.os → (AllBare s.gens → AllBare s'.gens) → Q (.ret (.bool true)) s') :
    wpAny (model prog w) (callerA.deeper (envOfC (Str.ofString "law") c831 L fa ccd)) (execs lawT (envOfC (Str.ofString "law") c831 L fa ccd)) Q E s := by
  obtain ⟨ja, jc, hj1, hj2⟩ := join_last hne
  obtain ⟨b', d0, hlast, hd0⟩ := trans_last hj1 hj2
  have hjl := join_length fun u hu => (hw u hu).1
  have hjn : joinM ws ≠ [] := by rw [hj1]; simp
  have hjc := join_sign fun u hu => (hw u hu).2
  have he2 : eol.length ≤ 2 := by rcases he with rfl | rfl | rfl <;> decide
  have hb30 : (joinM ws).length < 30000 := by omega
  have hel : (encodeM (joinM ws) n eol).length < 1000000 := by
    have h1 := unite_length eol (rowsM n (transM (joinM ws)).length (transM (joinM ws)))
    have h2 := rows_sum n (transM (joinM ws)).length (transM (joinM ws))
    have h3 := trans_len (joinM ws)
    have h4 : eol.length * (rowsM n (transM (joinM ws)).length (transM (joinM ws))).length ≤ 2 * 2000 := Nat.mul_le_mul he2 (by omega)
    unfold encodeM
    omega
  have hpl := pieces_len (ws := ws) fun u hu => by have := (hw u hu).1; omega
  have hout : (toldM (piecesM ws) n eol).length ≤ 1000000 := by
    have := told_length (n := n) (pieces_ok2 ws) he2
    omega
  k_steps
  refine unhalt ?_
  refine join_spec (ws := ws) B F X T rfl N hl (by omega) (fun u hu => by have := (hw u hu).1; omega) h4 hc4 hd4 hp4 hown (by first | ktr_room | decide | exact Nat.le_of_ble_eq_true rfl) (by first | ktr_units | decide | exact Nat.le_of_ble_eq_true rfl) ?_
  intro t1 s2 ps2 F2 N2 g2 os2 dr2
  clear F N
  try dsimp only
  k_steps
  refine unhalt ?_
  refine enc_spec B F2 X T rfl N2 hb30 hjn hjc he hn hn2 hlast hd0 (by first | ktr_room | decide | exact Nat.le_of_ble_eq_true rfl) (by first | ktr_units | decide | exact Nat.le_of_ble_eq_true rfl) ?_
  intro t2 h3 tk3 F3 N3
  clear F2 N2
  try dsimp only
  k_steps
  refine unhalt ?_
  have F3' := ‹Fr h₀ L _ _›
  have N3' := ‹News h₀ L _ _›
  refine split_spec B F3' X T rfl N3' hel (by first | ktr_room | decide | exact Nat.le_of_ble_eq_true rfl) (by first | ktr_units | decide | exact Nat.le_of_ble_eq_true rfl) (pure_law _ ws hn he) hout ?_
  intro S1 l1 c1 h4' tk4 e1 F4 N4 lt4
  clear F3' N3'
  try dsimp only
  k_steps
  refine unhalt ?_
  refine pieces_spec B F4 X T rfl N4 (.tail _ (.tail _ (.head _))) hl (by omega) (fun u hu => ⟨by have := (hw u hu).1; omega, fun c hc => ((hw u hu).2 c hc).1⟩) (by first | ktr_room | decide | exact Nat.le_of_ble_eq_true rfl) (by first | ktr_units | decide | exact Nat.le_of_ble_eq_true rfl) ?_
  intro P xs np h5 tk5 ex F5 N5
  clear F4 N4
  try dsimp only
  k_steps
  refine unhalt ?_
  have hxl : xs.length ≤ 10000 := by
    have := congrArg List.length ex
    rw [List.length_map] at this
    omega
  refine told_spec B F5 X T rfl N5 (fun x hx => List.mem_append_left _ (List.mem_map_of_mem hx)) hxl (fun x hx => pieces_ok2 ws x.piece (ex ▸ List.mem_map_of_mem hx)) he2 (by omega) (by first | ktr_room | decide | exact Nat.le_of_ble_eq_true rfl) (by first | ktr_units | decide | exact Nat.le_of_ble_eq_true rfl) ?_
  intro W l2 c2 h6 tk6 e2 hl2 F6 N6 lt6
  rw [ex] at e2
  clear F5
  try dsimp only
  k_steps
  refine unhalt ?_
  refine eq_strs ⟨_, (N6 (S1, lstO (strValues l1).toArray c1) (.tail _ (.tail _ (List.mem_append_right _ (.head _))))).1, rfl, _, rfl⟩ ⟨_, (N6 _ (.head _)).1, rfl, _, rfl⟩ (e1.trans e2.symm) (by first | ktr_units | decide | exact Nat.le_of_ble_eq_true rfl) ?_
  k_steps
  all_goals exact hq _ F6.keep ⟨ps2, (N6 (746, recO ps2) (.tail _ (.tail _ (List.mem_append_right _ (.tail _ (.head _)))))).1⟩ os2 g2
end
section
local macro_rules | `(tactic| walk_at "call ref") => `(tactic| (k_here; refine halt ?_))
local macro_rules | `(tactic| walk_at "execs cons") => `(tactic| (k_here; (with_reducible show wpAny _ _ (execs (Stmt.Assign [PySem.Expr.Name (Str.ofString "body") _] _ _ :: _) _) _ _ _); refine halt ?_))
local macro_rules | `(tactic| walk_at "CompSrc") => `(tactic| (k_here; refine halt ?_))
theorem slice3_ints {prog : Program} {w : World} {A : Around} {E : Value → Shared → Prop} {s : Shared} {h₀ : Heap} {L l : Addr} {m : Str → Option Value} {news : List (Addr × Obj)} {value slice : PySem.Expr} {vs : List Value} {ns : List Int} {k j : Int} {u u' : Tok} {ops : List Value} {Q : Value → Shared → Prop}
    (F : Fr h₀ L s.heap m) (N : News h₀ L s.heap news) (hl : h₀.IsList l vs.toArray) (hi : IntsAre vs ns) (hj : j ≠ 0) (hz : vs.length ≤ 63)
    (h : ∀ D ws ms h', Fr h₀ L h' m → News h₀ L h' ((D, lstO (List.toArray ws) 0) :: news) → IntsAre ws ms → Q (.ref D) { s with heap := h' })
    (hs : subscripted slice false (.ref l) (.ref s.heap.objs.size) = operate ops (getItem (.ref l) (.ref s.heap.objs.size))) (ht : ∀ r, letTemporaryGo value (.ref l) r = pure ()) :
    wpAny (model prog w) A (subscriptTail value slice (.ref l) (.ref s.heap.objs.size)) Q E { s with heap := s.heap.push { cls := .type "slice", data := .fields #[.int k u, .none, .int j u'] } } := by
  refine slice_list3 F N (Heap.IsList.at hl fun o e => F.keep _ _ e) (.int _ _) .none (.int _ _) (by intro e; exact hj (Option.some.inj e)) (fun h' F' N' => h _ (slicePick vs.toArray (some k) none (some j)).toList _ h' F' ?_ (hi.pick _ _ _)) hs ht (by rw [List.size_toArray]; exact Nat.le_trans hz (by decide))
  rw [Array.toArray_toList]
  exact N'
theorem rest_const2 {prog : Program} {w : World} {A : Around} {env : Env} {s : Shared} {h₀ : Heap} {L : Addr} {m : Str → Option Value} {elt : PySem.Expr} {x : Str} {scope : Scope} {cl : List (Str × Addr)} {S : List (Addr × Obj) → Prop} {P : Nat → Value → Prop} {Fin : List Value → List (Addr × Obj) → Prop} {n : Nat} {news : List (Addr × Obj)}
    (R : Value → Prop) (hS : S news)
    (turn : ∀ i v ys I oI C oC D m₂ h tk (E' : Value → Shared → Prop), i < n → P i v → LCg.NsObj oC m₂ → m₂ x = some v → Fr h₀ L h m → News h₀ L h ((I, oI) :: (C, oC) :: (D, LCg.lst ys) :: news) → LCg.Off3 I C D news → ((@Ne Nat I C) ∧ (@Ne Nat I D) ∧ (@Ne Nat C D)) →
      wpAny (model prog w) A (eval elt (compEnvC scope cl C env)) (fun y s' => ∃ h' tk', s' = { s with heap := h', toks := tk' } ∧ Fr h₀ L h' m ∧ News h₀ L h' ((I, oI) :: (C, oC) :: (D, LCg.lst ys) :: news) ∧ R y) E' { s with heap := h, toks := tk })
    (fin : ∀ ys, ys.length = n → (∀ y ∈ ys, R y) → Fin ys news) : LCg.CompRest prog w A h₀ L m env elt x scope cl s S P Fin n 0 [] news := by
  have key : ∀ k i ys, i + k = n → ys.length = i → (∀ y ∈ ys, R y) → LCg.CompRest prog w A h₀ L m env elt x scope cl s S P Fin k i ys news := by
    intro k
    induction k with
    | zero => intro i ys hk hl hr; exact fin ys (by omega) hr
    | succ k ih =>
      intro i ys hk hl hr
      refine LCg.CompRest.succ fun v I oI C oC D m₂ h tk E' hP hC hx F N hoff hne => ?_
      refine wpAny_mono (turn i v ys I oI C oC D m₂ h tk E' (by omega) hP hC hx F N hoff hne) (fun y s' hy => ?_) fun _ _ z => z
      obtain ⟨h', tk', rfl, F', N', hR⟩ := hy
      refine ⟨h', tk', news, rfl, F', N', hoff, hS, ih (i + 1) (ys ++ [y]) (by omega) (by simp [hl]) fun z hz => ?_⟩
      rcases List.mem_append.mp hz with hz | hz
      · exact hr z hz
      · simp only [List.mem_cons, List.not_mem_nil, or_false] at hz
        subst hz
        exact hR
  exact key n 0 [] (by omega) rfl (fun y hy => nomatch hy)
local macro_rules | `(tactic| walk_at "subscriptTail Name Slice ref ref") => `(tactic| (k_here; (with_reducible show wpAny _ _ (subscriptTail _ (PySem.Expr.Slice _ _ (some _) _) (Value.ref _) (Value.ref _)) _ _ _); k_dflt (refine' slice3_ints ?F ?N ?l ?i ?j ?z ?_ ?s ?t; (case F | N => k_asm); (case l | i => assumption); (case j => decide); (case z => assumption); (case s => with_unfolding_all rfl); (case t => intro _; with_unfolding_all rfl)); intro D9 ws9 ms9 h9 F9 N9 i9))
local macro_rules | `(tactic| walk_at "call builtin:sum") => `(tactic| (k_here; k_dflt (refine' sumK ?k0 ?k1 ?k2 ?k3 ?k4 ?_; (case k0 => rfl); (case k1 | k2 => k_asm); (case k3 => first | exact ⟨_, (‹News _ _ _ _› (_, lstO (List.toArray _) 0) (.head _)).1, rfl, _, rfl⟩ | exact Heap.IsList.at (by assumption) (fun o e => Fr.keep (by assumption) _ _ e)); (case k4 => assumption)); intro h9 tk9 t9 F9 N9))
def LawPost (s₁ : Shared) (r : Result) (s' : Shared) : Prop :=
  r = .ok (.ret (.bool true)) ∧ (∀ b o, b ≠ 746 → s₁.heap.get? b = some o → s'.heap.get? b = some o) ∧ (∃ ps, s'.heap.get? 746 = some (recO ps)) ∧ s'.os = s₁.os ∧ AllBare s'.gens
theorem ML_of {S : Addr} {n : Nat} {eol : List Nat} {tz te tt : Tok} {tot v : Int} {x : Str} {f : Str → Option Value} (hx : x = ofL eol) (hv : v = (n : Int)) (hf : ∀ y, f y = none) :
    (fun y => if y = Str.ofString "end" then some (.str x te) else if y = Str.ofString "size" then some (.int v tz) else if y = Str.ofString "total" then some (.int tot tt) else if y = Str.ofString "words" then some (.ref S) else f y) = ML S n eol tz te tot tt none := by
  subst hx
  subst hv
  funext y
  by_cases e1 : y = Str.ofString "body"
  · subst e1
    simp [ML, ofs_eq, hf]
  · simp only [ML, e1, if_false, hf]
theorem law_tail2 {prog : Program} {w : World} {p : Program} {loose : List Str} {mean : ExcName → Option Value} {mg mb : Str → Option Value} {s₁ : Shared} {L fa : Addr} {ccd : Value} {s : Shared} {Q : Flow → Shared → Prop} {E : Value → Shared → Prop}
    {S : Addr} {l : List (Str × Tok)} {ws : List (List Nat)} {c : Nat} {eol : List Nat} {tz te tt : Tok} {tot : Int} {x : Str} {f : Str → Option Value} {news : List (Addr × Obj)} {o4 : Obj}
    (B : Below callerA (ghostOf s₁.heap [(750, 746)]) [] (ghostOf s₁.heap [(750, 746)]))
    (F : Fr (ghostOf s₁.heap [(750, 746)]) L s.heap (fun y => if y = Str.ofString "end" then some (.str x te) else if y = Str.ofString "size" then some (.int (4 + (tot + 3).fmod 9) tz) else if y = Str.ofString "total" then some (.int tot tt) else if y = Str.ofString "words" then some (.ref S) else f y))
    (X : (Kf w.params).In (ghostOf s₁.heap [(750, 746)])) (T : Top p loose mean mg mb (ghostOf s₁.heap [(750, 746)]))
    (N : News (ghostOf s₁.heap [(750, 746)]) L s.heap news) (m1 : (746, recO #[]) ∈ news) (m2 : (S, lstO (strValues l).toArray c) ∈ news) (hx : x = ofL eol) (hf : ∀ y, f y = none)
    (hl : l.map Prod.fst = ws.map ofL) (hne : ws ≠ []) (hws : ws.length ≤ 11) (hw : ∀ u ∈ ws, u.length ≤ 10 ∧ ∀ c ∈ u, c < 256 ∧ c ≠ 10 ∧ c ≠ 13)
    (h4 : s₁.heap.get? 4 = some o4) (hc4 : o4.cls = .type "module") (hd4 : o4.dict = some builtinsNs) (hp4 : o4.data = .plain) (he : IsEol eol) (hg : s₁.gens = #[]) (hos : s.os = s₁.os) (hgs : s.gens = s₁.gens)
    (hq : ∀ s', LawPost s₁ (.ok (.ret (.bool true))) s' → Q (.ret (.bool true)) s') :
    wpAny (model prog w) (callerA.deeper (envOfC (Str.ofString "law") c831 L fa ccd)) (execs lawT (envOfC (Str.ofString "law") c831 L fa ccd)) Q E s := by
  have b1 : 0 ≤ (tot + 3).fmod 9 := Int.fmod_nonneg_of_pos _ (by decide)
  have b2 : (tot + 3).fmod 9 < 9 := Int.fmod_lt_of_pos _ (by decide)
  have hv : 4 + (tot + 3).fmod 9 = ((4 + (tot + 3).fmod 9).toNat : Int) := by omega
  refine law_tail (own := []) (c := c) B (frc F (ML_of hx hv hf)) X T (fun q hq => ?_) (fun q hq => nomatch hq) hl hne hws hw (ghost_ne h4 (by decide)) hc4 hd4 hp4 he (by omega) (by omega) ?_
  · simp only [List.mem_cons, List.not_mem_nil, or_false] at hq
    rcases hq with rfl | rfl
    · exact N _ m1
    · exact N _ m2
  · intro s' hk hps hos' hgs'
    exact hq s' ⟨rfl, fun b o hb e => hk b o (ghost_ne e (by simpa using hb)), hps, hos'.trans hos, hgs' (.of_eq (hgs.trans hg))⟩
theorem kf_of {P : Params} {h : Heap} (X : (Kg P).In h) : (Kf P).In h := fun a o e => by
  have n1 : (Kf P).lookup 746 = none := by kernel_rfl
  have n2 : (Kf P).lookup 4 = none := by kernel_rfl
  refine X a o ?_
  show List.lookup a ((746, o746 P) :: (4, o4 P) :: Kf P) = some o
  rw [List.lookup_cons]
  by_cases h1 : a = 746
  · subst h1
    rw [n1] at e
    cases e
  · rw [beq_eq_false_iff_ne.mpr h1]
    dsimp only
    rw [List.lookup_cons]
    by_cases h2 : a = 4
    · subst h2
      rw [n2] at e
      cases e
    · rw [beq_eq_false_iff_ne.mpr h2]
      exact e
theorem law_end {P : Params} {cl : Str → Option Addr} {mean : ExcName → Option Value} {args : List WData} {s₁ s' : Shared} {r : Result} (X : (Kf P).In s₁.heap) (h746 : s₁.heap.get? 746 = some (recO #[]))
    (hn : ∀ cls, rowL.toRowW.claim.raises args cls = false) (hp : rowL.toRowW.claim.post args (.bool true) args = true) (g : LawPost s₁ r s') : GoodWG rowL.toRowW.claim cl mean args s₁ r s' := by
  obtain ⟨rfl, hk, ⟨ps, hps⟩, hos, hg⟩ := g
  have t : ∀ {h : Heap} {ps : Array Value}, (∀ b o, b ≠ 746 → s₁.heap.get? b = some o → h.get? b = some o) → h.get? 746 = some (recO ps) → h.TableAt 750 746 ps := fun hk hps =>
    ⟨⟨_, _, hk _ _ (by decide) (X 750 _ rfl), rfl, rfl, rfl⟩, hps⟩
  refine ⟨.inl ⟨_, _, [], rfl, hn, .bool true, hp, unshared_nil⟩, ?_, hos, hg⟩
  refine OldK.step_table (OldK.refl _) (c₀ := 750) (c := 750) (P := 746) (ps₀ := #[]) (ps := #[]) (more := ps) (t (fun _ _ _ e => e) h746) (t (fun _ _ _ e => e) h746) (t hk (by simpa using hps)) (fun b o hb e => hk b o hb e) (by decide)
theorem lawCall : WalkO q loose (XL q []) hook.says rowL.toRowW dL [] fun f vs => PySem.call f vs := by
  intro w s₀ s₁ mg mb G Y fa o pm cd doc dV kV ho hd hcd hD hmg hg args vals as hpre hlay hrd hwl hlo
  have KX : (Kg w.params).In s₁.heap := kIn_of Y
  have XF := kf_of KX
  have h746 : s₁.heap.get? 746 = some (recO #[]) := KX _ _ rfl
  refine Ground.open G ?_
  intro T B D TE TW
  obtain ⟨_, _, M⟩ := bmod_of_top T
  have TA := at_of_top T
  try (obtain ⟨_, _, he, B0⟩ := based_of_top T rfl hmg ho hd; have he' : cd = _ := he; subst he'; clear he)
  clear hmg
  wrow_args hpre hlay hrd hwl hlo
  all_goals
    refine enter_call ?_
    w_top on
    refine codeAny_mono (R := LawPost s₁) ?_ (fun r s' g => law_end XF h746 (fun _ => rfl) (by first | rfl | decide +kernel | with_unfolding_all rfl) g)
  have hT9 : TabsAt [(750, 746)] s₁.heap := fun q hq => by
    simp only [List.mem_cons, List.not_mem_nil, or_false] at hq
    subst hq
    exact ⟨CodeHd.of (code750 XF h746 trivial).1 (code750 XF h746 trivial).2, h746⟩
  have X := XF
  have h4 : s₁.heap.get? 4 = some (o4 w.params) := KX _ _ rfl
  clear KX XF
  w_call any ho hd hcd hD T F
  clear hd TA G Y B TE TW M B0 D
  kn_ghosts F T
  rename IntsAre _ _ => hI
  rename List Value => vsL
  rename List Int => nsL
  have hz : vsL.length ≤ 63 := by
    have := IntsAre.length hI
    omega
  k_steps
  refine unhalt ?_
  refine LCg.CompSrc.range (n := 10) rfl (by k_asm) (by k_asm) (by assumption) (by first | decide | rfl) (by first | rfl | decide) (by decide) (fun g9 => ?_)
  refine rest_const2 (fun y => ∃ n t, y = .int n t) trivial ?_ ?_
  · intro i v ys I oI C oC D m₂ h tk E' hi hv hC hm F1 N1 off ne
    obtain ⟨t, rfl⟩ := hv
    have b1 : (0 : Int) ≤ 0 + (i : Int) := by omega
    have b2 : 0 + (i : Int) < 10 := by omega
    k_steps
    all_goals first
      | assumption
      | exact ⟨_, _, rfl⟩
      | exact nTail (by assumption)
  · intro ys hl hr D2 h2 tk2 F2 N2 off2
    k_steps
    refine unhalt ?_
    refine words_spec ‹Below callerA _ [] _› (by k_asm) (by k_asm) (by k_asm) rfl N2 hr (by omega) (by first | ktr_room | decide | exact Nat.le_of_ble_eq_true rfl) (by first | ktr_units | decide | exact Nat.le_of_ble_eq_true rfl) ?_
    intro S l c ws h3 tk3 F3 N3 lS e1 e2 e3 e4
    clear F2 N2
    dsimp only
    k_steps
    all_goals
      refine unhalt ?_
      refine law_tail2 ‹Below callerA _ [] _› ‹Fr _ _ _ (fun y => if y = Str.ofString "end" then _ else _)› (by k_asm) (by k_asm) ‹News _ _ _ ((_, W.listOf #[.str _ _, .str _ _, .str _ _] 0) :: _)› ?_ (.tail _ (.head _)) (by first | exact (show Str.ofString "\n" = ofL [10] from by decide +kernel) | exact (show Str.ofString "\x0d\n" = ofL [13, 10] from by decide +kernel) | exact (show Str.ofString "\x0d" = ofL [13] from by decide +kernel))
        (fun y => by with_unfolding_all rfl) e1 e2 (by omega) (fun u hu => ⟨by have := (e4 u hu).1; omega, (e4 u hu).2⟩) h4 rfl rfl rfl ?_ hg rfl rfl (fun s' h => h)
      · exact .tail _ (.tail _ (.tail _ (.tail _ (.tail _ (.tail _ (.head _))))))
      · first | exact .inl rfl | exact .inr (.inl rfl) | exact .inr (.inr rfl)
end
end
end
end
end
end
end
end Mine
open PySem PySem.W PyProof.Rows
theorem PySem.Challenge.cw_oy0415_01_holds : PySem.Challenge.rw_oy0415_01.Holds :=
  Mine.head Mine.lawCall
