/- The text of FnHeading: its line, and what newATXHeading makes of it. Pure. -/
import Derived.Test.YtbfmmikllelfeaaGreatDoorI0
import Derived.Test.YtbfmmikllelfeaaGreatDoorN3
import Derived.Test.YtbfmmikllelfeaaGreatDoorG2
import Derived.Test.YtbfmmikllelfeaaGreatDoorN8
import Derived.Test.YtbfmmikllelfeaaGreatDoorSl
namespace Go.Proofs.YtbfmmikllelfeaaGreatDoor
open Go.RowKit

def strip35 (l : List UInt8) : List UInt8 := (l.reverse.dropWhile (· == 35)).reverse

/-- The text of a heading, of what stands behind its marks. -/
def atxText (s : List UInt8) : List UInt8 :=
  if strip35 (B.trimR s) ≠ B.trimR (strip35 (B.trimR s)) ∨ strip35 (B.trimR s) = [] then strip35 (B.trimR s) else B.trimR s

def tailM (m : Nat) : List UInt8 := if m = 0 then [] else 32 :: List.replicate m 35

def headTxt (n m : Nat) (s : List UInt8) : List UInt8 := List.replicate n 35 ++ 32 :: (slashed s ++ tailM m)

theorem dropWhile_rep (p : UInt8 → Bool) (c : UInt8) (hp : p c = true) : ∀ (n : Nat) (r : List UInt8), (List.replicate n c ++ r).dropWhile p = r.dropWhile p
  | 0, _ => rfl
  | n + 1, r => by
    rw [List.replicate_succ, List.cons_append, List.dropWhile_cons_of_pos hp]
    exact dropWhile_rep p c hp n r

theorem trimR_keep {l : List UInt8} {c : UInt8} (h : B.isST c = false) : B.trimR (l ++ [c]) = l ++ [c] := by
  unfold B.trimR
  rw [List.reverse_append, List.reverse_singleton, List.singleton_append, List.dropWhile_cons_of_neg (by simp [h])]
  simp

theorem trimR_space (l : List UInt8) : B.trimR (l ++ [32]) = B.trimR l := by
  unfold B.trimR
  rw [List.reverse_append, List.reverse_singleton, List.singleton_append, List.dropWhile_cons_of_pos (by decide)]

theorem trimR_last {l : List UInt8} {c : UInt8} (hl : l.getLast? = some c) (h : B.isST c = false) : B.trimR l = l := by
  have hne : l ≠ [] := by rintro rfl; cases hl
  obtain ⟨a, b, rfl⟩ : ∃ a b, l = a ++ [b] := ⟨l.dropLast, l.getLast hne, (List.dropLast_concat_getLast hne).symm⟩
  have : b = c := by simpa using hl
  subst this
  exact trimR_keep h

theorem strip35_keep {l : List UInt8} {c : UInt8} (h : c ≠ 35) : strip35 (l ++ [c]) = l ++ [c] := by
  unfold strip35
  rw [List.reverse_append, List.reverse_singleton, List.singleton_append, List.dropWhile_cons_of_neg (by simp [h])]
  simp

theorem strip35_rep (l : List UInt8) (m : Nat) : strip35 (l ++ List.replicate m 35) = strip35 l := by
  unfold strip35
  rw [List.reverse_append, List.reverse_replicate, dropWhile_rep _ _ (by decide)]

/-- What a text must be: neither empty, nor a space at its ends; printable. -/
structure Full (s : List UInt8) : Prop where
  ne : s ≠ []
  head : s.head? ≠ some 32
  last : s.getLast? ≠ some 32
  all : ∀ c ∈ s, 32 ≤ c ∧ c ≤ 126

theorem Full.lastC {s : List UInt8} (h : Full s) : ∃ a c, s = a ++ [c] ∧ B.isST c = false ∧ c ≠ 0 := by
  refine ⟨s.dropLast, s.getLast h.ne, (List.dropLast_concat_getLast h.ne).symm, ?_⟩
  have h1 := h.all _ (List.getLast_mem h.ne)
  have h2 := h.last
  rw [List.getLast?_eq_some_getLast h.ne] at h2
  generalize s.getLast h.ne = c at *
  have a1 : 32 ≤ c.toNat := h1.1
  refine ⟨?_, ?_⟩
  · unfold B.isST
    simp only [Bool.or_eq_false_iff, beq_eq_false_iff_ne, ne_eq]
    refine ⟨fun e => h2 (by rw [e]), ?_⟩
    rintro rfl
    simp at a1
  · rintro rfl
    simp at a1

theorem isST_92 : B.isST 92 = false := by decide

theorem Full.slashR {s : List UInt8} (h : Full s) : B.trimR (slashed s) = slashed s := by
  obtain ⟨a, c, rfl, hc, _⟩ := h.lastC
  exact trimR_last (slashed_last (by simp)) hc

theorem Full.atx {s : List UInt8} (h : Full s) (m : Nat) : atxText (slashed s ++ tailM m) = if m = 0 then slashed s else slashed s ++ [32] := by
  by_cases hm : m = 0
  · subst hm
    rw [if_pos rfl]
    unfold tailM
    rw [if_pos rfl, List.append_nil]
    unfold atxText
    rw [h.slashR]
    obtain ⟨a, c, hac, hc, _⟩ := h.lastC
    have key : ∃ b d, strip35 (slashed s) = b ++ [d] ∧ B.isST d = false := by
      rw [hac, slashed_append, slashed_one]
      by_cases h35 : c = 35
      · subst h35
        refine ⟨slashed a, 92, ?_, by decide⟩
        rw [show (if isP 35 then [92, 35] else [35] : List UInt8) = [92] ++ List.replicate 1 35 from rfl, ← List.append_assoc, strip35_rep, strip35_keep (by decide)]
      · split
        · refine ⟨slashed a ++ [92], c, ?_, hc⟩
          rw [show ([92, c] : List UInt8) = [92] ++ [c] from rfl, ← List.append_assoc, strip35_keep h35, List.append_assoc]
        · refine ⟨slashed a, c, ?_, hc⟩
          rw [strip35_keep h35]
    obtain ⟨b, d, e, hd⟩ := key
    rw [e, trimR_keep hd, if_neg (by simp)]
  · rw [if_neg hm]
    unfold tailM
    rw [if_neg hm]
    obtain ⟨k, rfl⟩ : ∃ k, m = k + 1 := ⟨m - 1, by omega⟩
    have e1 : slashed s ++ 32 :: List.replicate (k + 1) 35 = (slashed s ++ 32 :: List.replicate k 35) ++ [35] := by
      rw [List.replicate_succ']; simp
    have e2 : B.trimR (slashed s ++ 32 :: List.replicate (k + 1) 35) = slashed s ++ 32 :: List.replicate (k + 1) 35 := by
      rw [e1, trimR_keep (by decide)]
    have e3 : strip35 (slashed s ++ 32 :: List.replicate (k + 1) 35) = slashed s ++ [32] := by
      rw [show slashed s ++ 32 :: List.replicate (k + 1) 35 = (slashed s ++ [32]) ++ List.replicate (k + 1) 35 from by simp, strip35_rep, strip35_keep (by decide)]
    unfold atxText
    rw [e2, e3, trimR_space, h.slashR, if_pos (.inl (by intro e; simpa using congrArg List.length e))]

theorem Full.slashL {s : List UInt8} (h : Full s) (r : List UInt8) : B.trimL (slashed s ++ r) = slashed s ++ r := by
  cases s with
  | nil => exact absurd rfl h.ne
  | cons a t =>
    have h1 := h.all a (by simp)
    have h2 := h.head
    have a1 : 32 ≤ a.toNat := h1.1
    have hst : B.isST a = false := by
      unfold B.isST
      simp only [Bool.or_eq_false_iff, beq_eq_false_iff_ne, ne_eq]
      refine ⟨fun e => h2 (by rw [e]; rfl), ?_⟩
      rintro rfl
      simp at a1
    unfold slashed
    unfold B.trimL
    split
    · rw [List.cons_append, List.cons_append, List.dropWhile_cons_of_neg (by decide)]
    · rw [List.cons_append, List.cons_append, List.dropWhile_cons_of_neg (by simp [hst])]

/-- The text of the heading, without spaces at its ends. -/
theorem Full.trim {s : List UInt8} (h : Full s) (m : Nat) : B.trimR (B.trimL (atxText (slashed s ++ tailM m))) = slashed s := by
  rw [h.atx m]
  split
  · have := h.slashL []
    rw [List.append_nil] at this
    rw [this, h.slashR]
  · rw [h.slashL, trimR_space, h.slashR]

theorem Ln.hashes_run : ∀ (j k n : Nat) (t : Ln) (r : List UInt8), t.spaces = 0 → t.rest = List.replicate j 35 ++ r → r.head? ≠ some 35 → j ≤ k → Ln.hashes k n t = (n + j, { t with i := t.i + j })
  | 0, 0, n, t, r, _, _, _, _ => rfl
  | 0, k + 1, n, t, r, hs, hr, hh, _ => by
    have : t.trim 35 = none := Ln.trim_none hs (by rw [Ln.ch_rest, hr]; simpa using hh)
    simp only [Ln.hashes, this]
    rfl
  | j + 1, 0, n, t, r, _, _, _, hjk => by omega
  | j + 1, k + 1, n, t, r, hs, hr, hh, hjk => by
    have hc : t.ch = some 35 := by rw [Ln.ch_rest, hr]; rfl
    have h1 : t.trim 35 = some { t with i := t.i + 1 } := by
      unfold Ln.trim
      rw [if_neg (by omega), if_pos hc]
    have hr2 : ({ t with i := t.i + 1 } : Ln).rest = List.replicate j 35 ++ r := Ln.rest_next (x := t) (c := 35) (by rw [hr]; rfl) t.spaces t.tab
    have ih := hashes_run j k (n + 1) { t with i := t.i + 1 } r hs hr2 hh (by omega)
    simp only [Ln.hashes, h1, ih]
    congr 1
    · omega
    · congr 1; show t.i + 1 + j = t.i + (j + 1); omega

theorem Ln.indent_at {x : Ln} {c : UInt8} {r : List UInt8} (hs : x.spaces = 0) (hr : x.rest = c :: r) (h1 : c ≠ 32) (h2 : c ≠ 9) : x.indent = x := by
  have := Ln.indent_spaces (x := x) (k := 0) (r := c :: r) hs hr (by simpa using h1) (by simpa using h2) (by decide)
  simpa using this

/-- The line is a heading. -/
theorem head_line {n : Nat} (hn : 1 ≤ n) (hn6 : n ≤ 6) (r : List UInt8) (nl : UInt8) (hz : r.length ≤ 1000000000) :
    ∃ v, (LineOf (List.replicate n 35 ++ 32 :: r, nl)).heading = some (n, v) ∧ v.str = r ∧ (LineOf (List.replicate n 35 ++ 32 :: r, nl)).quote = none ∧ (LineOf (List.replicate n 35 ++ 32 :: r, nl)).blank = false ∧ (LineOf (List.replicate n 35 ++ 32 :: r, nl)).OK := by
  obtain ⟨k, rfl⟩ : ∃ k, n = k + 1 := ⟨n - 1, by omega⟩
  generalize hL : LineOf (List.replicate (k + 1) 35 ++ 32 :: r, nl) = L
  have hok : L.OK := by rw [← hL]; exact lineOf_ok _ _ (by simp; omega)
  have hs : L.spaces = 0 := by rw [← hL]; rfl
  have hr : L.rest = 35 :: (List.replicate k 35 ++ 32 :: r) := by rw [← hL, lineOf_rest]; rfl
  have hin : L.indent = L := Ln.indent_at hs hr (by decide) (by decide)
  have hc : L.ch = some 35 := by rw [Ln.ch_rest, hr]; rfl
  have h1 : L.trim 35 = some { L with i := L.i + 1 } := by
    unfold Ln.trim
    rw [if_neg (by omega), if_pos hc]
  have hr2 : ({ L with i := L.i + 1 } : Ln).rest = List.replicate k 35 ++ 32 :: r := Ln.rest_next hr L.spaces L.tab
  have h2 := Ln.hashes_run k 5 1 { L with i := L.i + 1 } (32 :: r) hs hr2 (by simp) (by omega)
  have hr3 : ({ L with i := L.i + 1 + k } : Ln).rest = 32 :: r := Ln.rest_at hr2 L.spaces L.tab k (by simp)
  have h3 : ({ L with i := L.i + 1 + k } : Ln).trimSpace 1 1 true = some { L with i := L.i + 1 + k + 1 } := by
    unfold Ln.trimSpace Ln.trimGo
    rw [Ln.step_space (x := { L with i := L.i + 1 + k }) true hs hr3]
    rfl
  refine ⟨{ L with i := L.i + 1 + k + 1 }, ?_, ?_, ?_, ?_, hok⟩
  · unfold Ln.heading
    rw [hin, h1]
    simp only [h2, h3, Option.map_some]
    rw [Nat.add_comm 1 k]
  · unfold Ln.str
    have e1 : ({ L with i := L.i + 1 + k + 1 } : Ln).rest = r := Ln.rest_next hr3 L.spaces L.tab
    rw [e1, show ({ L with i := L.i + 1 + k + 1 } : Ln).spaces = 0 from hs]
    rfl
  · unfold Ln.quote
    rw [hin, Ln.trim_none hs (by rw [hc]; decide)]
    rfl
  · unfold Ln.blank
    rw [hr]; rfl

end Go.Proofs.YtbfmmikllelfeaaGreatDoor

/- The texts of a document and their inlines, as they lie in memory. -/
namespace Go.Proofs.YtbfmmikllelfeaaGreatDoor
open Go.RowKit Sl

/-- A value that is a token's object. -/
def IsTok (v : Value) : Prop := ∃ (T : TypeId) (d : Nat), (T = 218 ∨ T = 234 ∨ T = 239 ∨ T = 118 ∨ T = 216 ∨ T = 237 ∨ T = 252) ∧ v = .iface T (.pointer (some ⟨d, 0, none⟩))

/-- An inline's object that is no plain text and no mark. -/
def IsObj (v : Value) : Prop := ∃ (T : TypeId) (d : Nat), (T = 234 ∨ T = 239 ∨ T = 118 ∨ T = 216 ∨ T = 237 ∨ T = 252) ∧ v = .iface T (.pointer (some ⟨d, 0, none⟩))

theorem IsObj.tok {v : Value} (h : IsObj v) : IsTok v := by
  obtain ⟨T, d, hT, rfl⟩ := h
  exact ⟨T, d, .inr hT, rfl⟩

/-- A token's object. -/
def TokAt (v : Value) : Tok → HP
  | .plain s => Sl.ex fun d : Nat => Sl.pur (v = .iface 218 (.pointer (some ⟨d, 0, none⟩))) * row d 210 [.string (B.bs s)]
  | .esc s => Sl.ex fun d : Nat => Sl.pur (v = .iface 234 (.pointer (some ⟨d, 0, none⟩))) * row d 236 [.string (B.bs s)]
  | .code s => Sl.ex fun d : Nat => Sl.pur (v = .iface 239 (.pointer (some ⟨d, 0, none⟩))) * row d 240 [.string (B.bs s)]
  | .link u t => Sl.ex fun x : Nat × Nat × Nat => Sl.pur (v = .iface 118 (.pointer (some ⟨x.1, 0, none⟩))) * (row x.1 121 [.slice (some ⟨x.2.1, 0, none⟩) 1 1, .string (B.bs u), .string ⟨#[]⟩, .int .u8 0, .bool false] * (row x.2.1 188 [.iface 218 (.pointer (some ⟨x.2.2, 0, none⟩))] * row x.2.2 210 [.string (B.bs t)]))
  | .obj h _ => Sl.pur (IsObj v) * h v

def ToksAt : List Value → List Tok → HP
  | v :: vs, t :: ts => TokAt v t * ToksAt vs ts
  | [], [] => emp
  | _, _ => Sl.pur False

theorem toksAt_nil : ToksAt [] [] = emp := rfl
theorem toksAt_cons (v : Value) (vs : List Value) (t : Tok) (ts : List Tok) : ToksAt (v :: vs) (t :: ts) = TokAt v t * ToksAt vs ts := rfl

theorem toksAt_append : ∀ (a : List Value) (b : List Value) (x y : List Tok), a.length = x.length → ToksAt (a ++ b) (x ++ y) = ToksAt a x * ToksAt b y
  | [], b, [], y, _ => (emp_star _).symm
  | v :: a, b, t :: x, y, h => by
    rw [List.cons_append, List.cons_append, toksAt_cons, toksAt_cons, toksAt_append a b x y (by simpa using h), star_assoc]
  | [], _, _ :: _, _, h => by simp at h
  | _ :: _, _, [], _, h => by simp at h

theorem toksAt_single (v : Value) (t : Tok) : ToksAt [v] [t] = TokAt v t := by rw [toksAt_cons, toksAt_nil, star_emp]

theorem toksAt_len {w : World} : ∀ {vs : List Value} {ts : List Tok} {F : HP}, Sat w (ToksAt vs ts * F) → vs.length = ts.length
  | [], [], _, _ => rfl
  | v :: vs, t :: ts, F, h => by
    have h2 : Sat w (ToksAt vs ts * (TokAt v t * F)) := h.cast (by rw [toksAt_cons]; ac_rfl)
    simp [toksAt_len h2]
  | [], _ :: _, _, h => (h.pur).1.elim
  | _ :: _, [], _, h => (h.pur).1.elim

/-- A slice of inlines that are these tokens. -/
def InlsAt (sv : SV) (ts : List Tok) : HP := Sl.ex fun vs : List Value => Sl.pur (sv.len = vs.length) * (arr 188 1 sv.v sv.len vs * ToksAt vs ts)

theorem inlsAt_iff {w : World} {sv : SV} {ts : List Tok} {F : HP} : Sat w (InlsAt sv ts * F) ↔ ∃ vs : List Value, sv.len = vs.length ∧ Sat w (arr 188 1 sv.v sv.len vs * (ToksAt vs ts * F)) := by
  constructor
  · intro h
    obtain ⟨x, h⟩ := h.ex
    obtain ⟨h1, h2⟩ := (h.cast (star_assoc _ _ _)).pur
    exact ⟨x, h1, h2.cast (by ac_rfl)⟩
  · rintro ⟨x, h1, h2⟩
    refine Sat.ex_mk x ?_
    rw [star_assoc, pur_star h1]
    exact h2.cast (by ac_rfl)

/-- A text: its block, its lines, what it is written as, and the tokens it is read as. -/
structure TX where
  tb : Nat
  st : Int
  en : Int
  raw : List UInt8
  toks : List Tok

def TX.ptr (t : TX) : Value := .pointer (some ⟨t.tb, 0, none⟩)
/-- Not yet read. -/
def TX.fresh (t : TX) : HP := row t.tb 144 [.int .i64 t.st, .int .i64 t.en, .slice none 0 0, .string (B.bs t.raw)]
def TX.read (t : TX) : HP := Sl.ex fun sv : SV => row t.tb 144 [.int .i64 t.st, .int .i64 t.en, sv.v, .string (B.bs t.raw)] * InlsAt sv t.toks

/-- The texts, the first i of which have been read. -/
def TxsAt : Nat → List TX → HP
  | _, [] => emp
  | 0, t :: r => t.fresh * TxsAt 0 r
  | i + 1, t :: r => t.read * TxsAt i r

theorem txsAt_at : ∀ (i : Nat) (ts : List TX) (t : TX), ts[i]? = some t → ∃ G, TxsAt i ts = t.fresh * G ∧ TxsAt (i + 1) ts = t.read * G
  | 0, a :: r, t, h => by
    obtain rfl : a = t := by simpa using h
    exact ⟨TxsAt 0 r, rfl, rfl⟩
  | i + 1, a :: r, t, h => by
    obtain ⟨G, h1, h2⟩ := txsAt_at i r t (by simpa using h)
    refine ⟨a.read * G, ?_, ?_⟩
    · show a.read * TxsAt i r = _
      rw [h1]; ac_rfl
    · show a.read * TxsAt (i + 1) r = _
      rw [h2]; ac_rfl
  | _, [], t, h => by simp at h

theorem txsAt_read : ∀ (i : Nat) (ts : List TX), ts.length ≤ i → TxsAt i ts = TxsAt ts.length ts
  | _, [], _ => by
    unfold TxsAt; rfl
  | 0, _ :: _, h => by simp at h
  | i + 1, t :: r, h => by
    show t.read * TxsAt i r = t.read * TxsAt r.length r
    rw [txsAt_read i r (by simpa using h)]

theorem txsAt_one (i : Nat) (ts : List TX) (t : TX) (h : ts[i]? = some t) : ∃ G, TxsAt ts.length ts = t.read * G := by
  induction ts generalizing i with
  | nil => simp at h
  | cons a r ih =>
    cases i with
    | zero =>
      obtain rfl : a = t := by simpa using h
      exact ⟨TxsAt r.length r, rfl⟩
    | succ i =>
      obtain ⟨G, hG⟩ := ih i (by simpa using h)
      exact ⟨a.read * G, by show a.read * TxsAt r.length r = _; rw [hG]; ac_rfl⟩

end Go.Proofs.YtbfmmikllelfeaaGreatDoor

/- A new text; a heading begun by marks. -/
namespace Go.Proofs.YtbfmmikllelfeaaGreatDoor
open Go.RowKit Sl

theorem info_pText : (Tryz.prog.info? 139).map (fun i => (i.zero, i.size, i.bytes)) = some (some (.pointer none), 1, 8) := by kernel_rfl

set_option maxRecDepth 100000 in
set_option maxHeartbeats 1000000 in
theorem newText_w (p : Nat) (st en : Int) (raw : ByteArray) (x : PSt) (items : List Value) (F : HP) (w : World) (hn : x.texts.len ≤ 1000000000)
    (hs : Sat w (row p 173 x.cells * (arr 139 1 x.texts.v x.texts.len items * F))) :
    Calls Tryz.prog 196 #[.pointer (some ⟨p, 0, none⟩), .agg #[.int .i64 st, .int .i64 en], .string raw] w fun e w' => ∃ (tb : Nat) (tx : SV), e = .returned (.pointer (some ⟨tb, 0, none⟩)) ∧ tx.len = x.texts.len + 1 ∧
      Sat w' (row p 173 { x with texts := tx }.cells * (arr 139 1 tx.v tx.len (items ++ [.pointer (some ⟨tb, 0, none⟩)]) * (row tb 144 [.int .i64 st, .int .i64 en, .slice none 0 0, .string raw] * F))) := by
  obtain ⟨i0, hi, hz0, hz1, hz2⟩ := info_parts info_pText
  have h1 := hs.new (d := w.heap.size) [.int .i64 st, .int .i64 en] 111 rfl
  have h2 := h1.new (d := w.heap.size + 1) [.int .i64 st, .int .i64 en, .slice none 0 0, .string raw] 144 (by simp)
  have h3 := h2.new (d := w.heap.size + 2) [.pointer (some ⟨w.heap.size + 1, 0, none⟩)] 139 (by simp)
  have hsC := h3.cast (show _ = arr 139 1 x.texts.v x.texts.len items * (row (w.heap.size + 2) 139 [.pointer (some ⟨w.heap.size + 1, 0, none⟩)] * (row p 173 x.cells * (row (w.heap.size + 1) 144 [.int .i64 st, .int .i64 en, .slice none 0 0, .string raw] * (row w.heap.size 111 [.int .i64 st, .int .i64 en] * F)))) from by ac_rfl)
  obtain ⟨f0, f1, f2, f3, f4, f5, f6, f7, f8, f9, f10, f11, fz, hlp⟩ := PSt.facts hs
  clear f0 f1 f2 f3 f4 f5 f6 f7 f8 f9 f10 h1 h2 h3 hs
  have HC := Lib.hid hsC
  clear hsC
  go_enter Tryz.func196, Tryz.ntmps196
  go_wp2_with (at_builtin; refine wpList_append_sl rfl (.tmp 16) (.tmp 18) 158 rfl 139 i0 (.pointer none) 1 8 Tryz.underlying158 hi hz0 hz1 hz2 rfl x.texts.v x.texts.len items rfl HC.out ⟨w.heap.size + 2, 0, none⟩ 1 1 [.pointer (some ⟨w.heap.size + 1, 0, none⟩)] rfl rfl (news_one (HC.out.swap.cell 0 rfl)) (by intro u hu; simp at hu; rcases hu with rfl; rfl) (by unfold maxLen; omega) (by omega) (by decide) ?_)
  intro g2 cap2 w1 hs1 hz1
  clear hz1
  have k11 : w1.cell? ⟨p, 11, none⟩ = some (.slice x.texts.a x.texts.len x.texts.cap) := hs1.third.cell 11 rfl
  have kf := fun i => hs1.third.frozen i
  have s2 := hs1.third.set 11 (.slice (some ⟨g2, 0, none⟩) (x.texts.len + 1) cap2)
  have S2 := Lib.hid s2
  clear hs1 s2
  go_wp2
  go_ret
  refine ⟨w.heap.size + 1, ⟨some ⟨g2, 0, none⟩, x.texts.len + 1, cap2⟩, rfl, rfl, ?_⟩
  have s3 := S2.out.cast (show _ = row w.heap.size 111 [.int .i64 st, .int .i64 en] * (row (w.heap.size + 2) 139 [.pointer (some ⟨w.heap.size + 1, 0, none⟩)] * (row p 173 { x with texts := ⟨some ⟨g2, 0, none⟩, x.texts.len + 1, cap2⟩ }.cells * (arr 139 1 (.slice (some ⟨g2, 0, none⟩) (x.texts.len + 1) cap2) (x.texts.len + 1) (items ++ [.pointer (some ⟨w.heap.size + 1, 0, none⟩)]) * (row (w.heap.size + 1) 144 [.int .i64 st, .int .i64 en, .slice none 0 0, .string raw] * F)))) from by
    rw [show x.cells.set 11 (.slice (some ⟨g2, 0, none⟩) (x.texts.len + 1) cap2) = ({ x with texts := ⟨some ⟨g2, 0, none⟩, x.texts.len + 1, cap2⟩ } : PSt).cells from rfl]
    ac_rfl)
  exact s3.drop1.drop1

/-- A new text, in the words of the general state. -/
theorem newText_d (pb p : Nat) (oc : List Value) (v : DV) (st en : Int) (raw : List UInt8) (F : HP) (w : World) (hn : v.ptrs.length < 1000000000) (hs : Sat w (Dsp pb oc v p * F)) :
    Calls Tryz.prog 196 #[.pointer (some ⟨p, 0, none⟩), .agg #[.int .i64 st, .int .i64 en], .string (B.bs raw)] w fun e w' => ∃ tb : Nat, e = .returned (.pointer (some ⟨tb, 0, none⟩)) ∧
      Sat w' (Dsp pb oc { v with ptrs := v.ptrs ++ [.pointer (some ⟨tb, 0, none⟩)] } p * (row tb 144 [.int .i64 st, .int .i64 en, .slice none 0 0, .string (B.bs raw)] * F)) := by
  obtain ⟨h, ⟨hf1, hf2, hf3, hf4⟩, h1⟩ := dsp_iff.1 hs
  have h2 := h1.cast (show _ = row p 173 (v.ps pb h).cells * (arr 139 1 h.tx.v h.tx.len v.ptrs * (arr 197 4 (.slice (some ⟨h.g, 0, none⟩) v.obs.length h.cap) v.obs.length (obCells v.obs) * (obOwn v.obs * (row pb 105 oc * F)))) from by ac_rfl)
  refine (newText_w p st en (B.bs raw) (v.ps pb h) v.ptrs _ w (by show h.tx.len ≤ _; omega) h2).mono ?_
  rintro e w' ⟨tb, tx, rfl, htx, h5⟩
  refine ⟨tb, rfl, dsp_iff.2 ⟨⟨h.g, h.cap, h.corner, tx⟩, ⟨?_, ?_, hf3, hf4⟩, ?_⟩⟩
  · show tx.len = (v.ptrs ++ [_]).length
    rw [htx, List.length_append]
    show h.tx.len + 1 = _
    rw [hf1]; rfl
  · show (v.ptrs ++ [_]).length ≤ _
    rw [List.length_append]
    show v.ptrs.length + 1 ≤ _
    omega
  · exact h5.cast (by
      show row p 173 (DV.ps { v with ptrs := v.ptrs ++ [.pointer (some ⟨tb, 0, none⟩)] } pb ⟨h.g, h.cap, h.corner, tx⟩).cells * _ = _
      ac_rfl)

end Go.Proofs.YtbfmmikllelfeaaGreatDoor
