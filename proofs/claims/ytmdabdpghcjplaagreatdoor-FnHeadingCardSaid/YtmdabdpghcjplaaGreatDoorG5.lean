/- The texts of a document and their inlines, as they lie in memory. -/
import Derived.Test.YtmdabdpghcjplaaGreatDoorG4
import Derived.Test.YtmdabdpghcjplaaGreatDoorI0
namespace Go.Proofs.YtmdabdpghcjplaaGreatDoor
open Go.RowKit Sl

/-- A token's object. -/
def TokAt (v : Value) : Tok → HP
  | .plain s => Sl.ex fun d : Nat => Sl.pur (v = .iface 157 (.pointer (some ⟨d, 0, none⟩))) * row d 138 [.string (B.bs s)]
  | .esc s => Sl.ex fun d : Nat => Sl.pur (v = .iface 177 (.pointer (some ⟨d, 0, none⟩))) * row d 179 [.string (B.bs s)]
  | .code s => Sl.ex fun d : Nat => Sl.pur (v = .iface 183 (.pointer (some ⟨d, 0, none⟩))) * row d 184 [.string (B.bs s)]

def ToksAt : List Value → List Tok → HP
  | v :: vs, t :: ts => TokAt v t * ToksAt vs ts
  | [], [] => emp
  | _, _ => Sl.pur False

theorem toksAt_nil : ToksAt [] [] = emp := rfl
theorem toksAt_cons (v : Value) (vs : List Value) (t : Tok) (ts : List Tok) : ToksAt (v :: vs) (t :: ts) = TokAt v t * ToksAt vs ts := rfl

theorem toksAt_append : ∀ (a : List Value) (b : List Value) (x y : List Tok), a.length = x.length → ToksAt (a ++ b) (x ++ y) = ToksAt a x * ToksAt b y
  | [], b, [], y, _ => (emp_star _).symm
  | v :: a, b, t :: x, y, h => by
    rw [List.cons_append, List.cons_append, toksAt_cons, toksAt_cons, toksAt_append a b x y (by simpa using h), star_assoc]
  | [], _, _ :: _, _, h => by simp at h
  | _ :: _, _, [], _, h => by simp at h

theorem toksAt_single (v : Value) (t : Tok) : ToksAt [v] [t] = TokAt v t := by rw [toksAt_cons, toksAt_nil, star_emp]

theorem toksAt_len {w : World} : ∀ {vs : List Value} {ts : List Tok} {F : HP}, Sat w (ToksAt vs ts * F) → vs.length = ts.length
  | [], [], _, _ => rfl
  | v :: vs, t :: ts, F, h => by
    have h2 : Sat w (ToksAt vs ts * (TokAt v t * F)) := h.cast (by rw [toksAt_cons]; ac_rfl)
    simp [toksAt_len h2]
  | [], _ :: _, _, h => (h.pur).1.elim
  | _ :: _, [], _, h => (h.pur).1.elim

/-- A slice of inlines that are these tokens. -/
def InlsAt (sv : SV) (ts : List Tok) : HP := Sl.ex fun vs : List Value => Sl.pur (sv.len = vs.length) * (arr 133 1 sv.v sv.len vs * ToksAt vs ts)

theorem inlsAt_iff {w : World} {sv : SV} {ts : List Tok} {F : HP} : Sat w (InlsAt sv ts * F) ↔ ∃ vs : List Value, sv.len = vs.length ∧ Sat w (arr 133 1 sv.v sv.len vs * (ToksAt vs ts * F)) := by
  constructor
  · intro h
    obtain ⟨x, h⟩ := h.ex
    obtain ⟨h1, h2⟩ := (h.cast (star_assoc _ _ _)).pur
    exact ⟨x, h1, h2.cast (by ac_rfl)⟩
  · rintro ⟨x, h1, h2⟩
    refine Sat.ex_mk x ?_
    rw [star_assoc, pur_star h1]
    exact h2.cast (by ac_rfl)

/-- A text: its block, its lines, what it is written as, and the tokens it is read as. -/
structure TX where
  tb : Nat
  st : Int
  en : Int
  raw : List UInt8
  toks : List Tok

def TX.ptr (t : TX) : Value := .pointer (some ⟨t.tb, 0, none⟩)
/-- Not yet read. -/
def TX.fresh (t : TX) : HP := row t.tb 111 [.int .i64 t.st, .int .i64 t.en, .slice none 0 0, .string (B.bs t.raw)]
def TX.read (t : TX) : HP := Sl.ex fun sv : SV => row t.tb 111 [.int .i64 t.st, .int .i64 t.en, sv.v, .string (B.bs t.raw)] * InlsAt sv t.toks

/-- The texts, the first i of which have been read. -/
def TxsAt : Nat → List TX → HP
  | _, [] => emp
  | 0, t :: r => t.fresh * TxsAt 0 r
  | i + 1, t :: r => t.read * TxsAt i r

theorem txsAt_at : ∀ (i : Nat) (ts : List TX) (t : TX), ts[i]? = some t → ∃ G, TxsAt i ts = t.fresh * G ∧ TxsAt (i + 1) ts = t.read * G
  | 0, a :: r, t, h => by
    obtain rfl : a = t := by simpa using h
    exact ⟨TxsAt 0 r, rfl, rfl⟩
  | i + 1, a :: r, t, h => by
    obtain ⟨G, h1, h2⟩ := txsAt_at i r t (by simpa using h)
    refine ⟨a.read * G, ?_, ?_⟩
    · show a.read * TxsAt i r = _
      rw [h1]; ac_rfl
    · show a.read * TxsAt (i + 1) r = _
      rw [h2]; ac_rfl
  | _, [], t, h => by simp at h

theorem txsAt_read : ∀ (i : Nat) (ts : List TX), ts.length ≤ i → TxsAt i ts = TxsAt ts.length ts
  | _, [], _ => by
    unfold TxsAt; rfl
  | 0, _ :: _, h => by simp at h
  | i + 1, t :: r, h => by
    show t.read * TxsAt i r = t.read * TxsAt r.length r
    rw [txsAt_read i r (by simpa using h)]

theorem txsAt_one (i : Nat) (ts : List TX) (t : TX) (h : ts[i]? = some t) : ∃ G, TxsAt ts.length ts = t.read * G := by
  induction ts generalizing i with
  | nil => simp at h
  | cons a r ih =>
    cases i with
    | zero =>
      obtain rfl : a = t := by simpa using h
      exact ⟨TxsAt r.length r, rfl⟩
    | succ i =>
      obtain ⟨G, hG⟩ := ih i (by simpa using h)
      exact ⟨a.read * G, by show a.read * TxsAt r.length r = _; rw [hG]; ac_rfl⟩

end Go.Proofs.YtmdabdpghcjplaaGreatDoor
