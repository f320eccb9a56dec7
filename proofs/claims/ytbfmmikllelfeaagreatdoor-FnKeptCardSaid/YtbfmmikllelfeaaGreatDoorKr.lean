/- The texts of FnKept: their lines, and what is printed of them. -/
import Derived.Test.YtbfmmikllelfeaaGreatDoorSv
import Derived.Test.YtbfmmikllelfeaaGreatDoorDb
import Derived.Test.YtbfmmikllelfeaaGreatDoorHh
namespace Go.Proofs.YtbfmmikllelfeaaGreatDoor
open Go.RowKit Sl

/-- Lines, one behind the other, and the states between. -/
inductive Path (oc : List Value) : List (List UInt8 × UInt8) → DS → DS → Prop
  | nil (ds : DS) : Path oc [] ds ds
  | cons {l : List UInt8 × UInt8} {r : List (List UInt8 × UInt8)} {ds ds' ds3 : DS} (h : Steps oc ds l ds') (t : Path oc r ds' ds3) : Path oc (l :: r) ds ds3

theorem Path.append {oc : List Value} {a b : List (List UInt8 × UInt8)} {x y z : DS} (h1 : Path oc a x y) (h2 : Path oc b y z) : Path oc (a ++ b) x z := by
  induction h1 with
  | nil => exact h2
  | cons h _ ih => exact .cons h (ih h2)

theorem Path.one {oc : List Value} {l : List UInt8 × UInt8} {x y : DS} (h : Steps oc x l y) : Path oc [l] x y := .cons h (.nil y)

theorem Path.fn {oc : List Value} {L : List (List UInt8 × UInt8)} {x y : DS} (h : Path oc L x y) : ∃ D : Nat → DS, D 0 = x ∧ D L.length = y ∧ (∀ k, (D k).n = x.n + k) ∧ ∀ k l, L[k]? = some l → Steps oc (D k) l (D (k + 1)) := by
  induction h with
  | nil ds => exact ⟨fun k => { ds with n := ds.n + k }, by simp, by simp, fun k => rfl, fun k l hk => by simp at hk⟩
  | @cons l r ds ds' ds3 h _ ih =>
    obtain ⟨D, d0, d1, d2, d3⟩ := ih
    refine ⟨fun k => match k with | 0 => ds | k + 1 => D k, rfl, d1, fun k => ?_, fun k m hk => ?_⟩
    · cases k with
      | zero => simp
      | succ k =>
        show (D k).n = _
        rw [d2 k, h.1]
        simp
        omega
    · cases k with
      | zero =>
        obtain rfl : l = m := by simpa using hk
        show Steps oc ds l (D 0)
        rw [d0]
        exact h
      | succ k => exact d3 k m (by simpa using hk)

theorem path_prints (o : Opt) (G0 : HP) (text : List UInt8) (ds : DS) (bs : List Blk) (hsz : text.length ≤ 1000000000) (hnul : (0 : UInt8) ∉ text) (hp : Path o.pcells (B.lines text) ⟨0, [], .none⟩ ds) (hcl : Shuts o.pcells ds bs) (hgood : ∀ b ∈ bs, b.Good o) (hl : (bs.flatMap Blk.out).length ≤ 1000000000000) :
    PrintsP o.pcells G0 (B.bs text) (B.bs (bs.flatMap Blk.out)) := by
  obtain ⟨D, d0, d1, d2, d3⟩ := hp.fn
  exact doc_prints o G0 text D bs hsz hnul d0 (fun k => by rw [d2 k]; simp) d3 (by rw [d1]; exact hcl) hgood hl

/-- Lines of an open block of HTML. -/
theorem path_html (oc : List Value) (st : Int) (k : HK) (bs : List Blk) : ∀ (L : List (List UInt8 × UInt8)) (n en : Int) (ls : List (List UInt8)), (∀ l ∈ L, l.1.length ≤ 1000000000 ∧ (k.isBlank = true → (LineOf l).blank = false) ∧ k.ends l.1 false) → ls.length + L.length < 1000000000 →
    ∃ en', Path oc L ⟨n, bs, .html st en k ls⟩ ⟨n + L.length, bs, .html st en' k (ls ++ L.map (·.1))⟩
  | [], n, en, ls, _, _ => ⟨en, by simpa using Path.nil _⟩
  | l :: r, n, en, ls, h, hl => by
    obtain ⟨h1, h2, h3⟩ := h l (by simp)
    obtain ⟨en', hp⟩ := path_html oc st k bs r (n + 1) (if (LineOf l).blank then en else n + 1) (ls ++ [l.1]) (fun m hm => h m (by simp [hm])) (by rw [List.length_append]; simp at hl ⊢; omega)
    refine ⟨en', ?_⟩
    have := Path.cons (step_html_cont oc n bs st en k ls l h1 (by simp at hl; omega) h2 h3) hp
    have e1 : n + 1 + (r.length : Int) = n + ((l :: r).length : Int) := by simp; omega
    have e2 : ls ++ [l.1] ++ r.map (·.1) = ls ++ (l :: r).map (·.1) := by simp
    rw [e1, e2] at this
    exact this

theorem nlLines_append : ∀ (a b : List (List UInt8)), b ≠ [] → nlLines (a ++ b) = a.map (fun s => (s, 10)) ++ nlLines b
  | [], b, _ => rfl
  | [x], b, h => by
    cases b with
    | nil => exact absurd rfl h
    | cons y r => rfl
  | x :: y :: r, b, h => by
    show (x, 10) :: nlLines (y :: r ++ b) = _
    rw [nlLines_append (y :: r) b h]
    rfl

theorem joinNL_append : ∀ (a b : List (List UInt8)), b ≠ [] → joinNL (a ++ b) = (a.flatMap fun s => s ++ [10]) ++ joinNL b
  | [], b, _ => rfl
  | [x], b, h => by
    cases b with
    | nil => exact absurd rfl h
    | cons y r => simp [joinNL]
  | x :: y :: r, b, h => by
    show x ++ 10 :: joinNL (y :: r ++ b) = _
    rw [joinNL_append (y :: r) b h]
    simp

/-- The text of a block of HTML. -/
def keptT (k : Nat) (ss : List (List UInt8)) : List UInt8 := openT k ++ [10] ++ (ss.flatMap fun s => s ++ [10]) ++ closeT k

theorem keptT_join (k : Nat) (ss : List (List UInt8)) : keptT k ss = joinNL (openT k :: ss ++ [closeT k]) := by
  rw [show openT k :: ss ++ [closeT k] = (openT k :: ss) ++ [closeT k] from rfl, joinNL_append _ _ (by simp)]
  unfold keptT
  simp [joinNL]

/-- A line within: printable, without the signs that end a block; not blank where it ends at a blank line. -/
structure StillL (k : Nat) (s : List UInt8) : Prop where
  all : ∀ c ∈ s, 32 ≤ c ∧ c ≤ 126 ∧ c ≠ 60 ∧ c ≠ 62 ∧ c ≠ 45 ∧ c ≠ 63 ∧ c ≠ 93
  len : s.length ≤ 200
  ink : 6 ≤ k → (B.trimL s).isEmpty = false

theorem findSub_none_of {e s : List UInt8} {c : UInt8} (he : c ∈ e) (hs : c ∉ s) : B.findSub e s = none := by
  refine B.findSub_miss e s fun j _ h => ?_
  have : c ∈ (s.drop j).take e.length := by rw [h]; exact he
  exact hs (List.mem_of_mem_drop (List.mem_of_mem_take this))

theorem still_stops {k : Nat} {s : List UInt8} (h : StillL k s) : (kindT k).ends s false := by
  have hn : ∀ c, (c = 60 ∨ c = 62 ∨ c = 45 ∨ c = 63 ∨ c = 93) → c ∉ s := by
    intro c hc hm
    obtain ⟨_, _, a1, a2, a3, a4, a5⟩ := h.all c hm
    rcases hc with rfl | rfl | rfl | rfl | rfl
    · exact a1 rfl
    · exact a2 rfl
    · exact a3 rfl
    · exact a4 rfl
    · exact a5 rfl
  have hlen := h.len
  have hpre : HK.pre.ends s false := fun w F hF => (hasEndPre_no s w (by omega) fun j hj => absurd (List.mem_of_getElem? hj) (hn 60 (.inl rfl))).mono fun e w' ⟨h1, h2⟩ => ⟨h1, h2 ▸ hF⟩
  match k with
  | 0 => exact hpre
  | 1 => exact hpre
  | 2 => exact ⟨by decide, by rw [findSub_none_of (c := 45) (by decide) (hn 45 (by simp))]; rfl⟩
  | 3 => exact ⟨by decide, by rw [findSub_none_of (c := 63) (by decide) (hn 63 (by simp))]; rfl⟩
  | 4 => exact ⟨by decide, by rw [findSub_none_of (c := 62) (by decide) (hn 62 (by simp))]; rfl⟩
  | 5 => exact ⟨by decide, by rw [findSub_none_of (c := 93) (by decide) (hn 93 (by simp))]; rfl⟩
  | 6 => rfl
  | k + 7 => rfl

end Go.Proofs.YtbfmmikllelfeaaGreatDoor

/- The two texts of FnKept are printed. -/
namespace Go.Proofs.YtbfmmikllelfeaaGreatDoor
open Go.RowKit Sl

theorem kept_ends : ∀ k, k < 6 → (kindT k).ends (closeT k) true
  | 0, _ => ends_pre0
  | 1, _ => ends_pre1
  | 2, _ => ⟨by decide, by decide⟩
  | 3, _ => ⟨by decide, by decide⟩
  | 4, _ => ⟨by decide, by decide⟩
  | 5, _ => ⟨by decide, by decide⟩
  | k + 6, h => by omega

theorem openT_heads (k : Nat) (nl : UInt8) : Heads (LineOf (openT k, nl)) 60 := by
  have : ∃ r, openT k = 60 :: r := by
    match k with
    | 0 => exact ⟨_, rfl⟩
    | 1 => exact ⟨_, rfl⟩
    | 2 => exact ⟨_, rfl⟩
    | 3 => exact ⟨_, rfl⟩
    | 4 => exact ⟨_, rfl⟩
    | 5 => exact ⟨_, rfl⟩
    | 6 => exact ⟨_, rfl⟩
    | k + 7 => exact ⟨_, rfl⟩
  obtain ⟨r, hr⟩ := this
  rw [hr]
  exact heads_lineOf (by decide) (by decide)

theorem sizes (k : Nat) : (openT k).length ≤ 20 ∧ (closeT k).length ≤ 20 ∧ (B.trimL (closeT k)).isEmpty = false ∧ (∀ c ∈ openT k, 32 ≤ c ∧ c ≤ 126) ∧ (∀ c ∈ closeT k, 32 ≤ c ∧ c ≤ 126) ∧ closeT k ≠ [] := by
  match k with
  | 0 => decide
  | 1 => decide
  | 2 => decide
  | 3 => decide
  | 4 => decide
  | 5 => decide
  | 6 => decide
  | k + 7 => exact (by decide : (openT 7).length ≤ 20 ∧ (closeT 7).length ≤ 20 ∧ (B.trimL (closeT 7)).isEmpty = false ∧ (∀ c ∈ openT 7, 32 ≤ c ∧ c ≤ 126) ∧ (∀ c ∈ closeT 7, 32 ≤ c ∧ c ≤ 126) ∧ closeT 7 ≠ [])

theorem lineOf_blank (s : List UInt8) (nl : UInt8) : (LineOf (s, nl)).blank = (B.trimL s).isEmpty := by
  unfold Ln.blank
  rw [lineOf_rest]

theorem kind_blank {k : Nat} : (kindT k).isBlank = true → 6 ≤ k := by
  match k with
  | 0 => intro h; cases h
  | 1 => intro h; cases h
  | 2 => intro h; cases h
  | 3 => intro h; cases h
  | 4 => intro h; cases h
  | 5 => intro h; cases h
  | k + 6 => intro _; omega

theorem kind_six {k : Nat} (h : 6 ≤ k) : kindT k = .blank := by
  match k with
  | 0 => omega
  | 1 => omega
  | 2 => omega
  | 3 => omega
  | 4 => omega
  | 5 => omega
  | 6 => rfl
  | k + 7 => rfl

/-- The lines of the block. -/
theorem path_kept (oc : List Value) (k : Nat) (hk : k < 8) (bs : List Blk) (n : Int) (ss : List (List UInt8)) (nl : UInt8) (hss : ∀ s ∈ ss, StillL k s) (hlen : ss.length ≤ 30) (hbs : bs.length < 1000) :
    ∃ (st en : Int) (ds : DS), Path oc ((openT k :: ss).map (fun s => (s, 10)) ++ [(closeT k, nl)]) ⟨n, bs, .none⟩ ds ∧
      ((k < 6 ∧ ds = ⟨n + ss.length + 2, bs ++ [.html st en (openT k :: ss ++ [closeT k])], .none⟩) ∨ (6 ≤ k ∧ ds = ⟨n + ss.length + 2, bs, .html st en .blank (openT k :: ss ++ [closeT k])⟩)) := by
  obtain ⟨z1, z2, z3, _⟩ := sizes k
  have p1 := Path.one (step_html_open oc n bs (openT k) 10 (kindT k) (by omega) (openT_heads k 10) (starts_all oc k hk))
  obtain ⟨en, p2⟩ := path_html oc (n + 1) (kindT k) bs (ss.map fun s => (s, 10)) (n + 1) (n + 1) [openT k] (by
    intro l hl
    obtain ⟨s, hs, rfl⟩ := List.mem_map.1 hl
    have h := hss s hs
    refine ⟨by have := h.len; show s.length ≤ _; omega, fun hb => ?_, still_stops h⟩
    rw [lineOf_blank]
    exact h.ink (kind_blank hb)) (by simp; omega)
  have e1 : (ss.map fun s => ((s, 10) : List UInt8 × UInt8)).map (·.1) = ss := by
    rw [List.map_map]
    conv => rhs; rw [← List.map_id ss]
    exact List.map_congr_left fun s _ => rfl
  rw [e1, List.length_map] at p2
  have p3 := p1.append p2
  by_cases h6 : k < 6
  · have p4 := step_html_close oc (n + 1 + ss.length) bs (n + 1) en (kindT k) ([openT k] ++ ss) (closeT k, nl) (by show (closeT k).length ≤ _; omega) (by simp; omega) (by omega) (by rw [lineOf_blank]; exact z3) (kept_ends k h6)
    rw [show n + 1 + (ss.length : Int) + 1 = n + ss.length + 2 by omega] at p4
    exact ⟨_, _, _, p3.append (Path.one p4), .inl ⟨h6, rfl⟩⟩
  · have hkb := kind_six (k := k) (by omega)
    rw [hkb] at p3
    have p4 := step_html_cont oc (n + 1 + ss.length) bs (n + 1) en .blank ([openT k] ++ ss) (closeT k, nl) (by show (closeT k).length ≤ _; omega) (by simp; omega) (fun _ => by rw [lineOf_blank]; exact z3) rfl
    rw [show n + 1 + (ss.length : Int) + 1 = n + ss.length + 2 by omega] at p4
    exact ⟨_, _, _, p3.append (Path.one p4), .inr ⟨(by omega), rfl⟩⟩

theorem keptT_out (k : Nat) (ss : List (List UInt8)) : (openT k :: ss ++ [closeT k]).flatMap (fun s => s ++ [10]) = keptT k ss ++ [10] := by
  unfold keptT
  simp

theorem flat_len (ss : List (List UInt8)) (h : ∀ s ∈ ss, s.length ≤ 200) : (ss.flatMap fun s => s ++ [(10 : UInt8)]).length ≤ 201 * ss.length := by
  induction ss with
  | nil => simp
  | cons a r ih =>
    have h1 := h a (by simp)
    have h2 := ih fun s hs => h s (by simp [hs])
    rw [List.flatMap_cons, List.length_append, List.length_append, List.length_cons]
    simp only [List.length_cons, List.length_nil]
    omega

theorem keptT_len (k : Nat) (ss : List (List UInt8)) (hss : ∀ s ∈ ss, StillL k s) (hlen : ss.length ≤ 30) : (keptT k ss).length ≤ 7000 := by
  obtain ⟨z1, z2, _⟩ := sizes k
  have := flat_len ss fun s hs => (hss s hs).len
  unfold keptT
  simp only [List.length_append, List.length_cons, List.length_nil]
  omega

theorem keptT_mem {k : Nat} {ss : List (List UInt8)} (hss : ∀ s ∈ ss, StillL k s) : ∀ s ∈ openT k :: ss ++ [closeT k], ∀ c ∈ s, 32 ≤ c ∧ c ≤ 126 := by
  obtain ⟨_, _, _, z4, z5, _⟩ := sizes k
  intro s hs c hc
  rcases List.mem_append.1 hs with hs | hs
  · rcases List.mem_cons.1 hs with rfl | hs
    · exact z4 c hc
    · have := (hss s hs).all c hc
      exact ⟨this.1, this.2.1⟩
  · obtain rfl := List.mem_singleton.1 hs
    exact z5 c hc

theorem no_ctl {s : List UInt8} (h : ∀ c ∈ s, 32 ≤ c ∧ c ≤ 126) : 10 ∉ s ∧ 13 ∉ s :=
  ⟨fun hc => absurd (h 10 hc).1 (by decide), fun hc => absurd (h 13 hc).1 (by decide)⟩

theorem kept_good (k : Nat) (ss : List (List UInt8)) (hss : ∀ s ∈ ss, StillL k s) (hlen : ss.length ≤ 30) (st en : Int) : (Blk.html st en (openT k :: ss ++ [closeT k])).Good plainO := by
  refine ⟨by simp; omega, fun s hs => ?_⟩
  rcases List.mem_append.1 hs with hs | hs
  · rcases List.mem_cons.1 hs with rfl | hs
    · have := (sizes k).1; omega
    · have := (hss s hs).len; omega
  · obtain rfl := List.mem_singleton.1 hs
    have := (sizes k).2.1; omega

/-- The text alone. -/
theorem kept_prints (G0 : HP) (k : Nat) (hk : k < 8) (ss : List (List UInt8)) (hss : ∀ s ∈ ss, StillL k s) (hlen : ss.length ≤ 30) : PrintsP plainO.pcells G0 (B.bs (keptT k ss)) (B.bs (keptT k ss ++ [10])) := by
  have hl := keptT_len k ss hss hlen
  have hm := keptT_mem hss
  obtain ⟨_, _, _, _, _, z6⟩ := sizes k
  obtain ⟨st, en, ds, hp, hds⟩ := path_kept plainO.pcells k hk [] 0 ss 0 hss hlen (by decide)
  have hlines : B.lines (keptT k ss) = (openT k :: ss).map (fun s => (s, 10)) ++ [(closeT k, 0)] := by
    rw [keptT_join, lines_join _ (fun t ht => no_ctl (hm t ht)) (by rw [List.getLast?_concat]; exact fun e => z6 (Option.some.inj e)), show openT k :: ss ++ [closeT k] = (openT k :: ss) ++ [closeT k] from rfl, nlLines_append _ _ (by simp)]
    rfl
  have hout : ([Blk.html st en (openT k :: ss ++ [closeT k])]).flatMap Blk.out = keptT k ss ++ [10] := by
    rw [← keptT_out]
    show _ ++ [] = _
    rw [List.append_nil]
    rfl
  rw [← hout]
  refine path_prints plainO G0 (keptT k ss) ds _ (by omega) ?_ (by rw [hlines]; exact hp) ?_ ?_ ?_
  · intro hc
    rw [keptT_join] at hc
    rcases joinNL_mem hc with h | ⟨t, ht, hc⟩
    · exact absurd h (by decide)
    · exact absurd (hm t ht 0 hc).1 (by decide)
  · rcases hds with ⟨_, rfl⟩ | ⟨_, rfl⟩
    · exact .inl ⟨rfl, rfl⟩
    · exact html_close _ _ [] _ _ _ _ (by decide)
  · intro b hb
    obtain rfl := List.mem_singleton.1 hb
    exact kept_good k ss hss hlen st en
  · rw [hout, List.length_append]
    simp only [List.length_cons, List.length_nil]
    omega

end Go.Proofs.YtbfmmikllelfeaaGreatDoor

/- The second text of FnKept: between two paragraphs. -/
namespace Go.Proofs.YtbfmmikllelfeaaGreatDoor
open Go.RowKit Sl

/-- One letter is a paragraph of one word. -/
theorem one_inl (c : UInt8) (hc : loud plainO c = false) (hs : B.isST c = false) : InlOf plainO [c] [.plain [c]] := by
  have hsc : Scan plainO [c] 0 0 [.plain [c]] := by
    refine scan_still 1 0 (Nat.le_refl _) (by simp) (fun j hj => ?_) (Scan.stop 0 (Nat.zero_le _))
    obtain rfl : j = 0 := by omega
    exact ⟨c, rfl, hc⟩
  refine inl_of_scan (ts := [.plain [c]]) merges_one rfl (by simp) (trim_both hs rfl hs) (by simp) hsc ?_
  intro st i h1 h2 _
  simp only [List.length_cons, List.length_nil] at h2
  obtain rfl : st = 0 := by omega
  obtain rfl : i = 1 := by omega
  rfl

theorem one_good (st en : Int) (c : UInt8) (hc : loud plainO c = false) (hs : B.isST c = false) : (Blk.para st en [c] [.plain [c]]).Good plainO := by
  refine ⟨one_inl c hc hs, by simp, fun x hx => ?_⟩
  obtain rfl := List.mem_singleton.1 hx
  exact ⟨by show [c].length ≤ _; simp, trivial⟩

theorem item_letter (c : UInt8) (nl : UInt8) (h1 : c ≠ 32) (h2 : c ≠ 9) (hi : Ln.noItem c) : NoItemL (LineOf ([c], nl)) :=
  noItemL (lineOf_ok _ _ (by simp)) (heads_lineOf h1 h2) hi

theorem noMark_97 : NoMarkB 97 := by constructor <;> decide
theorem noMark_98 : NoMarkB 98 := by constructor <;> decide

theorem step_a (n : Int) (bs : List Blk) : Steps plainO.pcells ⟨n, bs, .none⟩ ([97], 10) ⟨n + 1, bs, .para (n + 1) (n + 1) [[97]]⟩ :=
  step_para_new plainO.pcells n bs 97 [] 10 rfl (by simp) (heads_lineOf (by decide) (by decide)) noMark_97 (item_letter 97 10 (by decide) (by decide) (by unfold Ln.noItem; decide))

theorem step_b (n : Int) (bs : List Blk) : Steps plainO.pcells ⟨n, bs, .none⟩ ([98], 0) ⟨n + 1, bs, .para (n + 1) (n + 1) [[98]]⟩ :=
  step_para_new plainO.pcells n bs 98 [] 0 rfl (by simp) (heads_lineOf (by decide) (by decide)) noMark_98 (item_letter 98 0 (by decide) (by decide) (by unfold Ln.noItem; decide))

theorem shut_letter (oc : List Value) (n : Int) (bs : List Blk) (st : Int) (c : UInt8) (hb : bs.length < 1000000) (h1 : c ≠ 32) (h2 : c ≠ 9) (h3 : c ≠ 10) (h4 : c ≠ 91) (hst : 0 ≤ st ∧ st ≤ 1000000000) :
    Shuts oc ⟨n, bs, .para st st [[c]]⟩ (bs ++ [.para st (st + 1 - 1) [c] [.plain [c]]]) :=
  para_shut oc n bs st st [[c]] [c] [.plain [c]] hb (fun p w => linkDef_not p c [] w h1 h2 h3 h4 (by simp)) rfl (by simp) (by simp) (by simp) (by simp) hst

theorem blank_nil (nl : UInt8) : (LineOf ([], nl)).blank = true := by
  rw [lineOf_blank]; rfl

/-- A text that ends in no empty line: its last line's end is the text's. -/
theorem nlLines_all (a : List (List UInt8)) (c : List UInt8) : nlLines (a ++ [c]) = a.map (fun s => (s, 10)) ++ [(c, 0)] := by
  rw [nlLines_append _ _ (by simp)]
  rfl

def betweenT (k : Nat) (ss : List (List UInt8)) : List UInt8 := [97, 10, 10] ++ keptT k ss ++ [10, 10, 98]

theorem betweenT_join (k : Nat) (ss : List (List UInt8)) : betweenT k ss = joinNL (([97] :: [] :: openT k :: ss ++ [closeT k] ++ [[]]) ++ [[98]]) := by
  rw [joinNL_append _ _ (by simp)]
  unfold betweenT keptT
  simp [joinNL]

theorem between_mem {k : Nat} {ss : List (List UInt8)} (hss : ∀ s ∈ ss, StillL k s) : ∀ s ∈ ([97] :: [] :: openT k :: ss ++ [closeT k] ++ [[]]) ++ [[98]], ∀ c ∈ s, 32 ≤ c ∧ c ≤ 126 := by
  have hm := keptT_mem hss
  intro s hs c hc
  have h : s = [97] ∨ s = [] ∨ s ∈ openT k :: ss ++ [closeT k] ∨ s = [98] := by
    simp only [List.mem_append, List.mem_cons, List.not_mem_nil, or_false, List.cons_append] at hs ⊢
    rcases hs with h | h | h | ((h | h) | h) | h <;> simp [h]
  rcases h with rfl | rfl | h | rfl
  · obtain rfl := List.mem_singleton.1 hc; decide
  · cases hc
  · exact hm s h c hc
  · obtain rfl := List.mem_singleton.1 hc; decide

/-- The text between two paragraphs. -/
theorem between_prints (G0 : HP) (k : Nat) (hk : k < 8) (ss : List (List UInt8)) (hss : ∀ s ∈ ss, StillL k s) (hlen : ss.length ≤ 30) : PrintsP plainO.pcells G0 (B.bs (betweenT k ss)) (B.bs ([60, 112, 62, 97, 60, 47, 112, 62, 10] ++ keptT k ss ++ [10, 60, 112, 62, 98, 60, 47, 112, 62, 10])) := by
  have hl := keptT_len k ss hss hlen
  have hm := keptT_mem hss
  let pa : Blk := .para 1 (1 + 1 - 1) [97] [.plain [97]]
  obtain ⟨st, en, ds, hp, hds⟩ := path_kept plainO.pcells k hk [pa] 2 ss 10 hss hlen (by decide)
  have q1 : Path plainO.pcells [([97], 10)] ⟨0, [], .none⟩ ⟨1, [], .para 1 1 [[97]]⟩ := Path.one (step_a 0 [])
  have q2 : Path plainO.pcells [([], 10)] ⟨1, [], .para 1 1 [[97]]⟩ ⟨2, [pa], .none⟩ := Path.one (step_para_blank plainO.pcells 1 [] [pa] 1 1 [[97]] ([], 10) (by simp) (blank_nil 10) (shut_letter plainO.pcells 2 [] 1 97 (by simp) (by decide) (by decide) (by decide) (by decide) (by decide)))
  have q3 : Path plainO.pcells [([], 10)] ds ⟨2 + ss.length + 2 + 1, [pa, .html st en (openT k :: ss ++ [closeT k])], .none⟩ := by
    rcases hds with ⟨_, rfl⟩ | ⟨_, rfl⟩
    · exact Path.one (step_blank_none _ _ _ _ (by simp) (blank_nil 10))
    · exact Path.one (step_html_end _ _ _ _ _ _ _ (by simp) (by simp) (blank_nil 10))
  have q4 := Path.one (step_b (2 + ss.length + 2 + 1) [pa, .html st en (openT k :: ss ++ [closeT k])])
  have hpath := ((q1.append q2).append (hp.append q3)).append q4
  have hlines : B.lines (betweenT k ss) = [([97], 10)] ++ [([], 10)] ++ ((openT k :: ss).map (fun s => (s, 10)) ++ [(closeT k, 10)] ++ [([], 10)]) ++ [([98], 0)] := by
    rw [betweenT_join, lines_join _ (fun t ht => ?_) (by rw [List.getLast?_concat]; simp), nlLines_all]
    · simp
    · exact no_ctl (between_mem hss t ht)
  have hn : (0 : Int) ≤ 2 + ss.length + 2 + 1 + 1 ∧ (2 + ss.length + 2 + 1 + 1 : Int) ≤ 1000000000 := by omega
  have hout : ([pa, .html st en (openT k :: ss ++ [closeT k]), .para (2 + ss.length + 2 + 1 + 1) (2 + ss.length + 2 + 1 + 1 + 1 - 1) [98] [.plain [98]]]).flatMap Blk.out = [60, 112, 62, 97, 60, 47, 112, 62, 10] ++ keptT k ss ++ [10, 60, 112, 62, 98, 60, 47, 112, 62, 10] := by
    show paraHTML (htmls [.plain [97]]) ++ ((openT k :: ss ++ [closeT k]).flatMap (fun s => s ++ [10]) ++ (paraHTML (htmls [.plain [98]]) ++ [])) = _
    rw [keptT_out, show paraHTML (htmls [.plain [97]]) = [60, 112, 62, 97, 60, 47, 112, 62, 10] from by decide, show paraHTML (htmls [.plain [98]]) = [60, 112, 62, 98, 60, 47, 112, 62, 10] from by decide]
    simp
  rw [← hout]
  refine path_prints plainO G0 (betweenT k ss) _ _ ?_ ?_ (by rw [hlines]; exact hpath) (shut_letter plainO.pcells _ [pa, .html st en (openT k :: ss ++ [closeT k])] _ 98 (by simp) (by decide) (by decide) (by decide) (by decide) hn) ?_ ?_
  · unfold betweenT
    simp only [List.length_append, List.length_cons, List.length_nil]
    omega
  · intro hc
    rw [betweenT_join] at hc
    rcases joinNL_mem hc with h | ⟨t, ht, hc⟩
    · exact absurd h (by decide)
    · exact absurd (between_mem hss t ht 0 hc).1 (by decide)
  · intro b hb
    simp only [List.mem_cons, List.not_mem_nil, or_false] at hb
    rcases hb with rfl | rfl | rfl
    · exact one_good _ _ 97 (by decide) (by decide)
    · exact kept_good k ss hss hlen st en
    · exact one_good _ _ 98 (by decide) (by decide)
  · rw [hout]
    simp only [List.length_append, List.length_cons, List.length_nil]
    omega

end Go.Proofs.YtbfmmikllelfeaaGreatDoor
