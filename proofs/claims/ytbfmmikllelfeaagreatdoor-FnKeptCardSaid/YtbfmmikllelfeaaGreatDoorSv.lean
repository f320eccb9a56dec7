/- The eight ways in which a block of HTML begins. -/
import Derived.Test.YtbfmmikllelfeaaGreatDoorSu
import Derived.Test.YtbfmmikllelfeaaGreatDoorHg
import Derived.Test.YtbfmmikllelfeaaGreatDoorHo
namespace Go.Proofs.YtbfmmikllelfeaaGreatDoor
open Go.RowKit Sl

/-- The line t begins a block of HTML of the kind k, whatever is open. -/
def StartsAny (oc : List Value) (t : List UInt8) (k : HK) : Prop := ∀ (pb p b : Nat) (v v' : DV) (R R' : HP) (x : Ln) (F : HP) (w : World), x.OK → Heads x 60 → x.rest = t → Trims pb oc p v R (Dsp pb oc v' p * R') → v'.dep + 1 = v'.obs.length → v'.dep = v.dep → v'.obs.length < 1000000000 →
  Sat w (row b 181 x.cells * (Dsp pb oc v p * (R * F))) →
    Calls Tryz.prog 204 #[.pointer (some ⟨p, 0, none⟩), .pointer (some ⟨b, 0, none⟩)] w fun e' w' => e' = .returned (.bool true) ∧ ∃ lx : LX, k.fits lx ∧
      Sat w' (Dsp pb oc { v' with obs := v'.obs ++ (Leaf.html v'.n v'.n k [t]).obs lx } p * ((Leaf.html v'.n v'.n k [t]).own lx * (R' * (row b 181 x.cells * F))))

/-- The same, where no paragraph is open. -/
def Starts (oc : List Value) (t : List UInt8) (k : HK) : Prop := ∀ (pb p b : Nat) (v v' : DV) (R R' : HP) (x : Ln) (F : HP) (w : World), x.OK → Heads x 60 → x.rest = t → Trims pb oc p v R (Dsp pb oc v' p * R') → v'.dep + 1 = v'.obs.length → v'.dep = v.dep → v'.obs.length < 1000000000 →
  (∃ (pre : List OB) (o : OB) (TP : TypeId) (bvP : Value), v.obs = pre ++ [o] ∧ o.bv = .iface TP bvP ∧ ∀ w, (Instr.typeAssert (.iface TP bvP) 195 258 true).run Tryz.prog w = .ok (.tuple #[.pointer none, .bool false]) w) →
  Sat w (row b 181 x.cells * (Dsp pb oc v p * (R * F))) →
    Calls Tryz.prog 204 #[.pointer (some ⟨p, 0, none⟩), .pointer (some ⟨b, 0, none⟩)] w fun e' w' => e' = .returned (.bool true) ∧ ∃ lx : LX, k.fits lx ∧
      Sat w' (Dsp pb oc { v' with obs := v'.obs ++ (Leaf.html v'.n v'.n k [t]).obs lx } p * ((Leaf.html v'.n v'.n k [t]).own lx * (R' * (row b 181 x.cells * F))))

theorem StartsAny.starts {oc : List Value} {t : List UInt8} {k : HK} (h : StartsAny oc t k) : Starts oc t k :=
  fun pb p b v v' R R' x F w a1 a2 a3 a4 a5 a6 a7 _ a9 => h pb p b v v' R R' x F w a1 a2 a3 a4 a5 a6 a7 a9

def openT : Nat → List UInt8
  | 0 => [60, 115, 99, 114, 105, 112, 116, 62]
  | 1 => [60, 112, 114, 101, 32, 97, 61, 34, 98, 34, 62]
  | 2 => [60, 33, 45, 45, 32, 97]
  | 3 => [60, 63, 112, 104, 112]
  | 4 => [60, 33, 68, 79, 67, 84, 89, 80, 69, 32, 104, 116, 109, 108]
  | 5 => [60, 33, 91, 67, 68, 65, 84, 65, 91]
  | 6 => [60, 100, 105, 118, 32, 99, 108, 97, 115, 115, 61, 34, 97, 34, 62]
  | _ => [60, 111, 119, 110, 45, 116, 97, 103, 62]

def closeT : Nat → List UInt8
  | 0 => [60, 47, 115, 99, 114, 105, 112, 116, 62]
  | 1 => [97, 60, 47, 80, 82, 69, 62, 32, 98]
  | 2 => [98, 32, 45, 45, 62, 32, 99]
  | 3 => [63, 62]
  | 4 => [62]
  | 5 => [93, 93, 62, 32, 42, 97, 42]
  | 6 => [60, 47, 100, 105, 118, 62]
  | _ => [60, 47, 111, 119, 110, 45, 116, 97, 103, 62]

def kindT : Nat → HK
  | 0 => .pre
  | 1 => .pre
  | 2 => .has [45, 45, 62]
  | 3 => .has [63, 62]
  | 4 => .has [62]
  | 5 => .has [93, 93, 62]
  | _ => .blank

theorem noEnd_of {r : List UInt8} (h1 : (60 : UInt8) ∉ r) (h2 : r.head? ≠ some 47) : NoEnd (60 :: r) := by
  intro k hk
  cases k with
  | zero => simpa [List.head?_eq_getElem?] using h2
  | succ k =>
    rw [List.getElem?_cons_succ] at hk
    exact absurd (List.mem_of_getElem? hk) h1

theorem starts_any (oc : List Value) : ∀ k, k < 7 → StartsAny oc (openT k) (kindT k)
  | 0, _ => fun pb p b v v' R R' x F w a1 a2 a3 a4 a5 a6 a7 a9 => startPre_w pb p b oc v v' R R' x (openT 0) [115, 99, 114, 105, 112, 116] [] 62 F w a1 a2 a3 (by decide) ⟨rfl, by decide, by decide, by decide, .inl rfl⟩ (.inl ⟨rfl, rfl⟩) (by decide) (noEnd_of (by decide) (by decide)) a4 a5 a6 a7 a9
  | 1, _ => fun pb p b v v' R R' x F w a1 a2 a3 a4 a5 a6 a7 a9 => startPre_w pb p b oc v v' R R' x (openT 1) [112, 114, 101] [97, 61, 34, 98, 34, 62] 32 F w a1 a2 a3 (by decide) ⟨rfl, by decide, by decide, by decide, .inr (.inl rfl)⟩ (.inr ⟨rfl, rfl⟩) (by decide) (noEnd_of (by decide) (by decide)) a4 a5 a6 a7 a9
  | 2, _ => fun pb p b v v' R R' x F w a1 a2 a3 a4 a5 a6 a7 a9 => startMark_w pb p b oc v v' R R' x (openT 2) _ F w a1 a2 a3 (by decide) (.com rfl) (by decide) a4 a5 a6 a7 a9
  | 3, _ => fun pb p b v v' R R' x F w a1 a2 a3 a4 a5 a6 a7 a9 => startMark_w pb p b oc v v' R R' x (openT 3) _ F w a1 a2 a3 (by decide) (.pi rfl rfl) (by decide) a4 a5 a6 a7 a9
  | 4, _ => fun pb p b v v' R R' x F w a1 a2 a3 a4 a5 a6 a7 a9 => startMark_w pb p b oc v v' R R' x (openT 4) _ F w a1 a2 a3 (by decide) (.decl 68 rfl rfl rfl rfl (by decide) rfl (by decide) (by decide)) (by decide) a4 a5 a6 a7 a9
  | 5, _ => fun pb p b v v' R R' x F w a1 a2 a3 a4 a5 a6 a7 a9 => startMark_w pb p b oc v v' R R' x (openT 5) _ F w a1 a2 a3 (by decide) (.cdata rfl rfl rfl) (by decide) a4 a5 a6 a7 a9
  | 6, _ => fun pb p b v v' R R' x F w a1 a2 a3 a4 a5 a6 a7 a9 => startDiv_w pb p b oc v v' R R' x (openT 6) [100, 105, 118] [99, 108, 97, 115, 115, 61, 34, 97, 34, 62] 32 F w a1 a2 a3 (by decide) ⟨rfl, by decide, by decide, by decide, .inr (.inl rfl)⟩ rfl (by decide) a4 a5 a6 a7 a9
  | k + 7, h => by omega

theorem starts_own (oc : List Value) : Starts oc (openT 7) (kindT 7) := by
  intro pb p b v v' R R' x F w a1 a2 a3 a4 a5 a6 a7 h a9
  obtain ⟨pre, o, TP, bvP, q1, q2, q3⟩ := h
  exact startOwn_w pb p b oc v v' R R' x (openT 7) [111, 119, 110] [116, 97, 103, 62] 45 F w a1 a2 a3 (by decide) ⟨rfl, by decide, by decide, by decide, .inr (.inr rfl)⟩ rfl rfl pre o TP bvP q1 q2 q3 a4 a5 a6 a7 a9

theorem starts_all (oc : List Value) (k : Nat) (hk : k < 8) : Starts oc (openT k) (kindT k) := by
  by_cases h : k < 7
  · exact (starts_any oc k h).starts
  · obtain rfl : k = 7 := by omega
    exact starts_own oc

/-- A block of HTML begins where nothing is open. -/
theorem step_html_open (oc : List Value) (n : Int) (bs : List Blk) (t : List UInt8) (nl : UInt8) (k : HK) (hl : t.length ≤ 1000000000) (hh : Heads (LineOf (t, nl)) 60) (hst : Starts oc t k) :
    Steps oc ⟨n, bs, .none⟩ (t, nl) ⟨n + 1, bs, .html (n + 1) (n + 1) k [t]⟩ := by
  have hok : (LineOf (t, nl)).OK := lineOf_ok _ _ (by show t.length ≤ _; omega)
  refine steps_of hl rfl fun pb p x h0 h1 h2 => ⟨x.dv ⟨n + 1, bs, .none⟩, x.rest .none, LineOf (t, nl), hok, ?_, .done ?_, .inr ⟨hh.blank, 0, .stop 5 (by decide) ?_ (newHTML_does p _ _ _ ?_) zero_ok' rfl⟩⟩
  · show 0 ≤ x.dep ∧ x.dep ≤ _
    rw [h0]; decide
  · show x.dep + 1 = _
    rw [h0]; rfl
  · intro j hj
    have : j = 0 ∨ j = 1 ∨ j = 2 ∨ j = 3 ∨ j = 4 := by omega
    rcases this with rfl | rfl | rfl | rfl | rfl
    · exact fun w F hs => newQuote_not _ _ w _ hok (hh.quote (by decide)) hs
    · exact fun w F hs => newATX_not _ _ w _ hok (hh.heading (by decide)) hs
    · exact notD_setext (pre := []) (o := rootOB x.r x.inn (x.l.map CB.v)) rfl (by show x.dep = _; rw [h0]; rfl) rfl (typeAssert_root' x.r)
    · exact fun w F hs => newHR_not _ _ w _ hok (hh.hr (by decide) (by decide) (by decide)) hs
    · exact notD_item (pre := []) (o := rootOB x.r x.inn (x.l.map CB.v)) rfl (by show x.dep = _; rw [h0]; rfl) rfl hok (by rw [hh.item, hh.peek]; unfold Ln.noItem; decide) (typeAssert_root_list x.r)
  · intro b w F hs
    refine (hst pb p b (x.dv ⟨n + 1, bs, .none⟩) (x.dv ⟨n + 1, bs, .none⟩) (x.rest .none) (x.rest .none) (LineOf (t, nl)) F w hok hh (lineOf_rest _ _) (trims_none (by show x.dep + 1 = _; rw [h0]; rfl)) (by show x.dep + 1 = _; rw [h0]; rfl) rfl (by show 1 < _; decide)
      ⟨[], rootOB x.r x.inn (x.l.map CB.v), _, _, rfl, rfl, typeAssert_root' x.r⟩ (hs.cast (by rw [star_assoc]))).mono ?_
    rintro e w' ⟨rfl, lx, hf, s⟩
    refine ⟨rfl, docSt_mk ⟨x.r, x.inn, x.dep, x.l, lx⟩ h1 hf ?_⟩
    refine s.cast ?_
    show Dsp pb oc ((⟨x.r, x.inn, x.dep, x.l, lx⟩ : DX).dv ⟨n + 1, bs, .html (n + 1) (n + 1) k [t]⟩) p * ((Leaf.html (n + 1) (n + 1) k [t]).own lx * (cbOwn x.l * (TxsAt 0 (cbTxs x.l) * emp) * (row b 181 (LineOf (t, nl)).cells * F))) =
      Dsp pb oc ((⟨x.r, x.inn, x.dep, x.l, lx⟩ : DX).dv ⟨n + 1, bs, .html (n + 1) (n + 1) k [t]⟩) p * (cbOwn x.l * (TxsAt 0 (cbTxs x.l) * (Leaf.html (n + 1) (n + 1) k [t]).own lx) * (row b 181 (LineOf (t, nl)).cells * F))
    rw [star_emp]
    ac_rfl

end Go.Proofs.YtbfmmikllelfeaaGreatDoor
