/- A text that is one heading: what closing the root leaves, the inlines, the HTML. -/
import Derived.Test.YtmdabdpghcjplaaGreatDoorH5
import Derived.Test.YtmdabdpghcjplaaGreatDoorTl
namespace Go.Proofs.YtmdabdpghcjplaaGreatDoor
open Go.RowKit Sl

/-- As Dcl; the stack is empty. -/
noncomputable def Dcl0 (pb : Nat) (oc : List Value) (C : List Value → List Value → HP) (p : Nat) (tx : SV) : HP := Sl.ex fun y : DC => Sl.pur ((y.fit pb tx ∧ y.x.stack.len = 0)) *
  (row p 96 y.x.cells * (row y.d 341 [.int .i64 0, .int .i64 0, y.inn.v, .map y.x.links] * (arr 70 1 y.inn.v y.inn.len y.items * (arr 106 1 tx.v tx.len y.ptrs * (row pb 78 oc * C y.items y.ptrs)))))

theorem dcl0_iff {w : World} {pb p : Nat} {oc : List Value} {C : List Value → List Value → HP} {tx : SV} {F : HP} : Sat w (Dcl0 pb oc C p tx * F) ↔ ∃ y : DC, (y.fit pb tx ∧ y.x.stack.len = 0) ∧
    Sat w (row p 96 y.x.cells * (row y.d 341 [.int .i64 0, .int .i64 0, y.inn.v, .map y.x.links] * (arr 70 1 y.inn.v y.inn.len y.items * (arr 106 1 tx.v tx.len y.ptrs * (row pb 78 oc * (C y.items y.ptrs * F)))))) := by
  constructor
  · intro h
    obtain ⟨x, h⟩ := h.ex
    obtain ⟨h1, h2⟩ := (h.cast (star_assoc _ _ _)).pur
    exact ⟨x, h1, h2.cast (by ac_rfl)⟩
  · rintro ⟨x, h1, h2⟩
    refine Sat.ex_mk x ?_
    rw [star_assoc, pur_star h1]
    exact h2.cast (by ac_rfl)

/-- The root is closed. -/
theorem closeRoot_e (pb p : Nat) (oc : List Value) (v : DV) (r : Nat) (inn : SV) (items : List Value) (C : List Value → List Value → HP) (F : HP) (w : World) (ho : v.obs = [⟨.iface 99 (.pointer (some ⟨r, 0, none⟩)), inn, items, 0, 0⟩])
    (hs : Sat w (Dsp pb oc v p * (C items v.ptrs * F))) :
    Calls Tryz.prog 65 #[.pointer (some ⟨p, 0, none⟩)] w fun e w' => (∃ u, e = .returned u) ∧ ∃ tx : SV, tx.len ≤ 1000000000 ∧ Sat w' (Dcl0 pb oc C p tx * F) := by
  obtain ⟨n, dep, obs, ptrs, links⟩ := v
  obtain rfl := ho
  obtain ⟨h, ⟨hf1, hf2, hf3, hf4⟩, h1⟩ := dsp_iff.1 hs
  obtain ⟨ho1, ho2⟩ := hf4 _ (List.mem_singleton.2 rfl)
  simp only at h1 hf1 hf2 ho1 ho2
  obtain ⟨junk, j1, j2, j3, j4, hr⟩ := h1.swap.arr_row
  have hr2 := hr.cast (show _ = row p 96 (DV.ps ⟨n, dep, [⟨.iface 99 (.pointer (some ⟨r, 0, none⟩)), inn, items, 0, 0⟩], ptrs, links⟩ pb h).cells * (row h.g 122 ([.iface 99 (.pointer (some ⟨r, 0, none⟩)), .slice inn.a inn.len inn.cap, .int .i64 0, .int .i64 0] ++ junk) *
    (arr 70 1 inn.v inn.len items * (arr 106 1 h.tx.v h.tx.len ptrs * (row pb 78 oc * (C items ptrs * F))))) from by
    rw [show obOwn [⟨.iface 99 (.pointer (some ⟨r, 0, none⟩)), inn, items, 0, 0⟩] = arr 70 1 inn.v inn.len items from star_emp _]
    rw [show obCells [⟨.iface 99 (.pointer (some ⟨r, 0, none⟩)), inn, items, 0, 0⟩] = [.iface 99 (.pointer (some ⟨r, 0, none⟩)), .slice inn.a inn.len inn.cap, .int .i64 0, .int .i64 0] from rfl]
    ac_rfl)
  refine (closeRoot_w ⟨r, 0, none⟩ p h.g h.cap 0 0 inn.a inn.len inn.cap _ junk _ w rfl hr2).mono ?_
  rintro e w' ⟨d, rfl, h5⟩
  refine ⟨⟨_, rfl⟩, h.tx, by omega, dcl0_iff.2 ⟨⟨_, d, inn, items, ptrs⟩, ⟨⟨rfl, rfl, rfl, ho1, ho2, hf1, hf2, bt0_len⟩, rfl⟩, h5⟩⟩


/-- What inline makes of a text. -/
def InlOf (o : Opt) (raw : List UInt8) (toks : List Tok) : Prop := ∀ (p pb : Nat) (x0 : PSt) (F : HP) (w : World), x0.parser = some ⟨pb, 0, none⟩ → Sat w (row p 96 x0.cells * (row pb 78 o.pcells * F)) →
  Calls Tryz.prog 57 #[.pointer (some ⟨p, 0, none⟩), .string (B.bs raw)] w fun e w' => ∃ (x : PSt) (L : SV), e = .returned L.v ∧ Keeps x x0 ∧ Sat w' (row p 96 x.cells * (InlsAt L toks * (row pb 78 o.pcells * F)))

theorem hdT_iff {w : World} {pb p lev i : Nat} {oc : List Value} {raw : List UInt8} {toks : List Tok} {tx : SV} {F : HP} (h : Sat w (HdT pb oc lev raw toks p tx i * F)) : ∃ (y : DC) (d tb : Nat), y.fit pb tx ∧ y.items = [.iface 233 (.pointer (some ⟨d, 0, none⟩))] ∧ y.ptrs = [.pointer (some ⟨tb, 0, none⟩)] ∧
    Sat w (row p 96 y.x.cells * (row y.d 341 [.int .i64 0, .int .i64 0, y.inn.v, .map y.x.links] * (arr 70 1 y.inn.v y.inn.len y.items * (arr 106 1 tx.v tx.len y.ptrs * (row pb 78 oc * (HdC lev raw toks i d tb * F)))))) := by
  obtain ⟨y, hf, h1⟩ := dcl_iff.1 h
  have h2 : Sat w (HdD lev raw toks i y.items y.ptrs * (row p 96 y.x.cells * (row y.d 341 [.int .i64 0, .int .i64 0, y.inn.v, .map y.x.links] * (arr 70 1 y.inn.v y.inn.len y.items * (arr 106 1 tx.v tx.len y.ptrs * (row pb 78 oc * F)))))) := h1.cast (by
    generalize HdD lev raw toks i y.items y.ptrs = Y
    ac_rfl)
  obtain ⟨⟨d, tb⟩, h3⟩ := h2.ex
  obtain ⟨⟨e1, e2⟩, h4⟩ := (h3.cast (star_assoc _ _ _)).pur
  refine ⟨y, d, tb, hf, e1, e2, h4.cast ?_⟩
  generalize HdC lev raw toks i d tb = Y
  ac_rfl

theorem hdT_mk {w : World} {pb p lev i : Nat} {oc : List Value} {raw : List UInt8} {toks : List Tok} {tx : SV} {F : HP} (y : DC) (d tb : Nat) (hf : y.fit pb tx) (e1 : y.items = [.iface 233 (.pointer (some ⟨d, 0, none⟩))]) (e2 : y.ptrs = [.pointer (some ⟨tb, 0, none⟩)])
    (h : Sat w (row p 96 y.x.cells * (row y.d 341 [.int .i64 0, .int .i64 0, y.inn.v, .map y.x.links] * (arr 70 1 y.inn.v y.inn.len y.items * (arr 106 1 tx.v tx.len y.ptrs * (row pb 78 oc * (HdC lev raw toks i d tb * F))))))) : Sat w (HdT pb oc lev raw toks p tx i * F) := by
  refine dcl_iff.2 ⟨y, hf, ?_⟩
  have h2 : Sat w (HdD lev raw toks i y.items y.ptrs * (row p 96 y.x.cells * (row y.d 341 [.int .i64 0, .int .i64 0, y.inn.v, .map y.x.links] * (arr 70 1 y.inn.v y.inn.len y.items * (arr 106 1 tx.v tx.len y.ptrs * (row pb 78 oc * F)))))) := by
    refine Sat.ex_mk (d, tb) ?_
    rw [star_assoc, pur_star ⟨e1, e2⟩]
    refine h.cast ?_
    generalize HdC lev raw toks i d tb = Y
    ac_rfl
  refine h2.cast ?_
  generalize HdD lev raw toks i y.items y.ptrs = Y
  ac_rfl

theorem head_ends (pb : Nat) (o : Opt) (G0 : HP) (text : List UInt8) (lev : Nat) (raw : List UInt8) (toks : List Tok) (ht : HdText text lev raw) (hin : InlOf o raw toks) :
    EndsP o.pcells pb (HdK pb o.pcells lev raw toks G0) (fun p tx i => HdT pb o.pcells lev raw toks p tx i * G0) text where
  close := by
    intro p w F hs
    have hk : HdK pb o.pcells lev raw toks G0 p (B.lines text) = HdK1 pb o.pcells lev raw toks p * G0 := by
      unfold HdK
      rw [if_neg (by rw [ht.lines]; simp)]
    rw [hk] at hs
    refine (trimStack_w p 0 1 (by decide) (by decide) (fun k => if k = 1 then HdK1 pb o.pcells lev raw toks p else Sl.ex fun tx : SV => Sl.pur (tx.len ≤ 1000000000) * Dcl0 pb o.pcells (HdD lev raw toks 0) p tx) (G0 * F) ?_ ?_ w (hs.cast (star_assoc _ _ _))).mono ?_
    · intro k w _ h1 h
      have : k = 0 ∨ k = 1 := by omega
      rcases this with rfl | rfl
      · obtain ⟨tx, h⟩ := h.ex
        obtain ⟨_, h⟩ := (h.cast (star_assoc _ _ _)).pur
        obtain ⟨y, ⟨_, hy⟩, h⟩ := dcl0_iff.1 h
        have := (PSt.facts h).2.2.2.2.1
        rw [hy] at this
        exact ⟨_, _, this⟩
      · obtain ⟨x, h⟩ := h.ex
        obtain ⟨hh, _, h⟩ := dsp_iff.1 (h.cast (star_assoc _ _ _))
        exact ⟨_, _, (PSt.facts h).2.2.2.2.1⟩
    · intro k w _ h1 h
      obtain rfl : k = 0 := by omega
      obtain ⟨x, h⟩ := h.ex
      have h2 : Sat w (Dsp pb o.pcells ⟨1, 0, [rootOB x.r x.inn [.iface 233 (.pointer (some ⟨x.d, 0, none⟩))]], [.pointer (some ⟨x.tb, 0, none⟩)], none⟩ p * (HdD lev raw toks 0 [.iface 233 (.pointer (some ⟨x.d, 0, none⟩))] [.pointer (some ⟨x.tb, 0, none⟩)] * (G0 * F))) := by
        have h3 : Sat w (HdD lev raw toks 0 [.iface 233 (.pointer (some ⟨x.d, 0, none⟩))] [.pointer (some ⟨x.tb, 0, none⟩)] * (Dsp pb o.pcells ⟨1, 0, [rootOB x.r x.inn [.iface 233 (.pointer (some ⟨x.d, 0, none⟩))]], [.pointer (some ⟨x.tb, 0, none⟩)], none⟩ p * (G0 * F))) := by
          refine Sat.ex_mk (x.d, x.tb) ?_
          rw [star_assoc, pur_star ⟨rfl, rfl⟩]
          exact h.cast (by ac_rfl)
        refine h3.cast ?_
        generalize HdD lev raw toks 0 [.iface 233 (.pointer (some ⟨x.d, 0, none⟩))] [.pointer (some ⟨x.tb, 0, none⟩)] = Y
        ac_rfl
      refine (closeRoot_e pb p o.pcells _ x.r x.inn [.iface 233 (.pointer (some ⟨x.d, 0, none⟩))] (HdD lev raw toks 0) (G0 * F) w rfl h2).mono ?_
      rintro e w' ⟨⟨u, rfl⟩, tx, htx, h5⟩
      refine ⟨u, rfl, ?_⟩
      have h6 : Sat w' ((Sl.ex fun tx : SV => Sl.pur (tx.len ≤ 1000000000) * Dcl0 pb o.pcells (HdD lev raw toks 0) p tx) * (G0 * F)) := by
        refine Sat.ex_mk tx ?_
        rw [star_assoc, pur_star htx]
        exact h5
      exact h6
    · rintro e w' ⟨rfl, h⟩
      refine ⟨rfl, ?_⟩
      have h' : Sat w' ((Sl.ex fun tx : SV => Sl.pur (tx.len ≤ 1000000000) * Dcl0 pb o.pcells (HdD lev raw toks 0) p tx) * (G0 * F)) := h
      obtain ⟨tx, h⟩ := h'.ex
      obtain ⟨htx, h⟩ := (h.cast (star_assoc _ _ _)).pur
      obtain ⟨y, ⟨hy, _⟩, h⟩ := dcl0_iff.1 h
      have h7 : Sat w' (HdT pb o.pcells lev raw toks p tx 0 * (G0 * F)) := dcl_iff.2 ⟨y, hy, h⟩
      exact ⟨tx, htx, h7.cast (star_assoc _ _ _).symm⟩
  state := by
    intro p tx i w F h
    obtain ⟨y, d, tb, hf, e1, e2, h1⟩ := hdT_iff (h.cast (star_assoc _ _ _))
    refine ⟨y.x, row y.d 341 [.int .i64 0, .int .i64 0, y.inn.v, .map y.x.links] * (arr 70 1 y.inn.v y.inn.len y.items * (arr 106 1 tx.v tx.len y.ptrs * (HdC lev raw toks i d tb * G0))), hf.2.2.1, h1.cast ?_⟩
    generalize HdC lev raw toks i d tb = Y
    ac_rfl
  text := by
    intro p tx i w F h hi
    obtain ⟨y, d, tb, hf, e1, e2, h1⟩ := hdT_iff (h.cast (star_assoc _ _ _))
    have hf' := hf
    obtain ⟨g1, g2, g3, g4, g5, g6, g7, g8⟩ := hf
    have htl : tx.len = 1 := by rw [g6, e2]; rfl
    obtain rfl : i = 0 := by omega
    have hfr : HdC lev raw toks 0 d tb = row d 236 [.int .i64 1, .int .i64 1, .int .i64 lev, .pointer (some ⟨tb, 0, none⟩), .string ⟨#[]⟩] * row tb 111 [.int .i64 1, .int .i64 1, .slice none 0 0, .string (B.bs raw)] := congrArg (row d 236 _ * ·) (star_emp _)
    rw [hfr] at h1
    have h2 := h1.cast (show _ = arr 106 1 tx.v tx.len y.ptrs * (row tb 111 [.int .i64 1, .int .i64 1, .slice none 0 0, .string (B.bs raw)] * (row p 96 y.x.cells * (row y.d 341 [.int .i64 0, .int .i64 0, y.inn.v, .map y.x.links] * (arr 70 1 y.inn.v y.inn.len y.items * (row pb 78 o.pcells * (row d 236 [.int .i64 1, .int .i64 1, .int .i64 lev, .pointer (some ⟨tb, 0, none⟩), .string ⟨#[]⟩] * (G0 * F))))))) from by ac_rfl)
    rcases h2.arr_cases with ⟨_, h0, _, _⟩ | ⟨a, cap, junk, hv, _, _, _, _, hr⟩
    · omega
    have hta : tx.a = some ⟨a, 0, none⟩ := by
      unfold SV.v at hv
      injection hv
    refine ⟨a, tb, B.bs raw, hta, hr.cell 0 (by rw [e2]; rfl), h2.swap.cell 3 rfl, ?_⟩
    have h3 := h1.cast (show _ = row p 96 y.x.cells * (row pb 78 o.pcells * (row tb 111 [.int .i64 1, .int .i64 1, .slice none 0 0, .string (B.bs raw)] * (arr 106 1 tx.v tx.len y.ptrs * (row y.d 341 [.int .i64 0, .int .i64 0, y.inn.v, .map y.x.links] * (arr 70 1 y.inn.v y.inn.len y.items * (row d 236 [.int .i64 1, .int .i64 1, .int .i64 lev, .pointer (some ⟨tb, 0, none⟩), .string ⟨#[]⟩] * (G0 * F))))))) from by ac_rfl)
    refine (hin p pb y.x _ w g2 h3).mono ?_
    rintro e w' ⟨x, L, rfl, hk, h4⟩
    have h5 := h4.cast (show _ = row tb 111 [.int .i64 1, .int .i64 1, .slice none 0 0, .string (B.bs raw)] * (InlsAt L toks * (row p 96 x.cells * (row pb 78 o.pcells * (arr 106 1 tx.v tx.len y.ptrs * (row y.d 341 [.int .i64 0, .int .i64 0, y.inn.v, .map y.x.links] * (arr 70 1 y.inn.v y.inn.len y.items * (row d 236 [.int .i64 1, .int .i64 1, .int .i64 lev, .pointer (some ⟨tb, 0, none⟩), .string ⟨#[]⟩] * (G0 * F)))))))) from by
      generalize InlsAt L toks = Y
      ac_rfl)
    refine ⟨L, rfl, ⟨_, h5.cell 2 rfl⟩, h5.frozen 2, ?_⟩
    have h6 := h5.set 2 L.v
    obtain ⟨k1, k2, k3, k4, k5, k6, k7, k8, k9⟩ := hk
    have h7 : Sat (w'.setCell ⟨tb, 2, none⟩ L.v) (HdT pb o.pcells lev raw toks p tx 1 * (G0 * F)) := by
      refine hdT_mk ⟨x, y.d, y.inn, y.items, y.ptrs⟩ d tb ⟨by rw [k2]; exact g1, by rw [k1]; exact g2, by rw [k8]; exact g3, g4, g5, g6, g7, by rw [k9]; exact g8⟩ e1 e2 ?_
      show Sat (w'.setCell ⟨tb, 2, none⟩ L.v) (row p 96 x.cells * (row y.d 341 [.int .i64 0, .int .i64 0, y.inn.v, .map x.links] * (arr 70 1 y.inn.v y.inn.len y.items * (arr 106 1 tx.v tx.len y.ptrs * (row pb 78 o.pcells * (HdC lev raw toks 1 d tb * (G0 * F)))))))
      have hrd : HdC lev raw toks 1 d tb = row d 236 [.int .i64 1, .int .i64 1, .int .i64 lev, .pointer (some ⟨tb, 0, none⟩), .string ⟨#[]⟩] * TX.read ⟨tb, 1, 1, raw, toks⟩ := congrArg (row d 236 _ * ·) (star_emp _)
      rw [hrd, k3]
      have h8 : Sat (w'.setCell ⟨tb, 2, none⟩ L.v) (TX.read ⟨tb, 1, 1, raw, toks⟩ * _) := Sat.ex_mk L (h6.cast (star_assoc _ _ _).symm)
      refine h8.cast ?_
      generalize TX.read ⟨tb, 1, 1, raw, toks⟩ = Y
      ac_rfl
    exact h7.cast (star_assoc _ _ _).symm

theorem head_prints (o : Opt) (G0 : HP) (text : List UInt8) (lev : Nat) (raw : List UInt8) (toks : List Tok) (h1 : 1 ≤ lev) (h6 : lev ≤ 6) (hid : o.headID = false) (ht : HdText text lev raw) (hin : InlOf o raw toks) (hsz : text.length ≤ 1000000000) (hnul : (0 : UInt8) ∉ text)
    (hn : toks.length ≤ 1000000000) (hc : ∀ x ∈ toks, (∀ s, x ≠ .code s) ∧ x.txt.length ≤ 1000000000) (hl : (headHTML lev (htmls toks)).length ≤ 1000000000000) : PrintsP o.pcells G0 (B.bs text) (B.bs (headHTML lev (htmls toks))) where
  size := by rw [B.bs_size]; exact hsz
  nul := by rw [B.bs_data]; exact B.no_nul hnul
  run := by
    intro pb
    rw [B.bs_data]
    refine ⟨HdK pb o.pcells lev raw toks G0, fun p tx i => HdT pb o.pcells lev raw toks p tx i * G0, head_lines pb o.pcells G0 text lev raw toks (by simp [Opt.pcells, hid]) ht, head_ends pb o G0 text lev raw toks ht hin, ?_⟩
    intro p tx root w G hs hr
    obtain ⟨y, d, tb, hf, e1, e2, h2⟩ := hdT_iff (hs.cast (star_assoc _ _ _))
    obtain ⟨g1, g2, g3, g4, g5, g6, g7, g8⟩ := hf
    have htl : tx.len = 1 := by rw [g6, e2]; rfl
    rw [htl] at h2
    have hrd : HdC lev raw toks 1 d tb = row d 236 [.int .i64 1, .int .i64 1, .int .i64 lev, .pointer (some ⟨tb, 0, none⟩), .string ⟨#[]⟩] * TX.read ⟨tb, 1, 1, raw, toks⟩ := congrArg (row d 236 _ * ·) (star_emp _)
    rw [hrd] at h2
    have hr' := h2.cell 1 (v := .pointer y.x.root) rfl
    rw [hr, g1] at hr'
    have hr2 : root = some ⟨y.d, 0, none⟩ := by injection hr' with e; injection e
    subst hr2
    have h3 := h2.cast (show _ = row y.d 341 [.int .i64 0, .int .i64 0, y.inn.v, .map y.x.links] * (arr 70 1 y.inn.v y.inn.len y.items * ((row d 236 [.int .i64 1, .int .i64 1, .int .i64 lev, .pointer (some ⟨tb, 0, none⟩), .string ⟨#[]⟩] * (TX.read ⟨tb, 1, 1, raw, toks⟩ * emp)) * ((G0 * G) * (row p 96 y.x.cells * (arr 106 1 tx.v 1 y.ptrs * row pb 78 o.pcells))))) from by
      rw [star_emp]
      generalize TX.read ⟨tb, 1, 1, raw, toks⟩ = Y
      ac_rfl)
    refine (toHTML_w (fun _ => True) y.d (.int .i64 0) (.int .i64 0) (.map y.x.links) y.inn y.items [headHTML lev (htmls toks)] _ _ w g4 g5 h3 (by rw [e1]; rfl) ?_ (fun _ _ => trivial) (by simpa using hl)).mono ?_
    · intro i v o hv ho
      rw [e1] at hv
      cases i with
      | zero =>
        simp at hv ho
        subst hv; subst ho
        exact prt_head (t := ⟨tb, 1, 1, raw, toks⟩) h1 h6 hn hc
      | succ i => simp at hv
    · rintro e w' ⟨rfl, h5⟩
      exact ⟨by simp, h5.left⟩

end Go.Proofs.YtmdabdpghcjplaaGreatDoor

/- The text of FnHeading, from its parts: its line, its inlines, its HTML. -/
namespace Go.Proofs.YtmdabdpghcjplaaGreatDoor
open Go.RowKit

theorem slTok_merge : ∀ (s p : List UInt8), mergeT (slTok p s) = slTok p s
  | [], p => by
    unfold slTok flush
    split <;> rfl
  | c :: t, p => by
    unfold slTok
    split
    · have ih := slTok_merge t []
      unfold flush
      split
      · show mergeT (.esc [c] :: slTok [] t) = _
        rw [mergeT_nonplain _ rfl, ih]; rfl
      · show mergeT (.plain p :: .esc [c] :: slTok [] t) = _
        unfold mergeT
        rw [mergeT_nonplain _ rfl, ih]; rfl
    · exact slTok_merge t (p ++ [c])

theorem slTok_apart : ∀ (s p : List UInt8) (k : Nat) (a b : Tok), (slTok p s)[k]? = some a → (slTok p s)[k + 1]? = some b → a.isPlain = true → b.isPlain = false
  | [], p, k, a, b, _, hb, _ => by
    unfold slTok flush at hb
    split at hb <;> simp at hb
  | c :: t, p, k, a, b, ha, hb, hp => by
    unfold slTok at ha hb
    split at ha
    · next hc =>
      rw [if_pos hc] at hb
      unfold flush at ha hb
      split at ha
      · next hn =>
        rw [if_pos hn, List.nil_append] at hb
        rw [List.nil_append] at ha
        cases k with
        | zero => simp at ha; subst ha; cases hp
        | succ k => exact slTok_apart t [] k a b (by simpa using ha) (by simpa using hb) hp
      · next hn =>
        rw [if_neg hn, List.singleton_append] at hb
        rw [List.singleton_append] at ha
        cases k with
        | zero => simp at hb; subst hb; rfl
        | succ k =>
          cases k with
          | zero => simp at ha; subst ha; cases hp
          | succ k => exact slTok_apart t [] k a b (by simpa using ha) (by simpa using hb) hp
    · next hc =>
      rw [if_neg hc] at hb
      exact slTok_apart t (p ++ [c]) k a b ha hb hp

theorem slTok_runs (s p : List UInt8) : Runs (fun n => n = 1) (slTok p s) := by
  intro a i h1 h2 h3
  apply Classical.byContradiction
  intro h4
  have h4' : ¬ (i - a = 1) := h4
  have l1 : a < (slTok p s).length := by omega
  have l2 : a + 1 < (slTok p s).length := by omega
  have m : ∀ k, a ≤ k → (hk : k < i) → (hl : k < (slTok p s).length) → (slTok p s)[k].isPlain = true := by
    intro k hk1 hk2 hl
    refine h3 _ (List.mem_of_getElem? (i := k - a) ?_)
    rw [List.getElem?_drop, show a + (k - a) = k by omega, List.getElem?_take, if_pos hk2]
    simp [hl]
  have q1 := m a (Nat.le_refl _) h1 l1
  have q2 := m (a + 1) (by omega) (by omega) l2
  have := slTok_apart s p a _ _ (List.getElem?_eq_getElem l1) (List.getElem?_eq_getElem l2) q1
  rw [q2] at this
  cases this

theorem slTok_facts : ∀ (s p : List UInt8), (slTok p s).length ≤ 2 * s.length + 1 ∧ ∀ x ∈ slTok p s, (∀ u, x ≠ .code u) ∧ x.txt.length ≤ p.length + s.length
  | [], p => by
    unfold slTok flush
    split
    · exact ⟨Nat.zero_le _, fun x hx => by cases hx⟩
    · refine ⟨Nat.le_refl _, fun x hx => ?_⟩
      obtain rfl := List.mem_singleton.1 hx
      exact ⟨fun u h => (by cases h), Nat.le_refl _⟩
  | c :: t, p => by
    unfold slTok
    split
    · obtain ⟨h1, h2⟩ := slTok_facts t []
      have hf : (flush p).length ≤ 1 := by unfold flush; split <;> simp
      refine ⟨by simp only [List.length_append, List.length_cons]; omega, fun x hx => ?_⟩
      rcases List.mem_append.1 hx with hx | hx
      · unfold flush at hx
        split at hx
        · cases hx
        · obtain rfl := List.mem_singleton.1 hx
          exact ⟨fun u h => (by cases h), by show p.length ≤ _; simp⟩
      · rcases List.mem_cons.1 hx with rfl | hx
        · exact ⟨fun u h => (by cases h), by show 1 ≤ _; simp; omega⟩
        · obtain ⟨q1, q2⟩ := h2 x hx
          exact ⟨q1, by simp at q2 ⊢; omega⟩
    · obtain ⟨h1, h2⟩ := slTok_facts t (p ++ [c])
      refine ⟨by simp at h1 ⊢; omega, fun x hx => ?_⟩
      obtain ⟨q1, q2⟩ := h2 x hx
      exact ⟨q1, by simp at q2 ⊢; omega⟩

theorem slTok_ne : ∀ (s p : List UInt8), (p ≠ [] ∨ s ≠ []) → slTok p s ≠ []
  | [], p, h => by
    unfold slTok flush
    rcases h with h | h
    · rw [if_neg h]; simp
    · exact absurd rfl h
  | c :: t, p, _ => by
    unfold slTok
    split
    · simp
    · exact slTok_ne t (p ++ [c]) (.inl (by simp))

theorem one_line {t : List UInt8} (hne : t ≠ []) (h : ∀ c ∈ t, c ≠ 10 ∧ c ≠ 13) : B.lines t = [(t, 0)] := by
  have := lines_join [t] (fun x hx => by obtain rfl := List.mem_singleton.1 hx; exact ⟨fun h1 => (h 10 h1).1 rfl, fun h1 => (h 13 h1).2 rfl⟩) (by simpa using hne)
  exact this

theorem Full.headText {s : List UInt8} (h : Full s) (hz : s.length ≤ 2000) {n m : Nat} (hn : 1 ≤ n) (hn6 : n ≤ 6) (hm : m ≤ 8) : HdText (headTxt n m s) n (atxText (slashed s ++ tailM m)) := by
  have hsl := (slashed_len s).2
  have htl : (tailM m).length ≤ 9 := by unfold tailM; split <;> simp; omega
  have hr : (slashed s ++ tailM m).length ≤ 1000000 := by rw [List.length_append]; omega
  obtain ⟨v, h1, h2, h3, h4, h5⟩ := head_line hn hn6 (slashed s ++ tailM m) 0 (by omega)
  refine ⟨one_line ?_ ?_, h5, h3, h4, v, h1, by rw [h2]; exact hr, by rw [h2]⟩
  · unfold headTxt; simp
  · intro c hc
    have key : c = 35 ∨ c = 32 ∨ c = 92 ∨ c ∈ s := by
      unfold headTxt at hc
      rcases List.mem_append.1 hc with hc | hc
      · exact .inl (List.eq_of_mem_replicate hc)
      · rcases List.mem_cons.1 hc with hc | hc
        · exact .inr (.inl hc)
        · rcases List.mem_append.1 hc with hc | hc
          · rcases slashed_mem hc with hc | hc
            · exact .inr (.inr (.inl hc))
            · exact .inr (.inr (.inr hc))
          · unfold tailM at hc
            split at hc
            · cases hc
            · rcases List.mem_cons.1 hc with hc | hc
              · exact .inr (.inl hc)
              · exact .inl (List.eq_of_mem_replicate hc)
    rcases key with rfl | rfl | rfl | hc
    · decide
    · decide
    · decide
    · have := (h.all c hc).1
      have a1 : 32 ≤ c.toNat := this
      refine ⟨?_, ?_⟩ <;> (rintro rfl; simp at a1)

theorem Full.inl {s : List UInt8} (h : Full s) (hz : s.length ≤ 2000) (o : Opt) (ho : o.auto = false) (m : Nat) : InlOf o (atxText (slashed s ++ tailM m)) (slTok [] s) := by
  intro p pb x0 F w hx hs
  have hsl := (slashed_len s).2
  have hsc : Scan o (slashed s) 0 0 (slTok [] s) := by
    have := scan_slashed o s [] 0 (Nat.le_refl _) (fun c hc => (h.all c hc).1)
    simpa using this
  have hra : (atxText (slashed s ++ tailM m)).length ≤ 100000000 := by
    rw [h.atx m]
    split
    · omega
    · simp; omega
  have := inline_w (fun n => n = 1) merges_one p pb o (atxText (slashed s ++ tailM m)) (slashed s) (slTok [] s) x0 F w hx hra (h.trim m) (by omega) ho (slTok_ne s [] (.inr h.ne)) hsc (slTok_runs s []) hs
  rw [slTok_merge] at this
  exact this

/-- The HTML of the law's text. -/
theorem Full.prints {s : List UInt8} (h : Full s) (hz : s.length ≤ 2000) {n m : Nat} (hn : 1 ≤ n) (hn6 : n ≤ 6) (hm : m ≤ 8) (G0 : Sl.HP) : PrintsP plainO.pcells G0 (B.bs (headTxt n m s)) (B.bs (headHTML n (htmlPairs.esc s))) := by
  have hht : htmls (slTok [] s) = htmlPairs.esc s := by rw [slTok_html]; rfl
  have hsl := (slashed_len s).2
  have htl : (tailM m).length ≤ 9 := by unfold tailM; split <;> simp; omega
  have hel := html_esc_len s
  obtain ⟨f1, f2⟩ := slTok_facts s []
  have := head_prints plainO G0 (headTxt n m s) n _ (slTok [] s) hn hn6 rfl (h.headText hz hn hn6 hm) (h.inl hz plainO rfl m) (by unfold headTxt; simp; omega) ?_ (by omega) (fun x hx => ⟨(f2 x hx).1, by have := (f2 x hx).2; simp at this; omega⟩) (by rw [hht]; unfold headHTML; simp; omega)
  · rw [hht] at this
    exact this
  · intro hc
    unfold headTxt at hc
    rcases List.mem_append.1 hc with hc | hc
    · exact absurd (List.eq_of_mem_replicate hc) (by decide)
    · rcases List.mem_cons.1 hc with hc | hc
      · exact absurd hc (by decide)
      · rcases List.mem_append.1 hc with hc | hc
        · rcases slashed_mem hc with hc | hc
          · exact absurd hc (by decide)
          · have a1 : 32 ≤ (0 : UInt8).toNat := (h.all 0 hc).1
            simp at a1
        · unfold tailM at hc
          split at hc
          · cases hc
          · rcases List.mem_cons.1 hc with hc | hc
            · exact absurd hc (by decide)
            · exact absurd (List.eq_of_mem_replicate hc) (by decide)

end Go.Proofs.YtmdabdpghcjplaaGreatDoor
