/- The text of FnCodePoint: its line, its inlines, its HTML. -/
import Derived.Test.YtcmpcjffmccllaaGreatDoorQ1
import Derived.Test.YtcmpcjffmccllaaGreatDoorEd
import Derived.Test.YtcmpcjffmccllaaGreatDoorDs
namespace Go.Proofs.YtcmpcjffmccllaaGreatDoor
open Go.RowKit

def decRef (n : Nat) : List UInt8 := 38 :: 35 :: (digsF 10 6 n ++ [59])
def hexRef (n : Nat) : List UInt8 := 38 :: 35 :: 120 :: (digsF 16 5 n ++ [59])
def cpTxt (ref : List UInt8) : List UInt8 := 120 :: (ref ++ [120])

/-- A reference to v, of marks and digits. -/
structure RefOk (ref : List UInt8) (v : Nat) : Prop where
  num : NumRef (cpTxt ref) 1 v (1 + ref.length)
  pos : 1 ≤ ref.length
  len : ref.length ≤ 20
  all : ∀ c ∈ ref, 33 ≤ c.toNat ∧ c.toNat ≤ 126

theorem digC_range {base d : Nat} (hb : base ≤ 16) (h : d < base) : 48 ≤ (digC d).toNat ∧ (digC d).toNat ≤ 102 := by
  rw [digC_toNat (by omega)]
  split <;> omega

theorem decRef_ok {n : Nat} (h : n < 10000000) : RefOk (decRef n) n := by
  have hl := digsF_len 10 6 n
  have hlen : (decRef n).length = (digsF 10 6 n).length + 3 := by unfold decRef; simp
  refine ⟨?_, by omega, by omega, ?_⟩
  · have := NumRef.dec (s := cpTxt (decRef n)) (i := 1) (v := n) (digsF 10 6 n) [120] (by unfold cpTxt decRef; simp) (fun c hc => by
      obtain ⟨d, hd, rfl⟩ := digsF_mem (by decide) (by decide) 6 n (by omega) c hc
      have e := digC_toNat (d := d) (by omega)
      rw [if_pos hd] at e
      have a1 : (48 : UInt8).toNat ≤ (digC d).toNat := by rw [e]; show 48 ≤ _; omega
      have a2 : (digC d).toNat ≤ (57 : UInt8).toNat := by rw [e]; show _ ≤ 57; omega
      exact ⟨a1, a2⟩) hl.1 hl.2 (digsF_atoi (by omega))
    rw [hlen, show 1 + ((digsF 10 6 n).length + 3) = 1 + (digsF 10 6 n).length + 3 by omega]
    exact this
  · intro c hc
    unfold decRef at hc
    simp only [List.mem_cons, List.mem_append, List.not_mem_nil, or_false] at hc
    rcases hc with rfl | rfl | hc | rfl
    · decide
    · decide
    · obtain ⟨d, hd, rfl⟩ := digsF_mem (by decide) (by decide) 6 n (by omega) c hc
      have := digC_range (by decide) hd
      omega
    · decide

theorem hexRef_ok {n : Nat} (h : n < 16777216) : RefOk (hexRef n) n := by
  have hl := digsF_len 16 5 n
  have hlen : (hexRef n).length = (digsF 16 5 n).length + 4 := by unfold hexRef; simp
  refine ⟨?_, by omega, by omega, ?_⟩
  · have := NumRef.hex (s := cpTxt (hexRef n)) (i := 1) (v := n) (digsF 16 5 n) [120] (by unfold cpTxt hexRef; simp) hl.1 hl.2 (digsF_hex 5 n (by omega))
    rw [hlen, show 1 + ((digsF 16 5 n).length + 4) = 1 + (digsF 16 5 n).length + 4 by omega]
    exact this
  · intro c hc
    unfold hexRef at hc
    simp only [List.mem_cons, List.mem_append, List.not_mem_nil, or_false] at hc
    rcases hc with rfl | rfl | rfl | hc | rfl
    · decide
    · decide
    · decide
    · obtain ⟨d, hd, rfl⟩ := digsF_mem (by decide) (by decide) 5 n (by omega) c hc
      have := digC_range (by decide) hd
      omega
    · decide

theorem RefOk.mem {ref : List UInt8} {v : Nat} (h : RefOk ref v) : ∀ c ∈ cpTxt ref, 33 ≤ c.toNat ∧ c.toNat ≤ 126 := by
  intro c hc
  unfold cpTxt at hc
  simp only [List.mem_cons, List.mem_append, List.not_mem_nil, or_false] at hc
  rcases hc with rfl | hc | rfl
  · decide
  · exact h.all c hc
  · decide

theorem noMark_120 : NoMark 120 := by constructor <;> decide

theorem RefOk.text {ref : List UInt8} {v : Nat} (h : RefOk ref v) : PaText (cpTxt ref) 120 (ref ++ [120]) := by
  have hl : (ref ++ [120]).length ≤ 1000000 := by
    have := h.len
    simp; omega
  have hh : Heads (LineOf (120 :: (ref ++ [120]), 0)) 120 := heads_lineOf (by decide) (by decide)
  refine pa_text hl (by decide) (by decide) noMark_120 (fun x hx => ?_) (noItemL (lineOf_ok _ _ (by simp only [List.length_cons]; omega)) hh (by unfold Ln.noItem; decide))
  have := h.mem x hx
  refine ⟨?_, ?_⟩ <;> (rintro rfl; simp at this)

theorem encode_size (r : Int) : (Utf8.encode r).size ≤ 4 := by
  unfold Utf8.encode
  simp only []
  repeat' split
  all_goals first | exact (by decide : (1 : Nat) ≤ 4) | exact (by decide : (2 : Nat) ≤ 4) | exact (by decide : (3 : Nat) ≤ 4) | exact (by decide : (4 : Nat) ≤ 4)

def cpOut (u : List UInt8) : List UInt8 := 120 :: (u ++ [120])

theorem RefOk.inl {ref u : List UInt8} {v : Nat} (h : RefOk ref v) (hu : ∀ r : Int, (fixRune v : Int) = r → B.bs u = Utf8.encode r) (hul : u.length ≤ 4) (o : Opt) (ho : o.auto = false) : InlOf o (cpTxt ref) [.plain (cpOut u)] := by
  have hlen : (cpTxt ref).length = ref.length + 2 := by unfold cpTxt; simp
  have hrl := h.len
  have hpos := h.pos
  have hst : loud o 120 = false := loud_still (by decide) (by decide)
  have h3 := Scan.stop (o := o) (s := cpTxt ref) (1 + ref.length) (by omega)
  have h2 : Scan o (cpTxt ref) (1 + ref.length) (1 + ref.length) [.plain [120]] := by
    have hd : (cpTxt ref).drop (1 + ref.length) = [120] := by
      unfold cpTxt
      rw [Nat.add_comm, List.drop_succ_cons, List.drop_left]
    rw [hd] at h3
    refine scan_still (s := cpTxt ref) (e := 1 + ref.length) 1 (1 + ref.length) (Nat.le_refl _) (by omega) (fun j hj => ?_) (by rw [show 1 + ref.length + 1 = (cpTxt ref).length by omega]; exact h3)
    obtain rfl : j = 0 := by omega
    refine ⟨120, ?_, hst⟩
    have := congrArg (fun x : List UInt8 => x[0]?) hd
    simpa using this
  have h1 := Scan.tok (o := o) (s := cpTxt ref) (i := 1) (e := 0) (j := 1 + ref.length) (by omega) (Nat.zero_le _) (by omega) (by omega) (.ent v (1 + ref.length) u h.num hu) h2
  have h0 := scan_still (s := cpTxt ref) (e := 0) 1 0 (Nat.le_refl _) (by omega) (fun j hj => by
    obtain rfl : j = 0 := by omega
    exact ⟨120, rfl, hst⟩) (by rw [Nat.zero_add]; exact h1)
  have ht : ((cpTxt ref).take 1).drop 0 = [120] := rfl
  rw [ht] at h0
  have hm : mergeT (flush [120] ++ .plain u :: [.plain [120]]) = [.plain (cpOut u)] := rfl
  have htrim : B.trimR (B.trimL (cpTxt ref)) = cpTxt ref := by
    unfold cpTxt
    exact trim_both (by decide) (by rw [← List.cons_append, List.getLast?_append]; rfl) (by decide)
  rw [← hm]
  refine inl_of_scan merges_some ho (by omega) htrim (by simp) h0 (runs_small ?_)
  have e : txts (flush [120] ++ .plain u :: [.plain [120]]) = [120] ++ (u ++ [120]) := by
    unfold txts
    simp [Tok.txt, flush]
  rw [e]
  simp; omega

theorem RefOk.prints {ref u : List UInt8} {v : Nat} (h : RefOk ref v) (hu : ∀ r : Int, (fixRune v : Int) = r → B.bs u = Utf8.encode r) (hul : u.length ≤ 4) (G0 : Sl.HP) : PrintsP plainO.pcells G0 (B.bs (cpTxt ref)) (B.bs (paraHTML (120 :: (htmlPairs.esc u ++ [120])))) := by
  have hel := html_esc_len u
  have hh : htmls [.plain (cpOut u)] = 120 :: (htmlPairs.esc u ++ [120]) := by
    show htmlPairs.esc (120 :: (u ++ [120])) ++ [] = _
    rw [List.append_nil, show (120 :: (u ++ [120]) : List UInt8) = [120] ++ (u ++ [120]) from rfl, esc_append, esc_append]
    rfl
  have := para_prints plainO G0 (cpTxt ref) 120 _ [.plain (cpOut u)] rfl h.text (h.inl hu hul plainO rfl) (fun hc => by have := h.mem 0 hc; simp at this) (by simp) (fun x hx => by
    obtain rfl := List.mem_singleton.1 hx
    show (cpOut u).length ≤ _
    unfold cpOut
    simp; omega) (by rw [hh]; unfold paraHTML; simp; omega)
  rw [hh] at this
  exact this

end Go.Proofs.YtcmpcjffmccllaaGreatDoor
