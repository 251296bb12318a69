/- Pattern of the reference at any text; the laws FnTranslateEmpty and FnCount. -/
import Derived.Test.YtbomlhhpokknaaaDoorTPatA
import Derived.Test.YtbomlhhpokknaaaDoorTPatB
import Derived.Test.YtbomlhhpokknaaaDoorTCnt
namespace Go.Proofs.YtbomlhhpokknaaaDoor
open Go.RowKit U8
open Go.Lib hiding intOf

theorem pat_enc (tt : Bool) (rs : List Nat) (w : World) (hs : Scs rs) (hl : (enc rs).length ≤ 2147483647) (hT : Tabs w) :
    Calls Tryd.prog 29 #[.string (txt (enc rs)), .bool tt] w (PatPost (pat tt rs) (notOf tt rs) w) := by
  cases h : notOf tt rs with
  | false => exact pat_A tt rs w hs hl h hT
  | true => exact pat_B tt rs w hs hl h hT
def patS (tt : Bool) (s : ByteArray) : Option (List Nat × Bool) :=
  if validD s.data.toList then (match pat tt (rns s.data.toList) with | some L => some (L, notOf tt (rns s.data.toList)) | none => none) else none
theorem patS_enc (tt : Bool) (rs : List Nat) (hs : Scs rs) : patS tt (txt (enc rs)) = match pat tt rs with | some L => some (L, notOf tt rs) | none => none := by
  have hv : validD (txt (enc rs)).data.toList = true := by rw [txt_list]; exact valid_enc rs hs
  have hr : rns (txt (enc rs)).data.toList = rs := by rw [txt_list]; exact rns_enc rs hs
  unfold patS
  rw [hv, hr]; rfl
theorem patS_rd (tt : Bool) : RdOf tt (patS tt) := by
  intro s L nt h
  cases hv : validD s.data.toList with
  | false => unfold patS at h; rw [hv] at h; cases h
  | true =>
    obtain ⟨rs, hsc, rfl⟩ := text_chars hv
    rw [patS_enc tt rs hsc] at h
    cases hp : pat tt rs with
    | none => rw [hp] at h; cases h
    | some L' => rw [hp] at h; cases h; exact ⟨rs, hsc, rfl, hp, rfl⟩
theorem patS_len (tt : Bool) (s : ByteArray) (hs : s.size ≤ 2147483647) : ∀ L nt, patS tt s = some (L, nt) → L.length ≤ 20000000000000 := by
  intro L nt h
  obtain ⟨ps, hsc, rfl, hp, _⟩ := patS_rd tt s L nt h
  have h1 := pat_len hp
  have h2 := enc_length_ge ps
  rw [txt_size] at hs
  omega
theorem pat_txt (tt : Bool) (s : ByteArray) (w : World) (hs : s.size ≤ 2147483647) (hT : Tabs w) : Calls Tryd.prog 29 #[.string s, .bool tt] w (SetPost (patS tt s) w) := by
  cases hv : validD s.data.toList with
  | false =>
    refine (pat_bad tt s w hs hv hT).mono ?_
    rintro e w' ⟨hb, h⟩
    exact ⟨hb, .inl ⟨by unfold patS; rw [hv]; rfl, _, _, _, _, h⟩⟩
  | true =>
    obtain ⟨rs, hsc, rfl⟩ := text_chars hv
    refine (pat_enc tt rs w hsc (by rw [txt_size] at hs; exact hs) hT).mono ?_
    rintro e w' ⟨hb, h1, h2⟩
    refine ⟨hb, ?_⟩
    rw [patS_enc tt rs hsc]
    cases hp : pat tt rs with
    | none => exact .inl ⟨rfl, h1 hp⟩
    | some L => exact .inr ⟨L, notOf tt rs, rfl, h2 L hp⟩
theorem patS_of : PatOf (patS false) := fun p W hs hT => ⟨patS_len false p hs, pat_txt false p W hs hT⟩

theorem law_translateEmpty (s q : ByteArray) (w : World) (hsz : s.size ≤ 140737488351232) (hqz : q.size ≤ 140737488351232) (hT : Tabs w) :
    Calls Tryd.prog 7 #[.string s, .string q] w fun e w' => e = .returned (.bool true) ∧ Below w.heap.size w w' :=
  empty_of (patS false) patS_of s q w hsz hqz hT
theorem law_count (s q : ByteArray) (w : World) (hsz : s.size ≤ 140737488351232) (hqz : q.size ≤ 140737488351232) (hT : Tabs w) :
    Calls Tryd.prog 4 #[.string s, .string q] w fun e w' => e = .returned (.bool true) ∧ Below w.heap.size w w' :=
  count_of (patS false) patS_of (patS_rd false) s q w hsz hqz hT

end Go.Proofs.YtbomlhhpokknaaaDoor
