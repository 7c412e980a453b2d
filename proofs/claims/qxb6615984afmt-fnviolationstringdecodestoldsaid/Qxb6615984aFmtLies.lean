/-
  THE TEXT OF A VIOLATION LIES AS 'zzDecode' READS IT.
-/
import Derived.Test.Qxb6615984aFmtDec
import Derived.Test.Qxb6615984aFmtTold
namespace Go.Proofs.Qxb6615984aFmt
open Go.RowKit

theorem byte_of {s : ByteArray} {k : Nat} {c : UInt8} (h : k < s.size) (e : s.data.toList[k]? = some c) : s[k] = c := by
  rw [byte_at s k h] at e
  exact Option.some.inj e

theorem extract_of {s : ByteArray} {a b : Nat} {pre mid post : List UInt8} (hs : s.data.toList = pre ++ (mid ++ post)) (ha : pre.length = a) (hb : a + mid.length = b) : s.extract a b = ⟨mid.toArray⟩ := by
  apply ByteArray.ext
  apply Array.ext'
  rw [ByteArray.data_extract, Array.toList_extract, hs]
  subst ha; subst hb
  simp [List.extract]

theorem two_eq {a a' b b' : ByteArray} (line : Int) (h : a = a') (h' : b = b') : Ending.returned (.tuple #[.int .i64 line, .string a, .string b, .bool true]) = .returned (.tuple #[.int .i64 line, .string a', .string b', .bool true]) := by rw [h, h']

theorem size_of {s : ByteArray} {l : List UInt8} (hs : s.data.toList = l) : s.size = l.length := by
  rw [← hs]; exact (toList_size s).symm

theorem lies_of {s : ByteArray} {pre ds rule msg : List UInt8} (hs : s.data.toList = pre ++ (ds ++ (58 :: 32 :: (rule ++ 32 :: msg)))) (hp : pre.take 5 = [108, 105, 110, 101, 32])
    (hds : ∀ c ∈ ds, 48 ≤ c.toNat ∧ c.toNat ≤ 57) (hne : ds ≠ []) (hr : (32 : UInt8) ∉ rule) : Lies s pre.length ds.length rule.length (fun k => Plain.natOf (ds.take k)) := by
  have hz := size_of hs
  simp only [List.length_append, List.length_cons] at hz
  have hd : ∀ k (h : k < s.size), pre.length ≤ k → k < pre.length + ds.length → ∃ hk : k - pre.length < ds.length, s[k] = ds[k - pre.length] := by
    intro k h h1 h2
    refine ⟨by omega, byte_of h ?_⟩
    rw [hs, List.getElem?_append_right h1, List.getElem?_append_left (by omega), List.getElem?_eq_getElem (by omega)]
  refine ⟨by omega, ?_, ?_, ?_, ?_, rfl, ?_, ?_, ?_, ?_, ?_⟩
  · refine extract_of (pre := []) (mid := pre.take 5) (post := pre.drop 5 ++ (ds ++ (58 :: 32 :: (rule ++ 32 :: msg)))) ?_ rfl ?_ |>.trans (by rw [hp])
    · rw [hs, List.nil_append, ← List.append_assoc (pre.take 5), List.take_append_drop]
    · rw [hp]; rfl
  · cases ds with
    | nil => exact absurd rfl hne
    | cons c l => simp
  · intro k h h1 h2
    obtain ⟨hk, e⟩ := hd k h h1 h2
    have := hds _ (List.getElem_mem hk)
    rw [e]
    omega
  · intro k h h1 h2
    obtain ⟨hk, e⟩ := hd k h h1 h2
    have := hds _ (List.getElem_mem hk)
    rw [e, List.take_succ_eq_append_getElem hk, Plain.natOf_snoc]
    omega
  · intro k hk
    show Plain.natOf (ds.take k) ≤ Plain.natOf (ds.take ds.length)
    rw [List.take_length]
    exact Plain.natOf_take_le _ _
  · intro h
    refine byte_of h ?_
    rw [hs, List.getElem?_append_right (by omega), List.getElem?_append_right (by omega), show pre.length + ds.length - pre.length - ds.length = 0 by omega]
    rfl
  · intro h
    refine byte_of h ?_
    rw [hs, List.getElem?_append_right (by omega), List.getElem?_append_right (by omega), show pre.length + ds.length + 1 - pre.length - ds.length = 1 by omega]
    rfl
  · intro k h h1 h2
    obtain ⟨i, hi⟩ : ∃ i, k - pre.length - ds.length = i + 1 + 1 := ⟨k - pre.length - ds.length - 2, by omega⟩
    have hk : i < rule.length := by omega
    have e : s[k] = rule[i] := by
      refine byte_of h ?_
      rw [hs, List.getElem?_append_right (by omega), List.getElem?_append_right (by omega), hi,
        List.getElem?_cons_succ, List.getElem?_cons_succ, List.getElem?_append_left hk]
      exact List.getElem?_eq_getElem hk
    rw [e]
    intro c
    exact hr (by rw [← c]; exact List.getElem_mem hk)
  · intro h
    refine byte_of h ?_
    rw [hs, List.getElem?_append_right (by omega), List.getElem?_append_right (by omega), show pre.length + ds.length + 2 + rule.length - pre.length - ds.length = rule.length + 1 + 1 by omega,
      List.getElem?_cons_succ, List.getElem?_cons_succ, List.getElem?_append_right (by omega), show rule.length - rule.length = 0 by omega]
    rfl

/-- 'zzDecode' reads a violation's text back. -/
theorem decode_text (line : Int) (rule msg : ByteArray) (w : World) (hl0 : -9223372036854775808 ≤ line) (hl1 : line ≤ 9223372036854775807) (hr : rule.size ≤ 1048576) (hm : msg.size ≤ 1048576) (hn : (32 : UInt8) ∉ rule.data.toList) :
    Calls Tryf.prog 11 #[.string (vBytes line rule msg)] w fun e w' => e = .returned (.tuple #[.int .i64 line, .string rule, .string msg, .bool true]) ∧ ∃ n, w' = w.drewN n := by
  have key : ∀ (pre ds : List UInt8), (vBytes line rule msg).data.toList = pre ++ (ds ++ (58 :: 32 :: (rule.data.toList ++ 32 :: msg.data.toList))) →
      (vBytes line rule msg).extract (pre.length + ds.length + 2) (pre.length + ds.length + 2 + rule.data.toList.length) = rule ∧
      (vBytes line rule msg).extract (pre.length + ds.length + 2 + rule.data.toList.length + 1) (vBytes line rule msg).size = msg := by
    intro pre ds hs
    refine ⟨?_, ?_⟩
    · refine (extract_of (pre := pre ++ ds ++ [58, 32]) (mid := rule.data.toList) (post := 32 :: msg.data.toList) ?_ ?_ rfl).trans ?_
      · rw [hs]; simp
      · simp; omega
      · rfl
    · refine (extract_of (pre := pre ++ ds ++ [58, 32] ++ rule.data.toList ++ [32]) (mid := msg.data.toList) (post := []) ?_ ?_ ?_).trans ?_
      · rw [hs]; simp
      · simp [-Array.length_toList]; omega
      · rw [size_of hs]; simp [-Array.length_toList]; omega
      · rfl
  have hlen : (vBytes line rule msg).size ≤ 4194304 := by
    have h3 := Lib.itoa_length_le line hl0 hl1
    have h4 := Plain.vText_length line rule.data.toList msg.data.toList
    rw [toList_size, toList_size] at h4
    have h5 : (vBytes line rule msg).size = (Plain.vText line rule.data.toList msg.data.toList).length := size_of rfl
    omega
  by_cases h : line < 0
  · have hs : (vBytes line rule msg).data.toList = [108, 105, 110, 101, 32, 45] ++ (Lib.decDigits line.natAbs ++ (58 :: 32 :: (rule.data.toList ++ 32 :: msg.data.toList))) := by
      show Plain.vText line rule.data.toList msg.data.toList = _
      unfold Plain.vText Lib.itoa
      rw [if_pos h]; simp
    have hV : Plain.natOf ((Lib.decDigits line.natAbs).take (Lib.decDigits line.natAbs).length) = line.natAbs := by rw [List.take_length, Plain.natOf_decDigits]
    have H := decode_neg (vBytes line rule msg) _ _ _ w (lies_of hs rfl (Plain.digit_decDigits _) (Plain.decDigits_ne _) hn)
      (fun h5 => byte_of h5 (by rw [hs]; rfl)) hlen (by rw [hV]; omega)
    obtain ⟨k1, k2⟩ := key _ _ hs
    refine H.mono fun e w' ⟨he, hw⟩ => ⟨?_, hw⟩
    rw [he]
    show Ending.returned (.tuple #[.int .i64 (-(Plain.natOf ((Lib.decDigits line.natAbs).take (Lib.decDigits line.natAbs).length) : Int)), _, _, _]) = _
    rw [hV]
    have e1 : -(line.natAbs : Int) = line := by omega
    rw [e1]
    exact two_eq line k1 k2
  · have hs : (vBytes line rule msg).data.toList = [108, 105, 110, 101, 32] ++ (Lib.decDigits line.toNat ++ (58 :: 32 :: (rule.data.toList ++ 32 :: msg.data.toList))) := by
      show Plain.vText line rule.data.toList msg.data.toList = _
      unfold Plain.vText Lib.itoa
      rw [if_neg h]; simp
    have hV : Plain.natOf ((Lib.decDigits line.toNat).take (Lib.decDigits line.toNat).length) = line.toNat := by rw [List.take_length, Plain.natOf_decDigits]
    have H := decode_pos (vBytes line rule msg) _ _ _ w (lies_of hs rfl (Plain.digit_decDigits _) (Plain.decDigits_ne _) hn)
      hlen (by rw [hV]; omega)
    obtain ⟨k1, k2⟩ := key _ _ hs
    refine H.mono fun e w' ⟨he, hw⟩ => ⟨?_, hw⟩
    rw [he]
    show Ending.returned (.tuple #[.int .i64 (Plain.natOf ((Lib.decDigits line.toNat).take (Lib.decDigits line.toNat).length) : Int), _, _, _]) = _
    rw [hV]
    have e1 : (line.toNat : Int) = line := by omega
    rw [e1]
    exact two_eq line k1 k2

end Go.Proofs.Qxb6615984aFmt
