/- writeNextUnescapedRune: one step of what ParseText reads. -/
import Derived.Test.YtlnimjpigghbmaaDoorFmt
import Derived.Test.YtlnimjpigghbmaaDoorUtfTabs
import Derived.Test.YtlnimjpigghbmaaDoorQuote
import Derived.Laws.Strings2
import Derived.Laws.BitsAllLaws
import Derived.Deep.QuietTactic
import Derived.BigQuiet
namespace Go.Proofs.YtlnimjpigghbmaaDoor
open Go Go.RowKit Go.Shelf

theorem hexB_low (a : Nat) (h : a < 10) : ((hexB a).toNat : Int) = 48 + a := by
  unfold hexB; rw [if_pos h, UInt8.toNat_ofNat']; omega
theorem hexB_high (a : Nat) (h : ¬ a < 10) (h' : a < 16) : ((hexB a).toNat : Int) = 87 + a := by
  unfold hexB; rw [if_neg h, UInt8.toNat_ofNat']; omega

set_option maxHeartbeats 1000000 in
theorem fromHex_any (a : Nat) (ha : a < 16) (w : World) :
    Calls Tryd.prog 38 #[.int .u8 (hexB a).toNat] w fun e w' => e = .returned (.tuple #[.int .u8 a, .bool true]) ∧ w' = w := by
  by_cases h : a < 10
  · rw [hexB_low a h]
    go_enter Tryd.func38, Tryd.ntmps38
    have h1 : (48 : Int) ≤ 48 + (a : Int) := by omega
    have h2 : 48 + (a : Int) ≤ 57 := by omega
    have h3 : IntKind.u8.wrap (48 + (a : Int) - 48) = a := by rw [IntKind.wrap_u8]; omega
    go_wp2
    refine bodyPost_ret (v := .tuple #[.int .u8 a, .bool true]) (by simp [results, Tryd.results38, go_sem]) rfl ⟨rfl, rfl⟩
  · rw [hexB_high a h ha]
    go_enter Tryd.func38, Tryd.ntmps38
    have h1 : (97 : Int) ≤ 87 + (a : Int) := by omega
    have h2 : 87 + (a : Int) ≤ 102 := by omega
    have h0 : (48 : Int) ≤ 87 + (a : Int) := by omega
    have h00 : ¬ 87 + (a : Int) ≤ 57 := by omega
    have h3 : IntKind.u8.wrap (87 + (a : Int) - 97 + 10) = a := by rw [IntKind.wrap_u8]; omega
    go_wp2
    refine bodyPost_ret (v := .tuple #[.int .u8 a, .bool true]) (by simp [results, Tryd.results38, go_sem]) rfl ⟨rfl, rfl⟩

theorem or_hex : ∀ a c : Fin 16, (a.val * 16 ||| c.val) = a.val * 16 + c.val := by decide

theorem isb_lt {b : Nat} {bs : List Value} {w : World} (h : Lib.IsBuilderF 68 5 b b bs w) : b < w.heap.size := by
  rcases h with h | h <;> exact h.lt

theorem isb_below {b : Nat} {bs : List Value} {w w' : World} (h : Lib.IsBuilderF 68 5 b b bs w) (hb : Below w.heap.size w w') : Lib.IsBuilderF 68 5 b b bs w' := by
  have hg : w.grownBy w' none := ⟨hb.os, hb.tape, hb.output, hb.size, fun k hk _ => hb.block k hk⟩
  have lt : ∀ {k : Nat} {o : Obj}, w.heap[k]? = some o → k < w.heap.size := fun {k o} hk => by
    rcases Nat.lt_or_ge k w.heap.size with h' | h'
    · exact h'
    · simp [Array.getElem?_eq_none h'] at hk
  have at_ : ∀ p, Lib.BuilderAtF 68 5 b b p bs w → Lib.BuilderAtF 68 5 b b p bs w' := by
    rintro p ⟨hB, v, hbk, hown, hne⟩
    exact ⟨hB, v, (hb.block b (lt hbk)).trans hbk, hown.kept hg (by cases hv : v.ownBlock <;> simp), hne⟩
  exact h.elim (fun x => .inl (at_ _ x)) (fun x => .inr (at_ _ x))

theorem decodeGo_list (s : ByteArray) (h : s.data.toList ≠ []) : Lib.decodeGo s = Lib.decodeL s.data.toList := by
  unfold Lib.decodeGo Lib.decodeL
  rw [if_neg (by intro h0; apply h; apply List.eq_nil_of_length_eq_zero; simpa using h0)]

theorem extract_tail (s : ByteArray) (n : Nat) : (s.extract n s.size).data.toList = s.data.toList.drop n := by
  rw [ByteArray.data_extract, Array.toList_extract, List.extract_eq_take_drop]
  apply List.take_of_length_le
  simp

theorem at_list (s : ByteArray) (k : Nat) (h : k < s.size) : s[k] = s.data.toList.getD k 0 := by
  have h' : k < s.data.toList.length := by simpa using h
  rw [List.getD, List.getElem?_eq_getElem h']
  rfl

set_option maxHeartbeats 2000000 in
theorem next_plain (s : ByteArray) (hne : s.data.toList ≠ []) (hr : (Lib.decodeL s.data.toList).1 ≠ 92) (b : Nat) (bs : List Value) (w : World) (h : Lib.IsBuilderF 68 5 b b bs w) (hlen : bs.length + 4 ≤ 140737488355328) (hT : Lib.Utf8Tabs 0 1 w) :
    Calls Tryd.prog 27 #[.string s, .pointer (some ⟨b, 0, none⟩)] w fun e w' => e = .returned (.tuple #[.int .i64 (Lib.decodeL s.data.toList).2, .nilIface]) ∧ Lib.IsBuilderF 68 5 b b (bs ++ Lib.byteCells (Lib.encodeRune ((Lib.decodeL s.data.toList).1 : Int))) w' ∧ Below b w w' := by
  have hd := decodeGo_list s hne
  have hw := Lib.decodeL_width s.data.toList
  have hru := Lib.decodeL_rune s.data.toList
  rw [Lib.byteCells_encodeRune]
  generalize Lib.decodeL s.data.toList = d at hd hw hr hru
  obtain ⟨r, n⟩ := d
  dsimp only at hw hr hru ⊢
  have hD := Tryd.utf8_DecodeRuneInString s w hT
  rw [hd] at hD
  dsimp only at hD
  have HD := Lib.hid hD
  have HB := Lib.hid h
  have hlt := isb_lt h
  have h1 : ((r : Int) == 92) = false := by simp; omega
  have h2 : (0 : Int) < n := by omega
  clear hD h hT hd hne hr
  go_enter Tryd.func27, Tryd.ntmps27
  go_wp2_with fail
  refine HD.out.mono ?_
  rintro e w1 ⟨rfl, hb1⟩
  have hb2 : Below b w w1 := hb1.mono (Nat.le_of_lt hlt)
  go_wp2_with fail
  refine (bld_WriteRune b b bs r (by omega) (by omega) _ (isb_below HB.out hb1) hlen (by have := hb1.size; omega)).mono ?_
  rintro e w2 ⟨rfl, h3, hb3, _⟩
  go_wp2
  refine bodyPost_ret (v := .tuple #[.int .i64 n, .nilIface]) (by simp [results, Tryd.results27, go_sem]) rfl ⟨rfl, (.inr h3), hb2.trans hb3⟩

set_option maxHeartbeats 2000000 in
theorem next_esc (s : ByteArray) (c : UInt8) (d : Nat) (t : List UInt8) (hs : s.data.toList = 92 :: c :: t) (hcd : (c = 110 ∧ d = 10) ∨ (c = 114 ∧ d = 13) ∨ (c = 116 ∧ d = 9) ∨ (c = 92 ∧ d = 92) ∨ (c = 34 ∧ d = 34)) (b : Nat) (bs : List Value) (w : World) (h : Lib.IsBuilderF 68 5 b b bs w) (hlen : bs.length + 4 ≤ 140737488355328) (hsz : s.size ≤ 10000)  :
    Calls Tryd.prog 27 #[.string s, .pointer (some ⟨b, 0, none⟩)] w fun e w' => e = .returned (.tuple #[.int .i64 2, .nilIface]) ∧ Lib.IsBuilderF 68 5 b b (bs ++ Lib.byteCells [UInt8.ofNat d]) w' ∧ Below b w w' := by
  have hc : c.toNat < 128 := by rcases hcd with ⟨rfl, _⟩ | ⟨rfl, _⟩ | ⟨rfl, _⟩ | ⟨rfl, _⟩ | ⟨rfl, _⟩ <;> decide
  have hD0 := Tryd.utf8_DecodeRuneInString_ascii s 92 w (by rw [hs]; rfl) (by decide)
  have hsz1 : 2 ≤ s.size := by
    have h1 := congrArg List.length hs
    simp at h1
    omega
  have hD1 := Tryd.utf8_DecodeRuneInString_ascii (s.extract 1 s.size) c w (by rw [extract_tail, hs]; rfl) hc
  generalize hx : s.extract 1 s.size = x at hD1
  have HD0 := Lib.hid hD0
  have HD1 := Lib.hid hD1
  have HB := Lib.hid h
  have hlt := isb_lt h
  have hfin : ∀ (v : Nat), Lib.runeCells (v : Int) = Lib.byteCells [UInt8.ofNat v] → v = d → Lib.byteCells [UInt8.ofNat d] = Lib.runeCells (v : Int) := fun v h1 h2 => by subst h2; exact h1.symm
  clear hD0 hD1 h hs
  rcases hcd with ⟨rfl, rfl⟩ | ⟨rfl, rfl⟩ | ⟨rfl, rfl⟩ | ⟨rfl, rfl⟩ | ⟨rfl, rfl⟩
  · rw [hfin 10 (by rfl) rfl]
    go_enter Tryd.func27, Tryd.ntmps27
    go_wp2_with fail
    refine HD0.out.mono ?_
    rintro e w1 ⟨rfl, rfl⟩
    go_wp2_with fail
    refine HD1.out.mono ?_
    rintro e w2 ⟨rfl, rfl⟩
    go_wp2_with fail
    refine (bld_WriteRune b b bs 10 (by omega) (by omega) _ HB.out hlen (Nat.le_of_lt hlt)).mono ?_
    rintro e w3 ⟨rfl, h3, hb3, _⟩
    go_wp2
    refine bodyPost_ret (v := .tuple #[.int .i64 2, .nilIface]) (by simp [results, Tryd.results27, go_sem]) rfl ⟨rfl, (.inr h3), hb3⟩
  · rw [hfin 13 (by rfl) rfl]
    go_enter Tryd.func27, Tryd.ntmps27
    go_wp2_with fail
    refine HD0.out.mono ?_
    rintro e w1 ⟨rfl, rfl⟩
    go_wp2_with fail
    refine HD1.out.mono ?_
    rintro e w2 ⟨rfl, rfl⟩
    go_wp2_with fail
    refine (bld_WriteRune b b bs 13 (by omega) (by omega) _ HB.out hlen (Nat.le_of_lt hlt)).mono ?_
    rintro e w3 ⟨rfl, h3, hb3, _⟩
    go_wp2
    refine bodyPost_ret (v := .tuple #[.int .i64 2, .nilIface]) (by simp [results, Tryd.results27, go_sem]) rfl ⟨rfl, (.inr h3), hb3⟩
  · rw [hfin 9 (by rfl) rfl]
    go_enter Tryd.func27, Tryd.ntmps27
    go_wp2_with fail
    refine HD0.out.mono ?_
    rintro e w1 ⟨rfl, rfl⟩
    go_wp2_with fail
    refine HD1.out.mono ?_
    rintro e w2 ⟨rfl, rfl⟩
    go_wp2_with fail
    refine (bld_WriteRune b b bs 9 (by omega) (by omega) _ HB.out hlen (Nat.le_of_lt hlt)).mono ?_
    rintro e w3 ⟨rfl, h3, hb3, _⟩
    go_wp2
    refine bodyPost_ret (v := .tuple #[.int .i64 2, .nilIface]) (by simp [results, Tryd.results27, go_sem]) rfl ⟨rfl, (.inr h3), hb3⟩
  · rw [hfin 92 (by rfl) rfl]
    go_enter Tryd.func27, Tryd.ntmps27
    go_wp2_with fail
    refine HD0.out.mono ?_
    rintro e w1 ⟨rfl, rfl⟩
    go_wp2_with fail
    refine HD1.out.mono ?_
    rintro e w2 ⟨rfl, rfl⟩
    go_wp2_with fail
    refine (bld_WriteRune b b bs 92 (by omega) (by omega) _ HB.out hlen (Nat.le_of_lt hlt)).mono ?_
    rintro e w3 ⟨rfl, h3, hb3, _⟩
    go_wp2
    refine bodyPost_ret (v := .tuple #[.int .i64 2, .nilIface]) (by simp [results, Tryd.results27, go_sem]) rfl ⟨rfl, (.inr h3), hb3⟩
  · rw [hfin 34 (by rfl) rfl]
    go_enter Tryd.func27, Tryd.ntmps27
    go_wp2_with fail
    refine HD0.out.mono ?_
    rintro e w1 ⟨rfl, rfl⟩
    go_wp2_with fail
    refine HD1.out.mono ?_
    rintro e w2 ⟨rfl, rfl⟩
    go_wp2_with fail
    refine (bld_WriteRune b b bs 34 (by omega) (by omega) _ HB.out hlen (Nat.le_of_lt hlt)).mono ?_
    rintro e w3 ⟨rfl, h3, hb3, _⟩
    go_wp2
    refine bodyPost_ret (v := .tuple #[.int .i64 2, .nilIface]) (by simp [results, Tryd.results27, go_sem]) rfl ⟨rfl, (.inr h3), hb3⟩

set_option maxHeartbeats 4000000 in
theorem next_hex (s : ByteArray) (a c : Nat) (t : List UInt8) (ha : a < 16) (hc : c < 16) (hs : s.data.toList = 92 :: 120 :: hexB a :: hexB c :: t) (b : Nat) (bs : List Value) (w : World) (h : Lib.IsBuilderF 68 5 b b bs w) (hlen : bs.length + 4 ≤ 140737488355328) (hsz : s.size ≤ 10000)  :
    Calls Tryd.prog 27 #[.string s, .pointer (some ⟨b, 0, none⟩)] w fun e w' => e = .returned (.tuple #[.int .i64 4, .nilIface]) ∧ Lib.IsBuilderF 68 5 b b (bs ++ Lib.byteCells [UInt8.ofNat (a * 16 + c)]) w' ∧ Below b w w' := by
  have hD0 := Tryd.utf8_DecodeRuneInString_ascii s 92 w (by rw [hs]; rfl) (by decide)
  have hsz1 : 4 ≤ s.size := by
    have h1 := congrArg List.length hs
    simp at h1
    omega
  have hx2 : s[2] = hexB a := by rw [at_list s 2 (by omega), hs]; rfl
  have hx3 : s[3] = hexB c := by rw [at_list s 3 (by omega), hs]; rfl
  have hD1 := Tryd.utf8_DecodeRuneInString_ascii (s.extract 1 s.size) 120 w (by rw [extract_tail, hs]; rfl) (by decide)
  have hz2 : (s.extract 2 s.size).size = s.size - 2 := by simp
  generalize hx : s.extract 1 s.size = x at hD1
  generalize hy : s.extract 2 s.size = y at hz2
  have hz3 : (2 : Int) ≤ y.size := by omega
  have hb1 : (4 : Int) ≤ s.size := by omega
  have HD0 := Lib.hid hD0
  have HD1 := Lib.hid hD1
  have HB := Lib.hid h
  have hlt := isb_lt h
  have hres : Lib.byteCells [UInt8.ofNat (a * 16 + c)] = [.int .u8 ((a * 16 + c : Nat) : Int)] := by
    simp [Lib.byteCells]
    omega
  rw [hres]
  clear hD0 hD1 h hs
  go_enter Tryd.func27, Tryd.ntmps27
  go_wp2_with fail
  refine HD0.out.mono ?_
  rintro e w1 ⟨rfl, rfl⟩
  go_wp2_with fail
  refine HD1.out.mono ?_
  rintro e w2 ⟨rfl, rfl⟩
  go_wp2_with fail
  refine (fromHex_any a ha _).mono ?_
  rintro e w3 ⟨rfl, rfl⟩
  go_wp2_with fail
  refine (fromHex_any c hc _).mono ?_
  rintro e w4 ⟨rfl, rfl⟩
  go_wp2_with fail
  refine (bld_WriteByte b b bs _ _ HB.out (by omega) (Nat.le_of_lt hlt)).mono ?_
  rintro e w5 ⟨rfl, h3, hb3, _⟩
  have hor : bits .or .u8 ((a : Int) * 16) (c : Int) = ((a * 16 + c : Nat) : Int) := by
    rw [← or_hex ⟨a, ha⟩ ⟨c, hc⟩, ← u8_or_nat (a * 16) c (by omega) (by omega)]
    rw [show ((a * 16 : Nat) : Int) = (a : Int) * 16 by omega]
  rw [hor] at h3
  go_wp2
  refine bodyPost_ret (v := .tuple #[.int .i64 4, .nilIface]) (by simp [results, Tryd.results27, go_sem]) rfl ⟨rfl, (.inr h3), hb3⟩

theorem next_any (s : ByteArray) (out : List UInt8) (n : Nat) (hst : Step s.data.toList out n) (b : Nat) (bs : List Value) (w : World) (h : Lib.IsBuilderF 68 5 b b bs w) (hlen : bs.length + 4 ≤ 140737488355328) (hsz : s.size ≤ 10000) (hT : Lib.Utf8Tabs 0 1 w) :
    Calls Tryd.prog 27 #[.string s, .pointer (some ⟨b, 0, none⟩)] w fun e w' => e = .returned (.tuple #[.int .i64 n, .nilIface]) ∧ Lib.IsBuilderF 68 5 b b (bs ++ Lib.byteCells out) w' ∧ Below b w w' := by
  generalize hl : s.data.toList = l at hst
  cases hst with
  | plain _ hne hv hr =>
    subst hl
    rw [← Lib.encode_decode _ hne hv]
    exact next_plain s hne hr b bs w h hlen hT
  | esc c d t hcd =>
    have hd : d = UInt8.ofNat d.toNat := by simp
    rw [hd]
    refine next_esc s c d.toNat t hl ?_ b bs w h hlen hsz
    rcases hcd with ⟨rfl, rfl⟩ | ⟨rfl, rfl⟩ | ⟨rfl, rfl⟩ | ⟨rfl, rfl⟩ | ⟨rfl, rfl⟩ <;> decide
  | hex a c t ha hc => exact next_hex s a c t ha hc hl b bs w h hlen hsz

end Go.Proofs.YtlnimjpigghbmaaDoor
