/- What gjson writes of a text in UTF-8 between quotation marks. -/
import Derived.Test.YtegbajfmhkmolaaDoorRxf34
import Derived.Test.YtegbajfmhkmolaaDoorUtf8VR
namespace Go.Proofs.YtegbajfmhkmolaaDoor.U
open Go.RowKit Go.Proofs.YtegbajfmhkmolaaDoor.R Go.Proofs.YtegbajfmhkmolaaDoorW.PrintWords Go.Proofs.YtegbajfmhkmolaaDoorW.PrintLast

/-- A digit of sixteen, small. -/
def hexd (n : Nat) : Int := bt (⟨#[48, 49, 50, 51, 52, 53, 54, 55, 56, 57, 97, 98, 99, 100, 101, 102]⟩ : ByteArray) (n : Int)
theorem and15b : ∀ c ∈ [8232, 8233], Go.bits .and .i32 ((c : Nat) : Int) 15 = ((c % 16 : Nat) : Int) := by decide
/-- What is written of a character between quotes. -/
def esc (s : ByteArray) (i c n : Nat) : List Int :=
  if c = 34 ∨ c = 92 then [92, (c : Int)] else if c = 8 then [92, 98] else if c = 12 then [92, 102] else if c = 10 then [92, 110] else if c = 13 then [92, 114] else if c = 9 then [92, 116]
  else if c < 32 ∨ c = 38 ∨ c = 60 ∨ c = 62 then [92, 117, 48, 48, hexd (c / 16), hexd (c % 16)]
  else if c = 8232 ∨ c = 8233 then [92, 117, 50, 48, 50, hexd (c % 16)]
  else bytesOf (s.extract i (i + n))
theorem ext_size (s : ByteArray) (i n : Nat) (h : i + n ≤ s.size) : (s.extract i (i + n)).size = n := by
  rw [ByteArray.size_extract]
  omega
theorem ext_one (s : ByteArray) (i : Nat) (h : i < s.size) : bytesOf (s.extract i (i + 1)) = [(nb s i : Int)] := by
  have hl : (bytesOf (s.extract i (i + 1))).length = 1 := by rw [bytesOf_length, ext_size s i 1 (by omega)]
  obtain ⟨a, ha⟩ := List.length_eq_one_iff.1 hl
  have h1 : rd (bytesOf (s.extract i (i + 1))) 0 = bt s i := by
    rw [rd_bytesOf]
    unfold bt
    have hz : (0 : Int).toNat < (s.extract i (i + 1)).size := by rw [ext_size s i 1 (by omega)]; decide
    rw [dif_pos hz, dif_pos (by simpa using h)]
    simp [ByteArray.getElem_extract]
  rw [ha] at h1 ⊢
  rw [← nb_bt, ← h1]
  rfl
theorem esc_len (s : ByteArray) {i c n : Nat} (h : i + n ≤ s.size) (hn : n ≤ 4) : (esc s i c n).length ≤ 6 := by
  unfold esc
  repeat' split
  all_goals first | simp | (rw [bytesOf_length, ext_size s i n h]; omega)
theorem nat_in {c : Nat} (h : c < 32 ∨ c = 38 ∨ c = 60 ∨ c = 62) : c ∈ List.range 32 ++ [38, 60, 62] := by
  simp only [List.mem_append, List.mem_range, List.mem_cons, List.not_mem_nil, or_false]
  exact h
theorem nat_in2 {c : Nat} (h : c = 8232 ∨ c = 8233) : c ∈ [8232, 8233] := by
  simp only [List.mem_cons, List.not_mem_nil, or_false]
  exact h
theorem nb_ext (s : ByteArray) (i j : Nat) : nb (s.extract i s.size) j = nb s (i + j) := by
  have e : bt (s.extract i s.size) ((j : Nat) : Int) = bt s ((i + j : Nat) : Int) := by
    unfold bt
    simp only [Int.toNat_natCast]
    by_cases h : i + j < s.size
    · rw [dif_pos (by rw [ByteArray.size_extract]; omega), dif_pos h]
      simp [ByteArray.getElem_extract]
    · rw [dif_neg (by rw [ByteArray.size_extract]; omega), dif_neg h]
  rw [nb_bt, nb_bt] at e
  omega
theorem decodeGo_ext (s : ByteArray) (i : Nat) (hi : i < s.size) : Lib.decodeGo (s.extract i s.size) = Utf8.decode s i := by
  have hz : (s.extract i s.size).size = s.size - i := by rw [ByteArray.size_extract]; omega
  unfold Lib.decodeGo
  rw [if_neg (by omega), Lib.decode_at, Lib.decode_at, hz]
  have e := fun j => nb_ext s i j
  unfold nb at e
  rw [e, e, e, e]
  rfl

set_option maxRecDepth 100000 in
theorem h16 : ∀ c ∈ List.range 32 ++ [38, 60, 62], IntKind.u16.wrap ((c : Nat) : Int) = (c : Int) ∧ Go.bits .and .u16 ((c : Int) / 4096) 15 = 0 ∧ Go.bits .and .u16 ((c : Int) / 256) 15 = 0 ∧ Go.bits .and .u16 ((c : Int) / 16) 15 = ((c / 16 : Nat) : Int) ∧ Go.bits .and .u16 (c : Int) 15 = ((c % 16 : Nat) : Int) := by decide +kernel
theorem hex16 {c : Nat} (h : c < 32 ∨ c = 38 ∨ c = 60 ∨ c = 62) (l : List Int) (hl : l.length + 4 < 140737488355328) : gjson_appendHex16.f l (IntKind.u16.wrap ((c : Nat) : Int)) = some (l ++ [48, 48, hexd (c / 16), hexd (c % 16)]) := by
  obtain ⟨h0, h1, h2, h3, h4⟩ := h16 c (nat_in h)
  have hm : c % 16 < 16 := Nat.mod_lt _ (by decide)
  rw [h0]
  simp only [gjson_appendHex16.f, h1, h2, h3, h4]
  rw [if_pos (by decide), if_pos (by decide), if_pos (by decide), if_pos (by decide), if_pos (by omega), if_pos (by omega), if_pos (by omega), if_pos (by omega)]
  simp only [Option.bind_some]
  rw [if_pos (by simp; omega)]
  rfl
/-- gjson writes a character. -/
theorem gq_step {s : ByteArray} (hs : s.size ≤ 140737488351232) {i c n : Nat} (hi : i < s.size) (hc : Chr s i c n) (x0 : List Int) (hx : x0.length + 8 < 140737488355328) {r : List Int}
    (h : Ev (fun k => gjson_AppendJSONString.l0 k (x0 ++ esc s i c n) s ((i + n : Nat) : Int)) r) : Ev (fun k => gjson_AppendJSONString.l0 k x0 s (i : Int)) r := by
  have hf := hc.fit
  have hp := hc.pos
  have ht := hc.top
  by_cases hb : nb s i < 128
  · obtain ⟨rfl, rfl⟩ := hc.low hb
    have ew : wrap64 ((i : Int) + 1) = ((i + 1 : Nat) : Int) := by rw [w64 (by omega)]; omega
    by_cases h32 : nb s i < 32
    · have short : ∀ l : Int, esc s i (nb s i) 1 = [92, l] → (∀ k, gjson_AppendJSONString.l0 (k + 1) x0 s (i : Int) = gjson_AppendJSONString.l0 k (x0 ++ [92] ++ [l]) s ((i + 1 : Nat) : Int)) → Ev (fun k => gjson_AppendJSONString.l0 k x0 s (i : Int)) r := fun l he h1 => by
        refine Ev.step h1 ?_
        rw [he] at h
        simpa using h
      have start : ∀ k, gjson_AppendJSONString.l0 (k + 1) x0 s (i : Int) = _ := fun k => by
        simp only [gjson_AppendJSONString.l0, nb_bt, ew]
        rw [if_pos (by omega), if_pos (by omega), if_pos (by omega), if_pos (by omega)]
      have len : (x0 ++ [92]).length < 140737488355328 := by simp; omega
      by_cases h8 : nb s i = 8
      · refine short 98 (by simp [esc, h8]) fun k => ?_
        rw [start, Option.bind_some, if_pos (by omega), if_pos len]
      by_cases h12 : nb s i = 12
      · refine short 102 (by simp [esc, h12]) fun k => ?_
        rw [start, Option.bind_some, if_neg (by omega), if_pos (by omega), if_pos len]
      by_cases h10 : nb s i = 10
      · refine short 110 (by simp [esc, h10]) fun k => ?_
        rw [start, Option.bind_some, if_neg (by omega), if_neg (by omega), if_pos (by omega), if_pos len]
      by_cases h13 : nb s i = 13
      · refine short 114 (by simp [esc, h13]) fun k => ?_
        rw [start, Option.bind_some, if_neg (by omega), if_neg (by omega), if_neg (by omega), if_pos (by omega), if_pos len]
      by_cases h9 : nb s i = 9
      · refine short 116 (by simp [esc, h9]) fun k => ?_
        rw [start, Option.bind_some, if_neg (by omega), if_neg (by omega), if_neg (by omega), if_neg (by omega), if_pos (by omega), if_pos len]
      refine Ev.step (fun k => ?_) h
      have he : esc s i (nb s i) 1 = [92, 117, 48, 48, hexd (nb s i / 16), hexd (nb s i % 16)] := by
        unfold esc
        rw [if_neg (by omega), if_neg h8, if_neg h12, if_neg h10, if_neg h13, if_neg h9, if_pos (by omega)]
      rw [start, Option.bind_some, if_neg (by omega), if_neg (by omega), if_neg (by omega), if_neg (by omega), if_neg (by omega), if_pos len, hex16 (.inl h32) _ (by simp; omega), he]
      simp
    have fore : ∀ b : Bool, (nb s i = 38 ∨ nb s i = 60 ∨ nb s i = 62 ↔ b = true) → Ev (fun k => gjson_AppendJSONString.j1 k x0 s (i : Int) b) r → Ev (fun k => gjson_AppendJSONString.l0 k x0 s (i : Int)) r := fun b hbb h1 => by
      refine Ev.step (fun k => ?_) h1
      simp only [gjson_AppendJSONString.l0, nb_bt]
      rw [if_pos (by omega), if_pos (by omega), if_neg (by omega)]
      by_cases h62 : nb s i = 62
      · rw [if_pos (by omega), hbb.1 (by omega)]
      rw [if_neg (by omega)]
      by_cases h60 : nb s i = 60
      · rw [if_pos (by omega), hbb.1 (by omega)]
      rw [if_neg (by omega)]
      congr 1
      cases b with
      | true => have := hbb.2 rfl; simp; omega
      | false => have : ¬ (nb s i = 38 ∨ nb s i = 60 ∨ nb s i = 62) := fun e => by simpa using hbb.1 e
                 simp; omega
    by_cases hm : nb s i = 38 ∨ nb s i = 60 ∨ nb s i = 62
    · have he : esc s i (nb s i) 1 = [92, 117, 48, 48, hexd (nb s i / 16), hexd (nb s i % 16)] := by
        unfold esc
        rw [if_neg (by omega), if_neg (by omega), if_neg (by omega), if_neg (by omega), if_neg (by omega), if_neg (by omega), if_pos (by omega)]
      refine fore true (by simpa using hm) (Ev.step (fun k => ?_) h)
      simp only [gjson_AppendJSONString.j1, gjson_escapeHTML.f, nb_bt, Option.bind_some, ew]
      rw [if_pos trivial, if_pos trivial, if_pos (by simp; omega), if_pos (by omega), if_pos (by omega), hex16 (.inr hm) _ (by simp; omega), he]
      simp
    refine fore false (by simpa using hm) (Ev.step (fun k => ?_) h)
    simp only [gjson_AppendJSONString.j1, nb_bt, Option.bind_some, ew]
    rw [if_neg (by decide), if_pos (by omega), if_pos (by omega)]
    by_cases h92 : nb s i = 92
    · rw [if_pos (by omega), if_pos (by simp; omega), show esc s i (nb s i) 1 = [92, 92] by simp [esc, h92]]
    rw [if_neg (by omega)]
    by_cases h34 : nb s i = 34
    · rw [if_pos (by omega), if_pos (by simp; omega), show esc s i (nb s i) 1 = [92, 34] by simp [esc, h34]]
    have he : esc s i (nb s i) 1 = [(nb s i : Int)] := by
      unfold esc
      rw [if_neg (by omega), if_neg (by omega), if_neg (by omega), if_neg (by omega), if_neg (by omega), if_neg (by omega), if_neg (by omega), if_neg (by omega), ext_one s i hi]
    rw [if_neg (by omega), if_neg (by omega), if_pos (by omega), he]
  · have hh := hc.high (by omega)
    have hd : Lib.decodeGo (s.extract i s.size) = (c, n) := by rw [decodeGo_ext s i hi, hc.dec]
    have fore : Ev (fun k => gjson_AppendJSONString.j2 k x0 s (i : Int) (c : Int) (n : Int) false) r → Ev (fun k => gjson_AppendJSONString.l0 k x0 s (i : Int)) r := fun h1 => by
      refine Ev.step (f := fun k => gjson_AppendJSONString.j1 k x0 s (i : Int) false) (fun k => ?_) (Ev.step (fun k => ?_) h1)
      · simp only [gjson_AppendJSONString.l0, nb_bt]
        rw [if_pos (by omega), if_pos (by omega), if_neg (by omega), if_neg (by omega), if_neg (by omega)]
        congr 1
        simp
        omega
      · simp only [gjson_AppendJSONString.j1, nb_bt, utf8_DecodeRuneInString.f, Int.toNat_natCast, hd, Option.bind_some]
        rw [if_neg (by decide), if_pos (by omega), if_pos (by omega), if_neg (by omega), if_neg (by omega), if_pos (by omega), if_pos (by omega), if_neg (by omega)]
        split
        · congr 1
          simp
          omega
        · rfl
    refine fore (Ev.step (fun k => ?_) h)
    have e0 : wrap64 ((i : Int) + (n : Int)) = ((i + n : Nat) : Int) := by rw [w64 (by omega)]; omega
    have e1 : wrap64 (((i + n : Nat) : Int) - 1) = ((i + n : Nat) : Int) - 1 := w64 (by omega)
    have e2 : wrap64 ((((i + n : Nat) : Int) - 1) + 1) = ((i + n : Nat) : Int) := by rw [w64 (by omega)]; omega
    by_cases h1 : c = 8232 ∨ c = 8233
    · have he : esc s i c n = [92, 117, 50, 48, 50, hexd (c % 16)] := by
        unfold esc
        rw [if_neg (by omega), if_neg (by omega), if_neg (by omega), if_neg (by omega), if_neg (by omega), if_neg (by omega), if_neg (by omega), if_pos h1]
      have ha := and15b _ (nat_in2 h1)
      have hm : c % 16 < 16 := Nat.mod_lt _ (by decide)
      have len : (x0 ++ bytesOf (⟨#[92, 117, 50, 48, 50]⟩ : ByteArray)).length < 140737488355328 := by
        rw [List.length_append]
        change x0.length + 5 < _
        omega
      have fin : (x0 ++ bytesOf (⟨#[92, 117, 50, 48, 50]⟩ : ByteArray)) ++ [hexd (c % 16)] = x0 ++ [92, 117, 50, 48, 50, hexd (c % 16)] := by
        rw [List.append_assoc]
        rfl
      rw [he, ← fin]
      simp only [gjson_AppendJSONString.j2, e0, e1, e2, ha, Option.bind_some]
      rw [if_neg (by decide)]
      rcases h1 with e | e
      · rw [if_pos (by omega), if_pos (by omega), if_pos (by omega), if_pos (by omega), if_pos len]
        rfl
      · rw [if_neg (by omega), if_pos (by omega), if_pos (by omega), if_pos (by omega), if_pos (by omega), if_pos len]
        rfl
    · have he : esc s i c n = bytesOf (s.extract i (i + n)) := by
        unfold esc
        rw [if_neg (by omega), if_neg (by omega), if_neg (by omega), if_neg (by omega), if_neg (by omega), if_neg (by omega), if_neg (by omega), if_neg h1]
      have len : x0.length + (s.extract i (i + n)).size < 140737488355328 := by rw [ext_size s i n hf]; omega
      rw [he]
      simp only [gjson_AppendJSONString.j2, e0, e1, e2, Int.toNat_natCast]
      rw [if_neg (by decide), if_neg (by omega), if_neg (by omega), if_pos (by omega), if_pos (by omega), if_pos (by omega), if_pos len]
/-- A digit of sixteen's worth. -/
def hv (d : Int) : Int := if d < 58 then d - 48 else d - 87
set_option maxRecDepth 100000 in
theorem hv_hexd : ∀ n : Fin 16, hv (hexd n.val) = (n.val : Int) := by decide
/-- What stands behind a backslash, by one letter. -/
def unl (b : Int) : Int := if b = 98 then 8 else if b = 102 then 12 else if b = 110 then 10 else if b = 114 then 13 else if b = 116 then 9 else b
/-- Quoted text, back. -/
def unq : List Int → List Int
  | [] => []
  | a :: r => if a ≠ 92 then a :: unq r else match r with
    | [] => []
    | b :: r1 => if b ≠ 117 then unl b :: unq r1 else match r1 with
      | x :: _ :: p :: q :: r2 => (if x = 50 then [226, 128, 160 + hv q] else [hv p * 16 + hv q]) ++ unq r2
      | _ => []
theorem unq_raw : ∀ (l r : List Int), (∀ a ∈ l, a ≠ 92) → unq (l ++ r) = l ++ unq r
  | [], r, _ => rfl
  | a :: l, r, h => by
    have ih := unq_raw l r fun b hb => h b (by simp [hb])
    rw [List.cons_append, unq.eq_def]
    simp only []
    rw [if_pos (h a (by simp)), ih]
    rfl
theorem unq_let (b : Int) (r : List Int) (hb : b ≠ 117) : unq (92 :: b :: r) = unl b :: unq r := by
  rw [unq.eq_def]
  simp only []
  rw [if_neg (by decide), if_pos hb]
theorem unq_hex (x y p q : Int) (r : List Int) : unq (92 :: 117 :: x :: y :: p :: q :: r) = (if x = 50 then [226, 128, 160 + hv q] else [hv p * 16 + hv q]) ++ unq r := by
  rw [unq.eq_def]
  simp only []
  rw [if_neg (by decide), if_neg (by decide)]
theorem chr_bytes {s : ByteArray} {i c n : Nat} (hc : Chr s i c n) (h : 128 ≤ nb s i) : ∀ j, j < n → 128 ≤ nb s (i + j) := by
  have hd := hc.dec
  have h2 := (hc.high h).2
  rw [Lib.decode_at] at hd
  change Lib.decodeN (s.size - i) (nb s i) (nb s (i + 1)) (nb s (i + 2)) (nb s (i + 3)) = _ at hd
  unfold Lib.decodeN at hd
  rw [if_neg (by omega)] at hd
  intro j hj
  have hj4 : j = 0 ∨ j = 1 ∨ j = 2 ∨ j = 3 := by have := hc.top.2; omega
  split at hd
  · split at hd
    · injection hd with e1 e2
      rcases hj4 with rfl | rfl | rfl | rfl <;> first | exact h | omega
    · injection hd with e1 e2
      omega
  · split at hd
    · split at hd
      · injection hd with e1 e2
        rcases hj4 with rfl | rfl | rfl | rfl <;> first | exact h | omega
      · injection hd with e1 e2
        omega
    · split at hd
      · split at hd
        · injection hd with e1 e2
          rcases hj4 with rfl | rfl | rfl | rfl <;> first | exact h | omega
        · injection hd with e1 e2
          omega
      · injection hd with e1 e2
        omega
theorem ext_list (s : ByteArray) (i n : Nat) (h : i + n ≤ s.size) : bytesOf (s.extract i (i + n)) = (List.range n).map fun j => (nb s (i + j) : Int) := by
  have hl : (bytesOf (s.extract i (i + n))).length = n := by rw [bytesOf_length, ext_size s i n h]
  refine List.ext_getElem (by simp [hl]) fun j h1 h2 => ?_
  have hj : j < n := by omega
  have h3 : rd (bytesOf (s.extract i (i + n))) (j : Int) = bt s ((i + j : Nat) : Int) := by
    rw [rd_bytesOf]
    unfold bt
    simp only [Int.toNat_natCast]
    rw [dif_pos (by rw [ext_size s i n h]; exact hj), dif_pos (by omega)]
    simp [ByteArray.getElem_extract]
  rw [nb_bt] at h3
  simp only [List.getElem_map, List.getElem_range]
  rw [← h3]
  simp [rd, h1]
theorem unq_char {s : ByteArray} {i c n : Nat} (hi : i < s.size) (hc : Chr s i c n) (r : List Int) : unq (esc s i c n ++ r) = bytesOf (s.extract i (i + n)) ++ unq r := by
  by_cases hb : nb s i < 128
  · obtain ⟨rfl, rfl⟩ := hc.low hb
    rw [ext_one s i hi]
    have letter : ∀ l : Int, esc s i (nb s i) 1 = [92, l] → l ≠ 117 → unl l = (nb s i : Int) → unq (esc s i (nb s i) 1 ++ r) = [(nb s i : Int)] ++ unq r := fun l he h1 h2 => by
      rw [he]
      change unq (92 :: l :: r) = _
      rw [unq_let l r h1, h2]
      rfl
    by_cases h1 : nb s i = 34 ∨ nb s i = 92
    · exact letter _ (by unfold esc; rw [if_pos h1]) (by omega) (by rcases h1 with e | e <;> rw [e] <;> decide)
    by_cases h8 : nb s i = 8
    · exact letter 98 (by simp [esc, h8]) (by decide) (by rw [h8]; decide)
    by_cases h12 : nb s i = 12
    · exact letter 102 (by simp [esc, h12]) (by decide) (by rw [h12]; decide)
    by_cases h10 : nb s i = 10
    · exact letter 110 (by simp [esc, h10]) (by decide) (by rw [h10]; decide)
    by_cases h13 : nb s i = 13
    · exact letter 114 (by simp [esc, h13]) (by decide) (by rw [h13]; decide)
    by_cases h9 : nb s i = 9
    · exact letter 116 (by simp [esc, h9]) (by decide) (by rw [h9]; decide)
    unfold esc
    rw [if_neg h1, if_neg h8, if_neg h12, if_neg h10, if_neg h13, if_neg h9]
    by_cases hx : nb s i < 32 ∨ nb s i = 38 ∨ nb s i = 60 ∨ nb s i = 62
    · rw [if_pos hx]
      change unq (92 :: 117 :: 48 :: 48 :: hexd (nb s i / 16) :: hexd (nb s i % 16) :: r) = _
      rw [unq_hex, if_neg (by decide), hv_hexd ⟨nb s i / 16, by omega⟩, hv_hexd ⟨nb s i % 16, by omega⟩]
      congr 1
      congr 1
      simp only []
      omega
    · rw [if_neg hx, if_neg (by omega), ext_one s i hi, unq_raw _ _ (by simp; omega)]
  · have hall := chr_bytes hc (by omega)
    have hh := hc.high (by omega)
    unfold esc
    rw [if_neg (by omega), if_neg (by omega), if_neg (by omega), if_neg (by omega), if_neg (by omega), if_neg (by omega), if_neg (by omega)]
    by_cases h1 : c = 8232 ∨ c = 8233
    · rw [if_pos h1]
      change unq (92 :: 117 :: 50 :: 48 :: 50 :: hexd (c % 16) :: r) = _
      rw [unq_hex, if_pos rfl, hv_hexd ⟨c % 16, by omega⟩, ext_list s i n hc.fit]
      have hd := hc.dec
      rw [Lib.decode_at] at hd
      change Lib.decodeN (s.size - i) (nb s i) (nb s (i + 1)) (nb s (i + 2)) (nb s (i + 3)) = _ at hd
      have l0 := nb_lt s i
      have l1 := nb_lt s (i + 1)
      have l2 := nb_lt s (i + 2)
      have l3 := nb_lt s (i + 3)
      have key : n = 3 ∧ nb s i = 226 ∧ nb s (i + 1) = 128 ∧ nb s (i + 2) = 160 + c % 16 := by
        unfold Lib.decodeN at hd
        rw [if_neg (by omega)] at hd
        split at hd
        · split at hd <;> (injection hd with e1 e2; omega)
        · split at hd
          · split at hd <;> (injection hd with e1 e2; omega)
          · split at hd
            · split at hd <;> (injection hd with e1 e2; omega)
            · injection hd with e1 e2
              omega
      obtain ⟨rfl, k1, k2, k3⟩ := key
      have e : (List.range 3).map (fun j => (nb s (i + j) : Int)) = [(nb s i : Int), (nb s (i + 1) : Int), (nb s (i + 2) : Int)] := rfl
      rw [e, k1, k2, k3]
      simp
    · rw [if_neg h1, unq_raw]
      intro a ha
      rw [ext_list s i n hc.fit, List.mem_map] at ha
      obtain ⟨j, hj, rfl⟩ := ha
      have := hall j (by simpa using hj)
      omega
theorem esc_least {s : ByteArray} {i c n : Nat} (hc : Chr s i c n) : n ≤ (esc s i c n).length ∧ (esc s i c n).length ≤ 6 * n := by
  have hf := hc.fit
  have ht := hc.top
  have hp := hc.pos
  have h1 : c < 128 → n = 1 := fun h => by
    by_cases hb : nb s i < 128
    · exact (hc.low hb).2
    · have := (hc.high (by omega)).1
      omega
  unfold esc
  repeat' split
  all_goals first | (rw [bytesOf_length, ext_size s i n hf]; omega) | (simp only [List.length_cons, List.length_nil]; omega)
theorem esc_range (s : ByteArray) (i c n : Nat) : ∀ a ∈ esc s i c n, 0 ≤ a ∧ a ≤ 255 := by
  intro a ha
  have hx : ∀ n : Nat, 0 ≤ hexd n ∧ hexd n ≤ 255 := fun n => bt_range _ _
  have h1 := hx (c / 16)
  have h2 := hx (c % 16)
  unfold esc at ha
  repeat' split at ha
  all_goals first
    | (simp only [List.mem_cons, List.not_mem_nil, or_false] at ha
       rcases ha with rfl | rfl | rfl | rfl | rfl | rfl <;> omega)
    | (simp only [List.mem_cons, List.not_mem_nil, or_false] at ha
       rcases ha with rfl | rfl <;> omega)
    | (simp only [bytesOf, List.mem_map] at ha
       obtain ⟨b, _, rfl⟩ := ha
       have := b.toNat_lt
       omega)
theorem nums_str (l : List Int) (h : ∀ c ∈ l, 0 ≤ c ∧ c ≤ 255) : numsOf (strOfNums l) = l := by
  simp only [numsOf, strOfNums, List.map_map]
  conv => rhs; rw [← List.map_id l]
  refine List.map_congr_left fun c hc => ?_
  have := h c hc
  simp only [Function.comp, UInt8.toNat_ofNat', id]
  omega
theorem quoted {s : ByteArray} (hs : s.size ≤ 4096) {i : Nat} (hv : Val s i) : ∃ T : List Int, (∀ x0 : List Int, x0.length ≤ 1 + 6 * i → Ev (fun k => gjson_AppendJSONString.l0 k x0 s (i : Int)) (x0 ++ T ++ [34])) ∧ unq (T ++ [34]) = (bytesOf s).drop i ++ [34] ∧ s.size ≤ i + T.length ∧ T.length + 6 * i ≤ 6 * s.size ∧ ∀ a ∈ T, 0 ≤ a ∧ a ≤ 255 := by
  induction hv with
  | done =>
    refine ⟨[], fun x0 hx => Ev.step (f := fun _ => some _) (fun k => ?_) (Ev.now _), ?_, by simp, by simp, by simp⟩
    · simp only [gjson_AppendJSONString.l0]
      rw [if_neg (by omega), if_pos (by omega)]
      simp
    · rw [List.drop_of_length_le (by rw [bytesOf_length]; omega)]
      simp [unq]
  | @step i c n hi hc he hv ih =>
    have hf := hc.fit
    have hp := hc.pos
    have hl := esc_least hc
    have h4 := hc.top.2
    obtain ⟨T, h1, h2, h3, h5, h7⟩ := ih
    refine ⟨esc s i c n ++ T, fun x0 hx => ?_, ?_, by rw [List.length_append]; omega, by rw [List.length_append]; omega, fun a ha => (List.mem_append.1 ha).elim (esc_range s i c n a) (h7 a)⟩
    · have h6 := esc_len s (c := c) hf h4
      have := h1 (x0 ++ esc s i c n) (by rw [List.length_append]; omega)
      refine gq_step (by omega) hi hc x0 (by omega) ?_
      simpa using this
    · have e1 : bytesOf (s.extract i (i + n)) = ((bytesOf s).drop i).take n := by
        unfold bytesOf
        rw [Lib.extract_data, Nat.add_sub_cancel_left, List.map_take, List.map_drop]
      rw [List.append_assoc, unq_char hi hc, h2, e1, ← List.append_assoc, ← List.drop_drop, List.take_append_drop]
end Go.Proofs.YtegbajfmhkmolaaDoor.U
