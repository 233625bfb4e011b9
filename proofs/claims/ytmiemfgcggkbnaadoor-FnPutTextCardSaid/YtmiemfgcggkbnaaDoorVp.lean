/- The specification's spec.Text answers the plain text: no program in sight. -/
import Derived.Test.YtmiemfgcggkbnaaDoorVf
import Derived.Test.YtmiemfgcggkbnaaDoorQTx4
import Derived.Lib.ValidAsc
import Derived.Lib.ValidLaws
import Derived.Lib.EndianBits
import Derived.Shelf.Unicode.DecodeSlow
import Derived.Laws.BitsAllLaws
namespace Go.Proofs.YtmiemfgcggkbnaaDoor.QT
open Go.BigFrame
open Go.RowKit Go.Proofs.YtmiemfgcggkbnaaDoorW.PrintWords Go.Proofs.YtmiemfgcggkbnaaDoorW.PrintLast Go.Proofs.YtmiemfgcggkbnaaDoorW.PrintMore
set_option linter.unusedVariables false
set_option linter.unusedSimpArgs false

theorem wraps_i64_ (n : Int) (h₀ : 0 ≤ n) (h₁ : n < 2 ^ 63) : IntKind.i64.wrap n = n := by rw [IntKind.wrap_i64]; omega
theorem m63 {x : Int} (h0 : 0 ≤ x) (h1 : x ≤ 9223372036854775807) : bits .and .i64 x 63 = x % 64 := bits_mask .i64 63 (by decide) wraps_i64_ 6 (by decide) x h0 (by omega)
theorem m31 {x : Int} (h0 : 0 ≤ x) (h1 : x ≤ 9223372036854775807) : bits .and .i64 x 31 = x % 32 := bits_mask .i64 63 (by decide) wraps_i64_ 5 (by decide) x h0 (by omega)
theorem m15 {x : Int} (h0 : 0 ≤ x) (h1 : x ≤ 9223372036854775807) : bits .and .i64 x 15 = x % 16 := bits_mask .i64 63 (by decide) wraps_i64_ 4 (by decide) x h0 (by omega)
theorem m7 {x : Int} (h0 : 0 ≤ x) (h1 : x ≤ 9223372036854775807) : bits .and .i64 x 7 = x % 8 := bits_mask .i64 63 (by decide) wraps_i64_ 3 (by decide) x h0 (by omega)
theorem j5 {x y : Int} (hx0 : 0 ≤ x) (hx : x % 32 = 0) (hx1 : x ≤ 9223372036854775000) (h0 : 0 ≤ y) (h1 : y < 32) : bits .or .i64 x y = x + y := bits_join .i64 63 (by decide) wraps_i64_ 5 x y hx0 hx (by omega) h0 (by omega) (by omega)
theorem j6 {x y : Int} (hx0 : 0 ≤ x) (hx : x % 64 = 0) (hx1 : x ≤ 9223372036854775000) (h0 : 0 ≤ y) (h1 : y < 64) : bits .or .i64 x y = x + y := bits_join .i64 63 (by decide) wraps_i64_ 6 x y hx0 hx (by omega) h0 (by omega) (by omega)
theorem j8 {x y : Int} (hx0 : 0 ≤ x) (hx : x % 256 = 0) (hx1 : x ≤ 9223372036854775000) (h0 : 0 ≤ y) (h1 : y < 256) : bits .or .i64 x y = x + y := bits_join .i64 63 (by decide) wraps_i64_ 8 x y hx0 hx (by omega) h0 (by omega) (by omega)
theorem u192_tab : ∀ n : Fin 256, (bits .and .u8 ((n.val : Nat) : Int) 192 = 128) ↔ (128 ≤ ((n.val : Nat) : Int) ∧ ((n.val : Nat) : Int) ≤ 191) := by decide +kernel
theorem u63_tab : ∀ n : Fin 256, bits .and .u8 ((n.val : Nat) : Int) 63 = ((n.val : Nat) : Int) % 64 := by decide +kernel
theorem u192 {x : Int} (h0 : 0 ≤ x) (h1 : x ≤ 255) : (bits .and .u8 x 192 = 128) ↔ (128 ≤ x ∧ x ≤ 191) := by
  obtain ⟨n, rfl⟩ := Int.eq_ofNat_of_zero_le h0
  exact u192_tab ⟨n, by omega⟩
theorem u63 {x : Int} (h0 : 0 ≤ x) (h1 : x ≤ 255) : bits .and .u8 x 63 = x % 64 := by
  obtain ⟨n, rfl⟩ := Int.eq_ofNat_of_zero_le h0
  exact u63_tab ⟨n, by omega⟩
/-- A character of two bytes in UTF-8. -/
def putW (r : Int) : List Int := if r < 128 then [r] else if r < 2048 then [192 + r / 64, 128 + r % 64] else [224 + r / 4096, 128 + r / 64 % 64, 128 + r % 64]
theorem putW_len (r : Int) : (putW r).length ≤ 3 := by
  unfold putW
  repeat' split
  all_goals simp
theorem putB_W {r : Int} (h : r ≤ 255) : putB r = putW r := by
  unfold putB putW
  by_cases h1 : r ≤ 127
  · rw [if_pos h1, if_pos (by omega)]
  · rw [if_neg h1, if_neg (by omega), if_pos (by omega)]
theorem put_f (l : List Int) (r : Int) (h0 : 0 ≤ r) (h1 : r ≤ 65535) (hl : l.length ≤ 100000) : spec_put.f l r = some (l ++ putW r) := by
  unfold spec_put.f putW
  by_cases c1 : r < 128
  · rw [if_pos c1, if_pos c1, if_pos (by omega), show r % 256 = r by omega]
  rw [if_neg c1, if_neg c1]
  by_cases c2 : r < 2048
  · rw [if_pos c2, if_pos c2, m63 h0 (by omega), j6 (by omega) (by decide) (by omega) (by omega) (by omega), j6 (by omega) (by decide) (by omega) (by omega) (by omega)]
    simp only [Option.bind_some]
    rw [if_pos (by simp; omega), show (192 + r / 64) % 256 = 192 + r / 64 by omega, show (128 + r % 64) % 256 = 128 + r % 64 by omega]
  · rw [if_neg c2, if_neg c2, m63 h0 (by omega), m63 (x := r / 64) (by omega) (by omega), j5 (x := 224) (by omega) (by decide) (by omega) (by omega) (by omega), j6 (by omega) (by decide) (by omega) (by omega) (by omega), j6 (by omega) (by decide) (by omega) (by omega) (by omega)]
    simp only [Option.bind_some]
    rw [if_pos (by simp; omega), show (224 + r / 4096) % 256 = 224 + r / 4096 by omega, show (128 + r / 64 % 64) % 256 = 128 + r / 64 % 64 by omega, show (128 + r % 64) % 256 = 128 + r % 64 by omega]
theorem str_app (a b : List Int) : strOfNums (a ++ b) = strOfNums a ++ strOfNums b := by
  apply ByteArray.ext
  rw [ByteArray.data_append]
  simp [strOfNums]
theorem enc_W {r : Int} (h0 : 0 ≤ r) (h1 : r ≤ 65535) (hs : r < 55296 ∨ 57343 < r) : Utf8.encode r = strOfNums (putW r) := by
  obtain ⟨n, rfl⟩ := Int.eq_ofNat_of_zero_le h0
  have hv : Utf8.valid (n : Int) = true := by
    simp only [Utf8.valid]
    simp
    omega
  unfold Utf8.encode putW
  simp only [hv, if_true, Int.toNat_natCast]
  by_cases c1 : n < 128
  · rw [if_pos c1, if_pos (show (n : Int) < 128 by omega)]
    rfl
  rw [if_neg c1, if_neg (show ¬ (n : Int) < 128 by omega)]
  by_cases c2 : n < 2048
  · rw [if_pos c2, if_pos (show (n : Int) < 2048 by omega)]
    simp only [strOfNums, List.map_cons, List.map_nil]
    rw [show (192 + (n : Int) / 64).toNat = 192 + n / 64 by omega, show (128 + (n : Int) % 64).toNat = 128 + n % 64 by omega]
  · rw [if_neg c2, if_neg (show ¬ (n : Int) < 2048 by omega), if_pos (show n < 65536 by omega)]
    simp only [strOfNums, List.map_cons, List.map_nil]
    rw [show (224 + (n : Int) / 4096).toNat = 224 + n / 4096 by omega, show (128 + (n : Int) / 64 % 64).toNat = 128 + n / 64 % 64 by omega, show (128 + (n : Int) % 64).toNat = 128 + n % 64 by omega]
theorem okP_iff {p : Int} : okP p = true ↔ (p ≠ 65534 ∧ p ≠ 65535 ∧ ¬ (64976 ≤ p ∧ p ≤ 65007) ∧ ¬ (55296 ≤ p ∧ p ≤ 57343)) := by
  unfold okP
  simp
  omega
theorem runes_W : ∀ (ns : List Int) (s : ByteArray), (∀ p, p ∈ ns → 0 ≤ p ∧ p ≤ 65535) → ns.all okP = true → ns.foldl (fun r n => r ++ Utf8.encode n) s = s ++ strOfNums (ns.flatMap putW)
  | [], s, _, _ => by
    have : strOfNums (([] : List Int).flatMap putW) = ByteArray.empty := rfl
    rw [this]
    simp
  | p :: r, s, hb, ha => by
    simp only [List.all_cons, Bool.and_eq_true] at ha
    have hp := hb p List.mem_cons_self
    have ho := okP_iff.1 ha.1
    rw [List.foldl_cons, runes_W r _ (fun q hq => hb q (List.mem_cons_of_mem _ hq)) ha.2, enc_W hp.1 hp.2 (by omega), List.flatMap_cons, str_app, ByteArray.append_assoc]
theorem pts_bytes : ∀ (m : List Int), bytesIn m → ∀ p, p ∈ pts m → 0 ≤ p ∧ p ≤ 65535
  | [], _, p, h => by simp [pts] at h
  | [a], _, p, h => by simp [pts] at h
  | a :: b :: r, hb, p, h => by
    simp only [pts, List.mem_cons] at h
    rcases h with rfl | h
    · have h1 := hb a (by simp)
      have h2 := hb b (by simp)
      omega
    · exact pts_bytes r (fun x hx => hb x (by simp [hx])) p h
theorem bmp_str {m : List Int} (hb : bytesIn m) (h : (pts m).all okP = true) : runesBytes (pts m) = strOfNums ((pts m).flatMap putW) := by
  unfold runesBytes
  rw [runes_W _ _ (pts_bytes m hb) h]
  simp
/-! T61 -/
theorem rdb {l : List Int} (hb : bytesIn l) {i : Nat} (h : i < l.length) : 0 ≤ rd l (i : Int) ∧ rd l (i : Int) ≤ 255 := hb _ (rd_mem h)
theorem w64b {x : Int} (h0 : 0 ≤ x) (h1 : x ≤ 1000000000) : wrap64 x = x := by unfold wrap64; omega
theorem drop_rd {l : List Int} {i : Nat} (h : i < l.length) : l.drop i = rd l (i : Int) :: l.drop (i + 1) := by
  rw [List.drop_eq_getElem_cons h]
  unfold rd
  rw [Int.toNat_natCast, List.getD_eq_getElem?_getD, List.getElem?_eq_getElem h]
  rfl
theorem text3 (l : List Int) (hb : bytesIn l) (hl : l.length ≤ 200) : ∀ (d i k : Nat) (x : List Int), i + d = l.length → d < k → x.length ≤ 3 * i → spec_Text.l0 k x l (l.length : Int) (i : Int) = some (strOfNums (x ++ (l.drop i).flatMap putB), true)
  | 0, i, k, x, h, hk, hx => by
    obtain ⟨k, rfl⟩ : ∃ m, k = m + 1 := ⟨k - 1, by omega⟩
    simp only [spec_Text.l0]
    rw [if_neg (by omega), show l.drop i = [] from List.drop_eq_nil_of_le (by omega)]
    simp
  | d + 1, i, k, x, h, hk, hx => by
    obtain ⟨k, rfl⟩ : ∃ m, k = m + 1 := ⟨k - 1, by omega⟩
    have hr := rdb hb (show i < l.length by omega)
    have hp := putW_len (rd l (i : Int))
    simp only [spec_Text.l0]
    rw [if_pos (by omega), if_pos (by omega), if_pos (by omega), w64b hr.1 (by omega), put_f x _ hr.1 (by omega) (by omega)]
    simp only [Option.bind_some]
    rw [w64b (by omega) (by omega), show (i : Int) + 1 = ((i + 1 : Nat) : Int) by omega, text3 l hb hl d (i + 1) k _ (by omega) (by omega) (by rw [List.length_append]; omega), drop_rd (show i < l.length by omega), List.flatMap_cons, putB_W hr.2, List.append_assoc]
/-! letters -/
def accB (k c : Int) : Bool := ltB k c || (decide (k = 1) && (decide (c = 42) || decide (c = 38)))
theorem letter_f {k c : Int} (hk : k = 0 ∨ k = 1 ∨ k = 2) (h0 : 0 ≤ c) (h1 : c ≤ 255) : spec_letter.f k c = some (ltB k c) := by
  unfold spec_letter.f
  rw [if_pos ⟨hk, h0, h1⟩]
theorem text012 (kd : Int) (hkd : kd = 0 ∨ kd = 1 ∨ kd = 2) (l : List Int) (hb : bytesIn l) (hl : l.length ≤ 200) : ∀ (d i k : Nat), i + d = l.length → d < k → spec_Text.l3 k kd l l (l.length : Int) (i : Int) = some (if (l.drop i).all (accB kd) = true then (strOfNums l, true) else ((⟨#[]⟩ : ByteArray), false))
  | 0, i, k, h, hk => by
    obtain ⟨k, rfl⟩ : ∃ m, k = m + 1 := ⟨k - 1, by omega⟩
    simp only [spec_Text.l3]
    rw [if_neg (by omega), show l.drop i = [] from List.drop_eq_nil_of_le (by omega)]
    rfl
  | d + 1, i, k, h, hk => by
    obtain ⟨k, rfl⟩ : ∃ m, k = m + 1 := ⟨k - 1, by omega⟩
    have hr := rdb hb (show i < l.length by omega)
    have ih := text012 kd hkd l hb hl d (i + 1) k (by omega) (by omega)
    simp only [spec_Text.l3]
    rw [if_pos (by omega), if_pos (by omega), if_pos (by omega), letter_f hkd hr.1 hr.2]
    simp only [Option.bind_some]
    rw [w64b (by omega) (by omega), show (i : Int) + 1 = ((i + 1 : Nat) : Int) by omega, ih, all_drop (show i < l.length by omega)]
    unfold accB
    cases hlt : ltB kd (rd l (i : Int)) with
    | true => simp
    | false =>
      rw [if_neg (by decide)]
      by_cases k1 : kd = 1
      · rw [if_pos k1]
        by_cases c1 : rd l (i : Int) = 42
        · rw [if_pos c1]; simp [k1, c1]
        · rw [if_neg c1]
          by_cases c2 : rd l (i : Int) = 38
          · rw [if_pos c2]; simp [k1, c2]
          · rw [if_neg c2]; simp [k1, c1, c2]
      · rw [if_neg k1]; simp [k1]
theorem all_same {l : List Int} (hb : bytesIn l) {f g : Int → Bool} (h : ∀ c, 0 ≤ c → c ≤ 255 → f c = g c) : l.all f = l.all g := by
  induction l with
  | nil => rfl
  | cons x r ih =>
    rw [List.all_cons, List.all_cons, h x (hb x (by simp)).1 (hb x (by simp)).2, ih (fun y hy => hb y (by simp [hy]))]
theorem acc0 (c : Int) : accB 0 c = numB c := by
  unfold accB ltB numB
  simp
theorem acc2 (c : Int) : accB 2 c = ia5B c := by
  unfold accB ltB ia5B
  simp
theorem acc1 (c : Int) : accB 1 c = prB c true := by
  unfold accB ltB prB L12
  rw [Bool.eq_iff_iff]
  simp
  omega
/-! BMP -/
theorem drop2 {m : List Int} {j : Nat} (h : 2 * j + 1 < m.length) : pts (m.drop (2 * j)) = (rd m ((2 * j : Nat) : Int) * 256 + rd m ((2 * j + 1 : Nat) : Int)) :: pts (m.drop (2 * (j + 1))) := by
  rw [drop_rd (show 2 * j < m.length by omega), drop_rd (show 2 * j + 1 < m.length by omega)]
  simp only [pts]
  rw [show 2 * (j + 1) = 2 * j + 1 + 1 by omega]
theorem text5 (m : List Int) (hb : bytesIn m) (hl : m.length ≤ 200) (he : m.length % 2 = 0) : ∀ (d j k : Nat) (x : List Int), 2 * j + 2 * d = m.length → d < k → x.length ≤ 3 * j → spec_Text.l2 k m x ((2 * j : Nat) : Int) = some (if (pts (m.drop (2 * j))).all okP = true then (strOfNums (x ++ (pts (m.drop (2 * j))).flatMap putW), true) else ((⟨#[]⟩ : ByteArray), false))
  | 0, j, k, x, h, hk, hx => by
    obtain ⟨k, rfl⟩ : ∃ m, k = m + 1 := ⟨k - 1, by omega⟩
    simp only [spec_Text.l2]
    rw [if_neg (by omega), show m.drop (2 * j) = [] from List.drop_eq_nil_of_le (by omega)]
    simp [pts]
  | d + 1, j, k, x, h, hk, hx => by
    obtain ⟨k, rfl⟩ : ∃ m, k = m + 1 := ⟨k - 1, by omega⟩
    have h0 := rdb hb (show 2 * j < m.length by omega)
    have h1 := rdb hb (show 2 * j + 1 < m.length by omega)
    rw [drop2 (show 2 * j + 1 < m.length by omega)]
    obtain ⟨p, hp⟩ : ∃ p, p = rd m ((2 * j : Nat) : Int) * 256 + rd m ((2 * j + 1 : Nat) : Int) := ⟨_, rfl⟩
    rw [← hp]
    have bp : 0 ≤ p ∧ p ≤ 65535 := by omega
    have hput := put_f x p bp.1 bp.2 (by omega)
    have ih := text5 m hb hl he d (j + 1) k (x ++ putW p) (by omega) (by omega) (by have := putW_len p; rw [List.length_append]; omega)
    simp only [spec_Text.l2]
    rw [if_pos (by omega), if_pos (by omega), w64b (by omega) (by omega), if_pos (by omega), if_pos (by omega), show ((2 * j : Nat) : Int) + 1 = ((2 * j + 1 : Nat) : Int) by omega, w64b h0.1 (by omega), w64b h1.1 (by omega), w64b (x := rd m ((2 * j : Nat) : Int) * 256) (by omega) (by omega), j8 (by omega) (by omega) (by omega) h1.1 (by omega), ← hp, hput]
    simp only [Option.bind_some]
    rw [w64b (by omega) (by omega), show ((2 * j : Nat) : Int) + 2 = ((2 * (j + 1) : Nat) : Int) by omega, ih]
    rw [List.all_cons, List.flatMap_cons, List.append_assoc]
    cases hk : okP p with
    | true =>
      have ho := okP_iff.1 hk
      rw [Bool.true_and]
      repeat' split
      all_goals first | rfl | omega | (exfalso; omega)
    | false =>
      have ho : ¬ (p ≠ 65534 ∧ p ≠ 65535 ∧ ¬ (64976 ≤ p ∧ p ≤ 65007) ∧ ¬ (55296 ≤ p ∧ p ≤ 57343)) := fun h9 => by rw [okP_iff.2 h9] at hk; cases hk
      rw [Bool.false_and, if_neg (show ¬ (false = true) by decide)]
      by_cases a1 : p ≥ 55296
      · rw [if_pos a1]
        by_cases a2 : p < 57344
        · rw [if_pos a2]
        · rw [if_neg a2]
          by_cases a3 : p ≥ 64976
          · rw [if_pos a3]
            by_cases a4 : p ≤ 65007
            · rw [if_pos a4]
            · rw [if_neg a4, if_pos (by omega)]
          · exfalso; omega
      · exfalso; omega
theorem text5_f (K : Nat) (l : List Int) (hb : bytesIn l) (hl : l.length ≤ 200) (hK : 300 ≤ K) : spec_Text.f K 5 l = some (if txOk 5 l = true then (txS 5 l, true) else ((⟨#[]⟩ : ByteArray), false)) := by
  have hS : txS 5 l = runesBytes (pts (cutZ l)) := rfl
  have hO : txOk 5 l = (decide (l.length % 2 = 0) && (pts (cutZ l)).all okP) := rfl
  have hbc : bytesIn (cutZ l) := by
    unfold cutZ
    split
    · exact fun x hx => hb x (List.mem_of_mem_take hx)
    · exact hb
  have fin : ∀ k, 250 ≤ k → (cutZ l).length % 2 = 0 → (cutZ l).length ≤ 200 → spec_Text.j3 k (cutZ l) [] = some (if (pts (cutZ l)).all okP = true then (runesBytes (pts (cutZ l)), true) else ((⟨#[]⟩ : ByteArray), false)) := by
    intro k hk he hc
    obtain ⟨k, rfl⟩ : ∃ m, k = m + 1 := ⟨k - 1, by omega⟩
    simp only [spec_Text.j3]
    have h9 := text5 (cutZ l) hbc hc he ((cutZ l).length / 2) 0 k [] (by omega) (by omega) (by simp)
    rw [Nat.mul_zero, List.drop_zero, List.nil_append] at h9
    rw [show (0 : Int) = ((0 : Nat) : Int) from rfl, h9]
    by_cases ha : (pts (cutZ l)).all okP = true
    · rw [if_pos ha, if_pos ha, bmp_str hbc ha]
    · rw [if_neg ha, if_neg ha]
  unfold spec_Text.f
  rw [Option.bind_some, if_neg (show ¬ (5 : Int) = 3 by decide), if_neg (show ¬ (5 : Int) = 4 by decide), if_pos (show (5 : Int) = 5 from rfl), hO, hS]
  by_cases he : l.length % 2 = 0
  · rw [if_neg (by omega), decide_eq_true he, Bool.true_and]
    obtain ⟨K, rfl⟩ : ∃ m, K = m + 1 := ⟨K - 1, by omega⟩
    by_cases h0 : (l.length : Int) > 0
    · rw [if_pos h0, w64b (x := (l.length : Int) - 1) (by omega) (by omega), if_pos (by omega), if_pos (by omega), w64b (x := (l.length : Int) - 2) (by omega) (by omega)]
      by_cases z1 : rd l ((l.length : Int) - 1) = 0
      · rw [if_pos z1, if_pos (by omega), if_pos (by omega)]
        by_cases z2 : rd l ((l.length : Int) - 2) = 0
        · have hc : cutZ l = l.take (l.length - 2) := by
            unfold cutZ
            rw [if_pos ⟨by omega, z1, z2⟩]
          rw [show (rd l ((l.length : Int) - 2) == 0) = true from beq_iff_eq.mpr z2]
          simp only [spec_Text.j2]
          rw [if_pos trivial, w64b (x := (l.length : Int) - 2) (by omega) (by omega), if_pos (by omega), if_pos (by omega), show ((l.length : Int) - 2).toNat = l.length - 2 by omega, ← hc]
          refine fin K (by omega) ?_ ?_
          · rw [hc, List.length_take]; omega
          · rw [hc, List.length_take]; omega
        · have hc : cutZ l = l := by
            unfold cutZ
            rw [if_neg (fun h => z2 h.2.2)]
          rw [show (rd l ((l.length : Int) - 2) == 0) = false from beq_eq_false_iff_ne.mpr z2]
          simp only [spec_Text.j2]
          rw [if_neg (by decide)]
          have h9 := fin K (by omega) (by rw [hc]; exact he) (by rw [hc]; omega)
          rw [hc] at h9 ⊢
          exact h9
      · have hc : cutZ l = l := by
          unfold cutZ
          rw [if_neg (fun h => z1 h.2.1)]
        rw [if_neg z1]
        simp only [spec_Text.j2]
        rw [if_neg (by decide)]
        have h9 := fin K (by omega) (by rw [hc]; exact he) (by rw [hc]; omega)
        rw [hc] at h9 ⊢
        exact h9
    · have hc : cutZ l = l := by
        unfold cutZ
        rw [if_neg (fun h => by have := h.1; omega)]
      rw [if_neg h0]
      simp only [spec_Text.j2]
      rw [if_neg (by decide)]
      have h9 := fin K (by omega) (by rw [hc]; exact he) (by rw [hc]; omega)
      rw [hc] at h9 ⊢
      exact h9
  · rw [if_pos (by omega), decide_eq_false he, Bool.false_and, if_neg (by decide)]
theorem text012_f (K : Nat) (k : Int) (hk : k = 0 ∨ k = 1 ∨ k = 2) (l : List Int) (hb : bytesIn l) (hl : l.length ≤ 200) (hK : 300 ≤ K) : spec_Text.f K k l = some (if txOk k l = true then (txS k l, true) else ((⟨#[]⟩ : ByteArray), false)) := by
  unfold spec_Text.f
  rw [Option.bind_some, if_neg (show ¬ k = 3 by omega), if_neg (show ¬ k = 4 by omega), if_neg (show ¬ k = 5 by omega)]
  have h9 := text012 k hk l hb hl l.length 0 K (by omega) (by omega)
  rw [List.drop_zero] at h9
  rw [show (0 : Int) = ((0 : Nat) : Int) from rfl, h9]
  rcases hk with rfl | rfl | rfl
  · rw [all_same hb (fun c _ _ => acc0 c)]; rfl
  · rw [all_same hb (g := fun c => prB c true) (fun c _ _ => acc1 c)]; rfl
  · rw [all_same hb (fun c _ _ => acc2 c)]; rfl
theorem text3_f (K : Nat) (l : List Int) (hb : bytesIn l) (hl : l.length ≤ 200) (hK : 300 ≤ K) : spec_Text.f K 3 l = some (txS 3 l, true) := by
  unfold spec_Text.f
  rw [Option.bind_some, if_pos (show (3 : Int) = 3 from rfl)]
  have h9 := text3 l hb hl l.length 0 K [] (by omega) (by omega) (by simp)
  rw [List.drop_zero, List.nil_append] at h9
  rw [show (0 : Int) = ((0 : Nat) : Int) from rfl, h9]
  rfl

/-! UTF-8 -/
def V8 (m : List Int) : Bool := Lib.validD (strOfNums m).data.toList
theorem data_str (m : List Int) : (strOfNums m).data.toList = m.map fun n => UInt8.ofNat n.toNat := by
  unfold strOfNums
  simp
theorem getD_str {m : List Int} (hb : bytesIn m) (j : Nat) (h : j < m.length) : (((m.map fun n => UInt8.ofNat n.toNat).getD j 0).toNat : Int) = rd m (j : Int) := by
  have hr := rdb hb h
  unfold rd at hr ⊢
  rw [Int.toNat_natCast] at hr ⊢
  rw [List.getD_eq_getElem?_getD, List.getD_eq_getElem?_getD, List.getElem?_map, List.getElem?_eq_getElem h] at *
  simp only [Option.map_some, Option.getD_some] at hr ⊢
  rw [UInt8.toNat_ofNat']
  omega
theorem V8_nil : V8 [] = true := rfl
theorem V8_asc {m : List Int} (hb : bytesIn m) (h0 : 0 < m.length) (h : rd m 0 < 128) : V8 m = V8 (m.drop 1) := by
  have hx := getD_str hb 0 h0
  have h9 := Lib.valid_skip (strOfNums m) 1 (Lib.asc_one (strOfNums m) (by rw [strOfNums_size]; exact h0) (by
    have := str_get hb 0 h0
    have e : rd m ((0 : Nat) : Int) = rd m 0 := rfl
    omega))
  unfold V8
  rw [← h9, ext_str]
theorem V8_lead {m : List Int} (hb : bytesIn m) (h0 : 0 < m.length) (c : Nat) (hc : rd m 0 = (c : Int)) (h : 128 ≤ c) (b1 b2 b3 : Nat) (e1 : 1 < m.length → rd m 1 = (b1 : Int)) (e2 : 2 < m.length → rd m 2 = (b2 : Int)) (e3 : 3 < m.length → rd m 3 = (b3 : Int)) :
    V8 m = match Lib.checkN m.length b1 b2 b3 (Lib.firstT c % 8) (Lib.accLo (Lib.firstT c / 16)) (Lib.accHi (Lib.firstT c / 16)) with
      | none => false
      | some k => V8 (m.drop k) := by
  have hne : (m.map fun n => UInt8.ofNat n.toNat) ≠ [] := by
    intro h9
    have := congrArg List.length h9
    rw [List.length_map] at this
    simp only [List.length_nil] at this
    omega
  have g0 := getD_str hb 0 h0
  have c0 : ((m.map fun n => UInt8.ofNat n.toNat).getD 0 0).toNat = c := by
    have e : rd m ((0 : Nat) : Int) = rd m 0 := rfl
    omega
  have hl := Lib.validD_lead (m.map fun n => UInt8.ofNat n.toNat) hne (by rw [c0]; exact h)
  rw [c0, List.length_map] at hl
  unfold V8
  rw [data_str, hl]
  have hk : Lib.checkN m.length ((m.map fun n => UInt8.ofNat n.toNat).getD 1 0).toNat ((m.map fun n => UInt8.ofNat n.toNat).getD 2 0).toNat ((m.map fun n => UInt8.ofNat n.toNat).getD 3 0).toNat (Lib.firstT c % 8) (Lib.accLo (Lib.firstT c / 16)) (Lib.accHi (Lib.firstT c / 16)) = Lib.checkN m.length b1 b2 b3 (Lib.firstT c % 8) (Lib.accLo (Lib.firstT c / 16)) (Lib.accHi (Lib.firstT c / 16)) := by
    have k1 : 1 < m.length → ((m.map fun n => UInt8.ofNat n.toNat).getD 1 0).toNat = b1 := fun h9 => by
      have := getD_str hb 1 h9
      have := e1 h9
      have e : rd m ((1 : Nat) : Int) = rd m 1 := rfl
      omega
    have k2 : 2 < m.length → ((m.map fun n => UInt8.ofNat n.toNat).getD 2 0).toNat = b2 := fun h9 => by
      have := getD_str hb 2 h9
      have := e2 h9
      have e : rd m ((2 : Nat) : Int) = rd m 2 := rfl
      omega
    have k3 : 3 < m.length → ((m.map fun n => UInt8.ofNat n.toNat).getD 3 0).toNat = b3 := fun h9 => by
      have := getD_str hb 3 h9
      have := e3 h9
      have e : rd m ((3 : Nat) : Int) = rd m 3 := rfl
      omega
    unfold Lib.checkN
    by_cases s2 : Lib.firstT c % 8 = 2
    · rw [if_pos s2, if_pos s2]
      by_cases l2 : m.length < 2
      · rw [if_pos (.inl l2), if_pos (.inl l2)]
      · rw [k1 (by omega)]
    · rw [if_neg s2, if_neg s2]
      by_cases s3 : Lib.firstT c % 8 = 3
      · rw [if_pos s3, if_pos s3]
        by_cases l3 : m.length < 3
        · rw [if_pos (.inl l3), if_pos (.inl l3)]
        · rw [k1 (by omega), k2 (by omega)]
      · rw [if_neg s3, if_neg s3]
        by_cases s4 : Lib.firstT c % 8 = 4
        · rw [if_pos s4, if_pos s4]
          by_cases l4 : m.length < 4
          · rw [if_pos (.inl l4), if_pos (.inl l4)]
          · rw [k1 (by omega), k2 (by omega), k3 (by omega)]
        · rw [if_neg s4, if_neg s4]
  rw [hk]
  cases Lib.checkN m.length b1 b2 b3 (Lib.firstT c % 8) (Lib.accLo (Lib.firstT c / 16)) (Lib.accHi (Lib.firstT c / 16)) with
  | none => rfl
  | some k =>
    show Lib.validD ((m.map fun n => UInt8.ofNat n.toNat).drop k) = Lib.validD (strOfNums (m.drop k)).data.toList
    rw [data_str, List.map_drop]
def okv (least v : Int) : Bool := decide (least ≤ v) && decide (v ≤ 1114111) && (decide (v < 55296) || decide (57344 ≤ v))
theorem rune_end (k : Nat) (m : List Int) (n v least i : Int) (h : ¬ i < n) : spec_Rune.l0 (k + 1) m n v least i = some (v, n, okv least v) := by
  simp only [spec_Rune.l0]
  rw [if_neg h]
  unfold okv
  by_cases a : v ≥ least
  · rw [if_pos a, decide_eq_true (show least ≤ v from a)]
    by_cases b : v ≤ 1114111
    · rw [if_pos b, decide_eq_true b]
      by_cases c : v < 55296
      · rw [if_pos c, decide_eq_true c]; rfl
      · rw [if_neg c, decide_eq_false c]
        simp
    · rw [if_neg b, decide_eq_false b]
      simp
  · rw [if_neg a, decide_eq_false (show ¬ least ≤ v from a)]
    simp
theorem rune_step (k : Nat) (m : List Int) (hb : bytesIn m) (n v least : Int) (i : Nat) (h : (i : Int) < n) (hi : i < m.length) (hil : i ≤ 10) (hv : 0 ≤ v ∧ v ≤ 10000000) : spec_Rune.l0 (k + 1) m n v least (i : Int) = if 128 ≤ rd m (i : Int) ∧ rd m (i : Int) ≤ 191 then spec_Rune.l0 k m n (v * 64 + rd m (i : Int) % 64) least ((i + 1 : Nat) : Int) else some (0, 1, false) := by
  have hr := rdb hb hi
  conv => lhs; simp only [spec_Rune.l0]
  rw [if_pos h, if_pos (by omega), if_pos (by omega)]
  by_cases c : 128 ≤ rd m (i : Int) ∧ rd m (i : Int) ≤ 191
  · rw [if_pos ((u192 hr.1 hr.2).2 c), if_pos c, u63 hr.1 hr.2, w64b (x := v * 64) (by omega) (by omega), w64b (x := rd m (i : Int) % 64) (by omega) (by omega), j6 (by omega) (by omega) (by omega) (by omega) (by omega), w64b (x := (i : Int) + 1) (by omega) (by omega)]
    rfl
  · rw [if_neg (fun h9 => c ((u192 hr.1 hr.2).1 h9)), if_neg c]
theorem firstT_cases9 (c : Nat) (h : 128 ≤ c) (h9 : c ≤ 255) : (c < 194 ∧ Lib.firstT c = 241) ∨ (194 ≤ c ∧ c < 224 ∧ Lib.firstT c = 2) ∨ (c = 224 ∧ Lib.firstT c = 19) ∨ ((225 ≤ c ∧ c < 237 ∨ 238 ≤ c ∧ c < 240) ∧ Lib.firstT c = 3) ∨ (c = 237 ∧ Lib.firstT c = 35) ∨ (c = 240 ∧ Lib.firstT c = 52) ∨ (241 ≤ c ∧ c < 244 ∧ Lib.firstT c = 4) ∨ (c = 244 ∧ Lib.firstT c = 68) ∨ (245 ≤ c ∧ Lib.firstT c = 241) := by
  unfold Lib.firstT
  rw [if_neg (by omega)]
  by_cases a1 : c < 194
  · rw [if_pos a1]; omega
  rw [if_neg a1]
  by_cases a2 : c < 224
  · rw [if_pos a2]; omega
  rw [if_neg a2]
  by_cases a3 : c = 224
  · rw [if_pos a3]; omega
  rw [if_neg a3]
  by_cases a4 : c < 237
  · rw [if_pos a4]; omega
  rw [if_neg a4]
  by_cases a5 : c = 237
  · rw [if_pos a5]; omega
  rw [if_neg a5]
  by_cases a6 : c < 240
  · rw [if_pos a6]; omega
  rw [if_neg a6]
  by_cases a7 : c = 240
  · rw [if_pos a7]; omega
  rw [if_neg a7]
  by_cases a8 : c < 244
  · rw [if_pos a8]; omega
  rw [if_neg a8]
  by_cases a9 : c = 244
  · rw [if_pos a9]; omega
  rw [if_neg a9]
  omega
/-- What Rune answers at bytes that are not none: whether the first character is one, and then its length. -/
def Said (m : List Int) (r : Option (Int × Int × Bool)) : Prop := ∃ (v : Int) (n : Nat) (ok : Bool), r = some (v, (n : Int), ok) ∧ (ok = true → 1 ≤ n ∧ n ≤ m.length ∧ V8 m = V8 (m.drop n)) ∧ (ok = false → V8 m = false)
theorem said_no {m : List Int} (h : V8 m = false) (v : Int) (n : Nat) : Said m (some (v, (n : Int), false)) := ⟨v, n, false, rfl, fun h9 => (by cases h9), fun _ => h⟩
theorem said_ok {m : List Int} (v : Int) (n : Nat) (ok : Bool) (h1 : ok = true → 1 ≤ n ∧ n ≤ m.length ∧ V8 m = V8 (m.drop n)) (h2 : ok = false → V8 m = false) : Said m (some (v, (n : Int), ok)) := ⟨v, n, ok, rfl, h1, h2⟩
theorem j2_bad (k : Nat) (m : List Int) (n v least : Int) (h : n = 0 ∨ (m.length : Int) < n) : spec_Rune.j2 (k + 2) m n v least = some (0, 1, false) := by
  simp only [spec_Rune.j2]
  by_cases a : n = 0
  · rw [if_pos a]
    simp only [spec_Rune.j3]
    rfl
  · rw [if_neg a, decide_eq_true (by omega)]
    simp only [spec_Rune.j3]
    rfl
theorem j2_good (k : Nat) (m : List Int) (n v least : Int) (h : n ≠ 0) (h2 : ¬ (m.length : Int) < n) : spec_Rune.j2 (k + 2) m n v least = spec_Rune.l0 k m n v least ((1 : Nat) : Int) := by
  simp only [spec_Rune.j2]
  rw [if_neg h, decide_eq_false h2]
  simp only [spec_Rune.j3]
  rw [if_neg (by decide)]
  rfl
theorem nat_of {x : Int} (h : 0 ≤ x) : ∃ n : Nat, x = (n : Int) := Int.eq_ofNat_of_zero_le h
theorem rune_2 (k : Nat) (m : List Int) (hb : bytesIn m) (h0 : 0 < m.length) (c : Nat) (hc : rd m 0 = (c : Int)) (h1 : 194 ≤ c) (h2 : c < 224) : Said m (spec_Rune.j2 (k + 9) m 2 ((c : Int) % 32) 128) := by
  have hf : Lib.firstT c = 2 := by rcases firstT_cases9 c (by omega) (by omega) with h | h | h | h | h | h | h | h | h <;> omega
  obtain ⟨b1, e1⟩ : ∃ b1 : Nat, 1 < m.length → rd m 1 = (b1 : Int) := by
    by_cases h : 1 < m.length
    · obtain ⟨n, hn⟩ := nat_of (rdb hb h).1
      exact ⟨n, fun _ => hn⟩
    · exact ⟨0, fun h9 => absurd h9 h⟩
  have hV := V8_lead hb h0 c hc (by omega) b1 (rd m 2).toNat (rd m 3).toNat e1 (fun h => by have := (rdb hb h).1; have e : rd m ((2 : Nat) : Int) = rd m 2 := rfl; omega) (fun h => by have := (rdb hb h).1; have e : rd m ((3 : Nat) : Int) = rd m 3 := rfl; omega)
  rw [hf] at hV
  simp only [Lib.checkN, Lib.accLo, Lib.accHi, Nat.reduceMod, Nat.reduceDiv, if_true] at hV
  by_cases l2 : m.length < 2
  · rw [if_pos (.inl l2)] at hV
    rw [show k + 9 = (k + 7) + 2 by omega, j2_bad _ _ _ _ _ (.inr (by omega))]
    exact said_no hV 0 1
  · have r1 := rdb hb (show 1 < m.length by omega)
    have e1' := e1 (by omega)
    have ee : rd m ((1 : Nat) : Int) = rd m 1 := rfl
    rw [show k + 9 = (k + 7) + 2 by omega, j2_good _ _ _ _ _ (by decide) (by omega), show k + 7 = (k + 6) + 1 by omega, rune_step _ m hb 2 _ _ 1 (by omega) (by omega) (by omega) (by omega)]
    by_cases a : 128 ≤ rd m ((1 : Nat) : Int) ∧ rd m ((1 : Nat) : Int) ≤ 191
    · rw [if_pos a, show k + 6 = (k + 5) + 1 by omega, rune_end _ _ _ _ _ _ (by omega)]
      rw [if_neg (by omega)] at hV
      refine said_ok _ 2 _ (fun _ => ⟨by omega, by omega, hV⟩) (fun h9 => ?_)
      exfalso
      unfold okv at h9
      rw [decide_eq_true (by omega), decide_eq_true (by omega), decide_eq_true (show (c : Int) % 32 * 64 + rd m ((1 : Nat) : Int) % 64 < 55296 by omega)] at h9
      simp at h9
    · rw [if_neg a]
      rw [if_pos (by omega)] at hV
      exact said_no hV 0 1
theorem rune_3 (k : Nat) (m : List Int) (hb : bytesIn m) (h0 : 0 < m.length) (c : Nat) (hc : rd m 0 = (c : Int)) (h1 : 224 ≤ c) (h2 : c < 240) : Said m (spec_Rune.j2 (k + 9) m 3 ((c : Int) % 16) 2048) := by
  obtain ⟨b1, e1⟩ : ∃ b1 : Nat, 1 < m.length → rd m 1 = (b1 : Int) := by
    by_cases h : 1 < m.length
    · obtain ⟨n, hn⟩ := nat_of (rdb hb h).1
      exact ⟨n, fun _ => hn⟩
    · exact ⟨0, fun h9 => absurd h9 h⟩
  obtain ⟨b2, e2⟩ : ∃ b2 : Nat, 2 < m.length → rd m 2 = (b2 : Int) := by
    by_cases h : 2 < m.length
    · obtain ⟨n, hn⟩ := nat_of (rdb hb h).1
      exact ⟨n, fun _ => hn⟩
    · exact ⟨0, fun h9 => absurd h9 h⟩
  have hV := V8_lead hb h0 c hc (by omega) b1 b2 (rd m 3).toNat e1 e2 (fun h => by have := (rdb hb h).1; have e : rd m ((3 : Nat) : Int) = rd m 3 := rfl; omega)
  obtain ⟨lo, hi, hcl, hV⟩ : ∃ lo hi : Nat, ((c = 224 ∧ lo = 160 ∧ hi = 191) ∨ (c = 237 ∧ lo = 128 ∧ hi = 159) ∨ (c ≠ 224 ∧ c ≠ 237 ∧ lo = 128 ∧ hi = 191)) ∧ V8 m = match (if m.length < 3 ∨ b1 < lo ∨ hi < b1 ∨ b2 < 128 ∨ 191 < b2 then none else some 3 : Option Nat) with
      | none => false
      | some k => V8 (m.drop k) := by
    rcases firstT_cases9 c (by omega) (by omega) with h | h | h | h | h | h | h | h | h
    · omega
    · omega
    · rw [h.2] at hV
      exact ⟨160, 191, .inl ⟨h.1, rfl, rfl⟩, hV⟩
    · rw [h.2] at hV
      exact ⟨128, 191, .inr (.inr ⟨by omega, by omega, rfl, rfl⟩), hV⟩
    · rw [h.2] at hV
      exact ⟨128, 159, .inr (.inl ⟨h.1, rfl, rfl⟩), hV⟩
    · omega
    · omega
    · omega
    · omega
  by_cases l3 : m.length < 3
  · rw [if_pos (.inl l3)] at hV
    rw [show k + 9 = (k + 7) + 2 by omega, j2_bad _ _ _ _ _ (.inr (by omega))]
    exact said_no hV 0 1
  · have r1 := rdb hb (show 1 < m.length by omega)
    have r2 := rdb hb (show 2 < m.length by omega)
    have e1' := e1 (by omega)
    have e2' := e2 (by omega)
    have ee : rd m ((1 : Nat) : Int) = rd m 1 := rfl
    have ee2 : rd m ((2 : Nat) : Int) = rd m 2 := rfl
    rw [show k + 9 = (k + 7) + 2 by omega, j2_good _ _ _ _ _ (by decide) (by omega), show k + 7 = (k + 6) + 1 by omega, rune_step _ m hb 3 _ _ 1 (by omega) (by omega) (by omega) (by omega)]
    by_cases a : 128 ≤ rd m ((1 : Nat) : Int) ∧ rd m ((1 : Nat) : Int) ≤ 191
    · rw [if_pos a, show k + 6 = (k + 5) + 1 by omega, rune_step _ m hb 3 _ _ 2 (by omega) (by omega) (by omega) (by omega)]
      by_cases b : 128 ≤ rd m ((2 : Nat) : Int) ∧ rd m ((2 : Nat) : Int) ≤ 191
      · rw [if_pos b, show k + 5 = (k + 4) + 1 by omega, rune_end _ _ _ _ _ _ (by omega)]
        have ok : okv 2048 (((c : Int) % 16 * 64 + rd m ((1 : Nat) : Int) % 64) * 64 + rd m ((2 : Nat) : Int) % 64) = true ↔ ¬ (m.length < 3 ∨ b1 < lo ∨ hi < b1 ∨ b2 < 128 ∨ 191 < b2) := by
          unfold okv
          simp only [Bool.and_eq_true, Bool.or_eq_true, decide_eq_true_eq]
          omega
        refine said_ok _ 3 _ (fun h9 => ⟨by omega, by omega, ?_⟩) (fun h9 => ?_)
        · rw [if_neg (ok.1 h9)] at hV
          exact hV
        · by_cases z : m.length < 3 ∨ b1 < lo ∨ hi < b1 ∨ b2 < 128 ∨ 191 < b2
          · rw [if_pos z] at hV
            exact hV
          · rw [ok.2 z] at h9
            cases h9
      · rw [if_neg b]
        rw [if_pos (by omega)] at hV
        exact said_no hV 0 1
    · rw [if_neg a]
      rw [if_pos (by omega)] at hV
      exact said_no hV 0 1
theorem rune_4 (k : Nat) (m : List Int) (hb : bytesIn m) (h0 : 0 < m.length) (c : Nat) (hc : rd m 0 = (c : Int)) (h1 : 240 ≤ c) (h2 : c < 245) : Said m (spec_Rune.j2 (k + 9) m 4 ((c : Int) % 8) 65536) := by
  obtain ⟨b1, e1⟩ : ∃ b1 : Nat, 1 < m.length → rd m 1 = (b1 : Int) := by
    by_cases h : 1 < m.length
    · obtain ⟨n, hn⟩ := nat_of (rdb hb h).1
      exact ⟨n, fun _ => hn⟩
    · exact ⟨0, fun h9 => absurd h9 h⟩
  obtain ⟨b2, e2⟩ : ∃ b2 : Nat, 2 < m.length → rd m 2 = (b2 : Int) := by
    by_cases h : 2 < m.length
    · obtain ⟨n, hn⟩ := nat_of (rdb hb h).1
      exact ⟨n, fun _ => hn⟩
    · exact ⟨0, fun h9 => absurd h9 h⟩
  obtain ⟨b3, e3⟩ : ∃ b3 : Nat, 3 < m.length → rd m 3 = (b3 : Int) := by
    by_cases h : 3 < m.length
    · obtain ⟨n, hn⟩ := nat_of (rdb hb h).1
      exact ⟨n, fun _ => hn⟩
    · exact ⟨0, fun h9 => absurd h9 h⟩
  have hV := V8_lead hb h0 c hc (by omega) b1 b2 b3 e1 e2 e3
  obtain ⟨lo, hi, hcl, hV⟩ : ∃ lo hi : Nat, ((c = 240 ∧ lo = 144 ∧ hi = 191) ∨ (c = 244 ∧ lo = 128 ∧ hi = 143) ∨ (c ≠ 240 ∧ c ≠ 244 ∧ lo = 128 ∧ hi = 191)) ∧ V8 m = match (if m.length < 4 ∨ b1 < lo ∨ hi < b1 ∨ b2 < 128 ∨ 191 < b2 ∨ b3 < 128 ∨ 191 < b3 then none else some 4 : Option Nat) with
      | none => false
      | some k => V8 (m.drop k) := by
    rcases firstT_cases9 c (by omega) (by omega) with h | h | h | h | h | h | h | h | h
    · omega
    · omega
    · omega
    · omega
    · omega
    · rw [h.2] at hV
      exact ⟨144, 191, .inl ⟨h.1, rfl, rfl⟩, hV⟩
    · rw [h.2.2] at hV
      exact ⟨128, 191, .inr (.inr ⟨by omega, by omega, rfl, rfl⟩), hV⟩
    · rw [h.2] at hV
      exact ⟨128, 143, .inr (.inl ⟨h.1, rfl, rfl⟩), hV⟩
    · omega
  by_cases l4 : m.length < 4
  · rw [if_pos (.inl l4)] at hV
    rw [show k + 9 = (k + 7) + 2 by omega, j2_bad _ _ _ _ _ (.inr (by omega))]
    exact said_no hV 0 1
  · have r1 := rdb hb (show 1 < m.length by omega)
    have r2 := rdb hb (show 2 < m.length by omega)
    have r3 := rdb hb (show 3 < m.length by omega)
    have e1' := e1 (by omega)
    have e2' := e2 (by omega)
    have e3' := e3 (by omega)
    have ee : rd m ((1 : Nat) : Int) = rd m 1 := rfl
    have ee2 : rd m ((2 : Nat) : Int) = rd m 2 := rfl
    have ee3 : rd m ((3 : Nat) : Int) = rd m 3 := rfl
    rw [show k + 9 = (k + 7) + 2 by omega, j2_good _ _ _ _ _ (by decide) (by omega), show k + 7 = (k + 6) + 1 by omega, rune_step _ m hb 4 _ _ 1 (by omega) (by omega) (by omega) (by omega)]
    by_cases a : 128 ≤ rd m ((1 : Nat) : Int) ∧ rd m ((1 : Nat) : Int) ≤ 191
    · rw [if_pos a, show k + 6 = (k + 5) + 1 by omega, rune_step _ m hb 4 _ _ 2 (by omega) (by omega) (by omega) (by omega)]
      by_cases b : 128 ≤ rd m ((2 : Nat) : Int) ∧ rd m ((2 : Nat) : Int) ≤ 191
      · rw [if_pos b, show k + 5 = (k + 4) + 1 by omega, rune_step _ m hb 4 _ _ 3 (by omega) (by omega) (by omega) (by omega)]
        by_cases d : 128 ≤ rd m ((3 : Nat) : Int) ∧ rd m ((3 : Nat) : Int) ≤ 191
        · rw [if_pos d, show k + 4 = (k + 3) + 1 by omega, rune_end _ _ _ _ _ _ (by omega)]
          have ok : okv 65536 ((((c : Int) % 8 * 64 + rd m ((1 : Nat) : Int) % 64) * 64 + rd m ((2 : Nat) : Int) % 64) * 64 + rd m ((3 : Nat) : Int) % 64) = true ↔ ¬ (m.length < 4 ∨ b1 < lo ∨ hi < b1 ∨ b2 < 128 ∨ 191 < b2 ∨ b3 < 128 ∨ 191 < b3) := by
            unfold okv
            simp only [Bool.and_eq_true, Bool.or_eq_true, decide_eq_true_eq]
            omega
          refine said_ok _ 4 _ (fun h9 => ⟨by omega, by omega, ?_⟩) (fun h9 => ?_)
          · rw [if_neg (ok.1 h9)] at hV
            exact hV
          · by_cases z : m.length < 4 ∨ b1 < lo ∨ hi < b1 ∨ b2 < 128 ∨ 191 < b2 ∨ b3 < 128 ∨ 191 < b3
            · rw [if_pos z] at hV
              exact hV
            · rw [ok.2 z] at h9
              cases h9
        · rw [if_neg d]
          rw [if_pos (by omega)] at hV
          exact said_no hV 0 1
      · rw [if_neg b]
        rw [if_pos (by omega)] at hV
        exact said_no hV 0 1
    · rw [if_neg a]
      rw [if_pos (by omega)] at hV
      exact said_no hV 0 1
theorem rune_said (k : Nat) (m : List Int) (hb : bytesIn m) (h0 : 0 < m.length) : Said m (spec_Rune.f (k + 11) m) := by
  have r0 := rdb hb h0
  have e0 : rd m ((0 : Nat) : Int) = rd m 0 := rfl
  rw [e0] at r0
  obtain ⟨c, hc⟩ := nat_of r0.1
  unfold spec_Rune.f
  rw [if_neg (by omega), if_pos (by omega), w64b r0.1 (by omega), hc]
  by_cases a : (c : Int) < 128
  · rw [if_pos a]
    exact said_ok _ 1 true (fun _ => ⟨by omega, by omega, V8_asc hb h0 (by omega)⟩) (fun h => by cases h)
  rw [if_neg a]
  have bad : (c < 194 ∨ 245 ≤ c) → V8 m = false := by
    intro h
    have hV := V8_lead hb h0 c hc (by omega) (rd m 1).toNat (rd m 2).toNat (rd m 3).toNat (fun h => by have := (rdb hb h).1; have e : rd m ((1 : Nat) : Int) = rd m 1 := rfl; omega) (fun h => by have := (rdb hb h).1; have e : rd m ((2 : Nat) : Int) = rd m 2 := rfl; omega) (fun h => by have := (rdb hb h).1; have e : rd m ((3 : Nat) : Int) = rd m 3 := rfl; omega)
    have hf : Lib.firstT c = 241 := by rcases firstT_cases9 c (by omega) (by omega) with h | h | h | h | h | h | h | h | h <;> omega
    rw [hf] at hV
    exact hV
  have g31 := m31 (x := (c : Int)) (by omega) (by omega)
  have g15 := m15 (x := (c : Int)) (by omega) (by omega)
  have g7 := m7 (x := (c : Int)) (by omega) (by omega)
  by_cases b : (c : Int) ≥ 194
  · rw [if_pos b]
    by_cases d : (c : Int) < 224
    · rw [decide_eq_true d, show k + 11 = (k + 10) + 1 by omega]
      simp only [spec_Rune.j0]
      rw [if_pos trivial, g31, show k + 10 = (k + 1) + 9 by omega]
      exact rune_2 (k + 1) m hb h0 c hc (by omega) (by omega)
    · rw [decide_eq_false d, show k + 11 = (k + 10) + 1 by omega]
      simp only [spec_Rune.j0]
      rw [if_neg (by decide), if_pos (by omega)]
      by_cases e : (c : Int) < 240
      · rw [decide_eq_true e, show k + 10 = (k + 9) + 1 by omega]
        simp only [spec_Rune.j1]
        rw [if_pos trivial, g15]
        exact rune_3 k m hb h0 c hc (by omega) (by omega)
      · rw [decide_eq_false e, show k + 10 = (k + 9) + 1 by omega]
        simp only [spec_Rune.j1]
        rw [if_neg (by decide), if_pos (by omega)]
        by_cases f : (c : Int) < 245
        · rw [if_pos f, g7]
          exact rune_4 k m hb h0 c hc (by omega) (by omega)
        · rw [if_neg f, show k + 9 = (k + 7) + 2 by omega, j2_bad _ _ _ _ _ (.inl rfl)]
          exact said_no (bad (.inr (by omega))) 0 1
  · rw [if_neg b, show k + 11 = (k + 10) + 1 by omega]
    simp only [spec_Rune.j0]
    rw [if_neg (by decide), if_neg (by omega), show k + 10 = (k + 9) + 1 by omega]
    simp only [spec_Rune.j1]
    rw [if_neg (by decide), if_neg (by omega), show k + 9 = (k + 7) + 2 by omega, j2_bad _ _ _ _ _ (.inl rfl)]
    exact said_no (bad (.inl (by omega))) 0 1
theorem text4 (l : List Int) : ∀ (d : Nat) (m : List Int) (k : Nat), bytesIn m → m.length ≤ d → d < k → spec_Text.l1 (k + 12) l m = some (if V8 m = true then (strOfNums l, true) else ((⟨#[]⟩ : ByteArray), false))
  | d, [], k, hb, hd, hk => by
    obtain ⟨q, hq⟩ : ∃ q, q = k + 11 := ⟨_, rfl⟩
    rw [show k + 12 = q + 1 by omega]
    simp only [spec_Text.l1]
    rw [if_neg (by simp), if_pos V8_nil]
  | 0, x :: r, k, hb, hd, hk => by simp at hd
  | d + 1, x :: r, k, hb, hd, hk => by
    obtain ⟨v, n, ok, hr, h1, h2⟩ := rune_said k (x :: r) hb (by simp)
    obtain ⟨q, hq⟩ : ∃ q, q = k + 11 := ⟨_, rfl⟩
    rw [show k + 12 = q + 1 by omega]
    rw [← hq] at hr
    simp only [spec_Text.l1]
    rw [if_pos (by simp), hr]
    simp only [Option.bind_some]
    cases ok with
    | true =>
      obtain ⟨n1, n2, hv⟩ := h1 rfl
      rw [if_pos rfl, if_pos (by omega), if_pos (by omega), Int.toNat_natCast]
      obtain ⟨k, rfl⟩ : ∃ j, k = j + 1 := ⟨k - 1, by omega⟩
      have ih := text4 l d ((x :: r).drop n) k (bytesIn_dr hb n) (by rw [List.length_drop]; simp only [List.length_cons] at hd ⊢; omega) (by omega)
      rw [hq, show k + 1 + 11 = k + 12 by omega, ih, hv]
    | false =>
      rw [if_neg (by decide), h2 rfl]
      rfl
theorem text4_f (K : Nat) (l : List Int) (hb : bytesIn l) (hl : l.length ≤ 200) (hK : 300 ≤ K) : spec_Text.f K 4 l = some (if txOk 4 l = true then (txS 4 l, true) else ((⟨#[]⟩ : ByteArray), false)) := by
  unfold spec_Text.f
  rw [Option.bind_some, if_neg (show ¬ (4 : Int) = 3 by decide), if_pos (show (4 : Int) = 4 from rfl)]
  obtain ⟨k, rfl⟩ : ∃ k, K = k + 12 := ⟨K - 12, by omega⟩
  rw [text4 l 200 l k hb hl (by omega)]
  rfl
/-- The reference's text is what the package takes for one. -/
theorem text_f (K : Nat) (k : Int) (hk : 0 ≤ k ∧ k ≤ 5) (l : List Int) (hb : bytesIn l) (hl : l.length ≤ 200) (hK : 300 ≤ K) : spec_Text.f K k l = some (if txOk k l = true then (txS k l, true) else ((⟨#[]⟩ : ByteArray), false)) := by
  rcases (by omega : k = 0 ∨ k = 1 ∨ k = 2 ∨ k = 3 ∨ k = 4 ∨ k = 5) with rfl | rfl | rfl | rfl | rfl | rfl
  · exact text012_f K 0 (.inl rfl) l hb hl hK
  · exact text012_f K 1 (.inr (.inl rfl)) l hb hl hK
  · exact text012_f K 2 (.inr (.inr rfl)) l hb hl hK
  · exact text3_f K l hb hl hK
  · exact text4_f K l hb hl hK
  · exact text5_f K l hb hl hK
end Go.Proofs.YtmiemfgcggkbnaaDoor.QT
