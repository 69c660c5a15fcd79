/-
  What stands between the signs of a reference (plain).
  Small contracts that zxml's text calls: names at any place of a row, entities, the public ParseUint for 64 bits.
-/
import Derived.Test.YtlljphipglgjiaaGreatDoorXmGram
import Derived.Test.YtlljphipglgjiaaGreatDoorXmWrite2
namespace Go.Proofs.YtlljphipglgjiaaGreatDoor
open Go.Lib

def decB (b : UInt8) : Bool := decide (48 ≤ b.toNat) && decide (b.toNat ≤ 57)
def hexB (b : UInt8) : Bool := decB b || (decide (97 ≤ b.toNat) && decide (b.toNat ≤ 102)) || (decide (65 ≤ b.toNat) && decide (b.toNat ≤ 70))
theorem decB_iff (b : UInt8) : decB b = true ↔ 48 ≤ b.toNat ∧ b.toNat ≤ 57 := by unfold decB; simp
theorem hexB_iff (b : UInt8) : hexB b = true ↔ (48 ≤ b.toNat ∧ b.toNat ≤ 57) ∨ (97 ≤ b.toNat ∧ b.toNat ≤ 102) ∨ (65 ≤ b.toNat ∧ b.toNat ≤ 70) := by
  unfold hexB; simp [decB_iff, or_assoc]

theorem dig_dec {c : UInt8} {d : Nat} (h : dig 10 c = some d) : decB c = true := by
  rw [decB_iff]
  rcases dig_cases 10 c with ⟨d', h1, h2, h3⟩ | ⟨h1, _⟩
  · rcases h3 with h3 | h3 <;> omega
  · rw [h] at h1; cases h1
theorem or32 : ∀ n : Nat, n < 256 → 97 ≤ (UInt8.ofNat n ||| 32).toNat ∧ (UInt8.ofNat n ||| 32).toNat ≤ 102 → (97 ≤ n ∧ n ≤ 102) ∨ (65 ≤ n ∧ n ≤ 70) := by decide +kernel
theorem dig_hex {c : UInt8} {d : Nat} (h : dig 16 c = some d) : hexB c = true := by
  rw [hexB_iff]
  rcases dig_cases 16 c with ⟨d', h1, h2, h3⟩ | ⟨h1, _⟩
  · rcases h3 with h3 | h3
    · omega
    · have := or32 c.toNat c.toNat_lt (by rw [show UInt8.ofNat c.toNat = c by simp]; omega)
      omega
  · rw [h] at h1; cases h1
theorem num_digs (B m : Nat) (p : UInt8 → Bool) (hp : ∀ c d, dig B c = some d → p c = true) : ∀ (ds : List UInt8) (acc n : Nat), num B m acc ds = some n → ∀ b ∈ ds, p b = true
  | [], _, _, _, b, hb => by cases hb
  | c :: ds, acc, n, h, b, hb => by
    simp only [num] at h
    split at h
    · cases h
    · rename_i d hd
      split at h
      · cases h
      · rcases List.mem_cons.1 hb with rfl | hb
        · exact hp _ _ hd
        · exact num_digs B m p hp ds _ n h b hb

def entNames : List (List UInt8 × UInt8) := [([97, 109, 112], 38), ([108, 116], 60), ([103, 116], 62), ([113, 117, 111, 116], 34), ([97, 112, 111, 115], 39)]
/-- How a reference is read: a name; decimal digits; hexadecimal digits. -/
inductive EntR : List UInt8 → List UInt8 → Prop
  | name (nm : List UInt8) (c : UInt8) : (nm, c) ∈ entNames → EntR nm [c]
  | dec (ds : List UInt8) (n : Nat) : ds ≠ [] → (∀ b ∈ ds, decB b = true) → num 10 4294967295 0 ds = some n → isXChar n = true → EntR (35 :: ds) (encodeRune (n : Int))
  | hex (ds : List UInt8) (n : Nat) : ds ≠ [] → (∀ b ∈ ds, hexB b = true) → num 16 4294967295 0 ds = some n → isXChar n = true → EntR (35 :: 120 :: ds) (encodeRune (n : Int))

theorem chOf_inv {ds : List UInt8} {x : Option Nat} {o : List UInt8} (h : chOf ds x = some o) : ∃ n, ds ≠ [] ∧ x = some n ∧ isXChar n = true ∧ o = encodeRune (n : Int) := by
  unfold chOf at h
  split at h
  · cases h
  · rename_i hne
    split at h
    · cases h
    · rename_i n
      split at h
      · rename_i hx
        exact ⟨n, hne, rfl, hx, (Option.some.inj h).symm⟩
      · cases h
theorem numRef_inv : ∀ (l o : List UInt8), numRef l = some o → EntR l o
  | [], _, h => by simp [numRef] at h
  | [x], _, h => by simp [numRef] at h
  | x :: d :: ds, o, h => by
    by_cases hx : x = 35
    · subst hx
      simp only [numRef] at h
      by_cases hd : d = 120
      · rw [if_pos hd] at h
        subst hd
        obtain ⟨n, h1, h2, h3, rfl⟩ := chOf_inv h
        exact .hex ds n h1 (num_digs 16 _ hexB (fun _ _ => dig_hex) ds 0 n h2) h2 h3
      · rw [if_neg hd] at h
        obtain ⟨n, h1, h2, h3, rfl⟩ := chOf_inv h
        exact .dec (d :: ds) n h1 (num_digs 10 _ decB (fun _ _ => dig_dec) (d :: ds) 0 n h2) h2 h3
    · unfold numRef at h
      split at h
      · rename_i heq
        injection heq with h1 _
        exact absurd h1 hx
      · cases h
theorem ent_inv {l o : List UInt8} (h : entL l = some o) : EntR l o := by
  unfold entL at h
  split at h
  · rename_i e; subst e; cases Option.some.inj h; exact .name _ 38 (by simp [entNames])
  split at h
  · rename_i e; subst e; cases Option.some.inj h; exact .name _ 60 (by simp [entNames])
  split at h
  · rename_i e; subst e; cases Option.some.inj h; exact .name _ 62 (by simp [entNames])
  split at h
  · rename_i e; subst e; cases Option.some.inj h; exact .name _ 34 (by simp [entNames])
  split at h
  · rename_i e; subst e; cases Option.some.inj h; exact .name _ 39 (by simp [entNames])
  exact numRef_inv l o h
theorem take_bne (c : UInt8) : ∀ l : List UInt8, c ∈ l → l = l.takeWhile (· != c) ++ c :: l.drop ((l.takeWhile (· != c)).length + 1)
  | [], h => by cases h
  | x :: t, h => by
    by_cases hx : x = c
    · subst hx
      simp
    · have ht : c ∈ t := by
        rcases List.mem_cons.1 h with e | e
        · exact absurd e.symm hx
        · exact e
      have hb : (x != c) = true := by simpa using hx
      rw [List.takeWhile_cons, if_pos hb]
      simp only [List.length_cons, List.drop_succ_cons, List.cons_append, List.cons.injEq, true_and]
      exact take_bne c t ht
theorem ref_inv {t o t2 : List UInt8} (h : refL t = some (o, t2)) : ∃ nm, t = nm ++ 59 :: t2 ∧ 59 ∉ nm ∧ EntR nm o := by
  unfold refL at h
  split at h
  · cases h
  · rename_i p hp
    cases he : entL p.1 with
    | none => rw [he] at h; cases h
    | some x =>
      rw [he] at h
      simp only [Option.map_some, Option.some.injEq, Prod.mk.injEq] at h
      obtain ⟨rfl, rfl⟩ := h
      unfold cutL at hp
      split at hp
      · rename_i hm
        cases Option.some.inj hp
        refine ⟨_, take_bne 59 t hm, ?_, ent_inv he⟩
        intro h59
        have := List.all_eq_true.1 (List.all_takeWhile (p := (· != 59)) (l := t)) 59 h59
        simp at this
      · cases hp

end Go.Proofs.YtlljphipglgjiaaGreatDoor

namespace Go.Proofs.YtlljphipglgjiaaGreatDoor
open Go.RowKit

set_option maxRecDepth 100000 in
set_option maxHeartbeats 1000000 in
theorem isName_at (g off n cap : Nat) (l : List UInt8) (w : World) (hl : l.length = n) (hn : 0 < n) (hcap : n ≤ cap) (_hsm : cap ≤ 9223372036854775807) (hcells : ∀ k (h : k < l.length), w.cell? ⟨g, off + k, none⟩ = some (.int .u8 l[k].toNat)) (hg : g < w.heap.size)
    (hall : ∀ b ∈ l, nameB b = true) (hfst : ∀ h : 0 < l.length, firstB l[0] = true) :
    Calls Tryz.prog 188 #[.slice (some ⟨g, off, none⟩) n cap] w fun e w' => e = .returned (.bool true) ∧ Below w.heap.size w w' := by
  subst hl
  have h0 := hfst (by omega)
  have hz : ((l.length : Int) == 0) = false := by rw [beq_eq_false_iff_ne]; omega
  have hq0 : ((l[0].toNat : Int) == 65533) = false := by rw [beq_eq_false_iff_ne]; have := l[0].toNat_lt; omega
  have HC := Lib.hid hcells
  have HA := Lib.hid hall
  have H0 := Lib.hid h0
  have hl0 : 0 < l.length := by omega
  have n0 : nameB l[0] = true := hall _ (List.getElem_mem hl0)
  have N0 := Lib.hid n0
  clear hcells hall hfst h0 n0
  obtain ⟨w1, hw1⟩ : ∃ w1, tabWorld w firstT 190 = w1 := ⟨_, rfl⟩
  obtain ⟨w2, hw2⟩ : ∃ w2, tabWorld w1 secondT 112 = w2 := ⟨_, rfl⟩
  have hb1 : Below w.heap.size w w1 := by rw [← hw1]; exact below_tab _ _ _
  have hs1 : w1.heap.size = w.heap.size + 2 := by rw [← hw1]; exact tab_size _ _ _
  have hb2 : Below w1.heap.size w1 w2 := by rw [← hw2]; exact below_tab _ _ _
  have ht1 : TabAt w2 (w.heap.size + 1) w.heap.size firstT 190 := by
    have : TabAt w1 (w.heap.size + 1) w.heap.size firstT 190 := by rw [← hw1]; exact tab_first w
    exact this.below hb2
  have ht2 : TabAt w2 (w1.heap.size + 1) w1.heap.size secondT 112 := by rw [← hw2]; exact tab_second w1
  have hbw : Below w.heap.size w w2 := hb1.trans (hb2.mono (by omega))
  have HT1 := Lib.hid ht1
  have HT2 := Lib.hid ht2
  have HB := Lib.hid hbw
  have hcell0 : w2.cell? ⟨g, off, none⟩ = some (.int .u8 l[0].toNat) := (hbw.cell (p := ⟨g, off, none⟩) hg).trans (HC.out 0 hl0)
  have HC0 := Lib.hid hcell0
  have HW1 := Lib.hid hw1
  have HW2 := Lib.hid hw2
  clear hw1 hw2 hb1 hb2 ht1 ht2 hbw hcell0 hs1
  go_enter Tryz.func188, Tryz.ntmps188
  go_wp2_with fail
  refine (first_any _).mono ?_
  rintro e w1' ⟨rfl, rfl⟩
  rw [HW1.out]
  go_wp2_with fail
  refine (second_any _).mono ?_
  rintro e w2' ⟨rfl, rfl⟩
  rw [HW2.out]
  go_wp2_with fail
  refine (decodeRune_ascii ⟨g, off, none⟩ l.length cap l[0] _ hn (nameB_lt N0.out) HC0.out).mono ?_
  rintro e w3 ⟨rfl, j, rfl⟩
  go_wp2_with fail
  refine (isFirst _ _ l[0] (w2.drewN j) (show TabAt (w2.drewN j) _ _ _ _ from HT1.out) N0.out).mono ?_
  rintro e w3 ⟨rfl, j2, rfl⟩
  rw [H0.out]
  go_wp2_with fail
  go_loopg [0, 5, 6] l.length (fun gk sv _c nv wr => ∃ k : Nat, gk = l.length - k ∧ k < l.length ∧ sv = .slice (some ⟨g, off + k, none⟩) (l.length - k) (cap - k) ∧ nv = .int .i64 1 ∧ Below w2.heap.size w2 wr)
  case atStart => exact ⟨0, rfl, hl0, rfl, rfl, ((Below.refl _ _)).trans ⟨rfl, rfl, rfl, Nat.le_refl _, fun _ _ => rfl⟩⟩
  case round =>
    obtain ⟨k, hg', hk, rfl, rfl, hbr⟩ := hrel
    have HG := Lib.hid hg'
    have HBR := Lib.hid hbr
    clear hg' hbr
    by_cases hk1 : k + 1 < l.length
    · have nk : nameB l[k + 1] = true := HA.out _ (List.getElem_mem hk1)
      have NK := Lib.hid nk
      have ck : wr.cell? ⟨g, off + k + 1, none⟩ = some (.int .u8 l[k + 1].toNat) := (HBR.out.cell (p := ⟨g, off + k + 1, none⟩) (Nat.lt_of_lt_of_le hg HB.out.size)).trans ((HB.out.cell (p := ⟨g, off + k + 1, none⟩) hg).trans (HC.out (k + 1) hk1))
      have CK := Lib.hid ck
      have hqk : ((l[k + 1].toNat : Int) == 65533) = false := by rw [beq_eq_false_iff_ne]; have := l[k + 1].toNat_lt; omega
      have hd : decide ((1 : Int) < ((l.length - k : Nat) : Int)) = true := by simp; omega
      have hd2 : decide (1 < l.length - k) = true := by simp; omega
      clear nk ck
      go_wp2_with fail
      refine (decodeRune_ascii ⟨g, off + k + 1, none⟩ (l.length - k - 1) (cap - k - 1) l[k + 1] _ (by omega) (nameB_lt NK.out) CK.out).mono ?_
      rintro e w4 ⟨rfl, j3, rfl⟩
      have hsz : w.heap.size + 2 ≤ w2.heap.size := by have := HT2.out.2.lt; have := HT1.out.2.lt; have := tab_size w firstT 190; rw [HW1.out] at this; omega
      have ft : TabAt (wr.drewN j3) (w.heap.size + 1) w.heap.size firstT 190 := show TabAt wr _ _ _ _ from HT1.out.below HBR.out
      have st : TabAt (wr.drewN j3) (w1.heap.size + 1) w1.heap.size secondT 112 := show TabAt wr _ _ _ _ from HT2.out.below HBR.out
      have FT := Lib.hid ft
      have ST := Lib.hid st
      clear ft st hsz
      cases hfb : firstB l[k + 1] with
      | true =>
        have HFB := Lib.hid hfb
        clear hfb
        go_wp2_with fail
        refine (isFirst _ _ l[k + 1] _ FT.out NK.out).mono ?_
        rintro e w4 ⟨rfl, j4, rfl⟩
        rw [HFB.out]
        go_wp2_with fail
        go_roundg (l.length - (k + 1))
        case rel => exact ⟨k + 1, rfl, by omega, by simp [Nat.sub_sub], rfl, HBR.out.trans ⟨rfl, rfl, rfl, Nat.le_refl _, fun _ _ => rfl⟩⟩
        case measure => have := HG.out; omega
      | false =>
        have HFB := Lib.hid hfb
        clear hfb
        go_wp2_with fail
        refine (isFirst _ _ l[k + 1] _ FT.out NK.out).mono ?_
        rintro e w4 ⟨rfl, j4, rfl⟩
        rw [HFB.out]
        go_wp2_with fail
        refine (isSecond _ _ l[k + 1] (wr.drewN (j3 + j4)) (show TabAt (wr.drewN (j3 + j4)) _ _ _ _ from ST.out) NK.out HFB.out).mono ?_
        rintro e w4 ⟨rfl, j5, rfl⟩
        go_wp2_with fail
        go_roundg (l.length - (k + 1))
        case rel => exact ⟨k + 1, rfl, by omega, by simp [Nat.sub_sub], rfl, HBR.out.trans ⟨rfl, rfl, rfl, Nat.le_refl _, fun _ _ => rfl⟩⟩
        case measure => have := HG.out; omega
    · go_wp2_with fail
      go_ret
      exact ⟨rfl, HB.out.trans (HBR.out.mono HB.out.size)⟩


theorem pu_in64 (B : Nat) (hB : B = 10 ∨ B = 16) (t : ByteArray) (n : Nat) (hn : num B 4294967295 0 t.data.toList = some n) (hne : t.data.toList ≠ []) (hmax : t.size ≤ 1000000) (w : World) :
    Calls Tryz.prog 202 #[.string t, .int .i64 (B : Int), .int .i64 64] w fun e w' => e = .returned (.tuple #[.int .u64 (n : Int), .nilIface]) ∧ Below w.heap.size w w' := by
  have h0 : t.size ≠ 0 := by
    intro h
    apply hne
    exact List.eq_nil_of_length_eq_zero (by rw [Array.length_toList]; exact h)
  rcases hB with rfl | rfl
  · refine (pu_10_64 t n hn h0 hmax w).mono ?_
    rintro e w' ⟨h, rfl⟩
    exact ⟨h, Joins.below_bytesWorld _ _ _ _ (Nat.le_refl _)⟩
  · refine (pu_16_64 t n hn h0 hmax w).mono ?_
    rintro e w' ⟨h, rfl⟩
    exact ⟨h, Joins.below_bytesWorld _ _ _ _ (Nat.le_refl _)⟩
theorem pu_pub64 (B : Nat) (hB : B = 10 ∨ B = 16) (t : ByteArray) (n : Nat) (hn : num B 4294967295 0 t.data.toList = some n) (hne : t.data.toList ≠ []) (hmax : t.size ≤ 1000000) (w : World) :
    Calls Tryz.prog 180 #[.string t, .int .i64 (B : Int), .int .i64 64] w fun e w' => e = .returned (.tuple #[.int .u64 (n : Int), .nilIface]) ∧ Below w.heap.size w w' := by
  have HP := Lib.hid (pu_in64 B hB t n hn hne hmax w)
  clear hn
  go_enter Tryz.func180, Tryz.ntmps180
  go_wp2_with fail
  refine HP.out.mono ?_
  rintro e w1 ⟨rfl, hb⟩
  have HB := Lib.hid hb
  clear hb
  go_wp2_with fail
  go_ret2
  exact ⟨rfl, HB.out⟩

theorem entity_any (nm : List UInt8) (c : UInt8) (h : (nm, c) ∈ entNames) (w : World) :
    Calls Tryz.prog 189 #[.string (bst nm)] w fun e w' => e = .returned (.tuple #[.int .i32 c.toNat, .bool true]) ∧ w = w' := by
  unfold entNames at h
  simp only [List.mem_cons, Prod.mk.injEq, List.not_mem_nil, or_false] at h
  rcases h with ⟨rfl, rfl⟩ | ⟨rfl, rfl⟩ | ⟨rfl, rfl⟩ | ⟨rfl, rfl⟩ | ⟨rfl, rfl⟩
  all_goals
    unfold bst
    go_enter Tryz.func189, Tryz.ntmps189
    go_wp2_with fail
    go_ret2
    exact ⟨rfl, rfl⟩

end Go.Proofs.YtlljphipglgjiaaGreatDoor
