/-
  isName of a name of ASCII.
  name, nsname on the good road.
  The plain loops over strings: zzIndex, zzCount, zzCut (package zxml).
  nsname: a name, in its two halves.
  spec.xReader: has, blanks, until.
-/
import Derived.Test.YtlljphipglgjiaaGreatDoorXmIs
namespace Go.Proofs.YtlljphipglgjiaaGreatDoor
open Go.RowKit

/-- A byte at which a name may begin, or a colon. -/
def firstB (c : UInt8) : Bool := (65 ≤ c.toNat && c.toNat ≤ 90) || (97 ≤ c.toNat && c.toNat ≤ 122) || c.toNat == 95 || c.toNat == 58

def loF (k : Nat) : Nat := (firstR.getD k (0, 0, 0)).1.toNat
def hiF (k : Nat) : Nat := (firstR.getD k (0, 0, 0)).2.1.toNat
def loS (k : Nat) : Nat := (secondR.getD k (0, 0, 0)).1.toNat
def hiS (k : Nat) : Nat := (secondR.getD k (0, 0, 0)).2.1.toNat

/-- A table in memory. -/
def TabAt (w : World) (t g : Nat) (T : Array Value) (n : Nat) : Prop := Blk w g 342 T ∧ Blk w t 346 #[.slice (some ⟨g, 0, none⟩) n n, .slice none 0 0, .int .i64 0]

theorem firstT_cells : ∀ k, k ≤ 3 → firstT[k * 3]? = some (.int .u16 (loF k)) ∧ firstT[k * 3 + 1]? = some (.int .u16 (hiF k)) ∧ firstT[k * 3 + 2]? = some (.int .u16 1) := by
  intro k hk
  match k, hk with
  | 0, _ => exact ⟨by kernel_rfl, by kernel_rfl, by kernel_rfl⟩
  | 1, _ => exact ⟨by kernel_rfl, by kernel_rfl, by kernel_rfl⟩
  | 2, _ => exact ⟨by kernel_rfl, by kernel_rfl, by kernel_rfl⟩
  | 3, _ => exact ⟨by kernel_rfl, by kernel_rfl, by kernel_rfl⟩
theorem secondT_cells : ∀ k, k ≤ 1 → secondT[k * 3]? = some (.int .u16 (loS k)) ∧ secondT[k * 3 + 1]? = some (.int .u16 (hiS k)) ∧ secondT[k * 3 + 2]? = some (.int .u16 1) := by
  intro k hk
  match k, hk with
  | 0, _ => exact ⟨by kernel_rfl, by kernel_rfl, by kernel_rfl⟩
  | 1, _ => exact ⟨by kernel_rfl, by kernel_rfl, by kernel_rfl⟩
theorem firstT_last : firstT[(190 - 1) * 3 + 1]? = some (.int .u16 ((55203 : Nat) : Int)) := by kernel_rfl
theorem secondT_last : secondT[(112 - 1) * 3 + 1]? = some (.int .u16 ((12542 : Nat) : Int)) := by kernel_rfl

theorem isFirst (t g : Nat) (c : UInt8) (w : World) (ht : TabAt w t g firstT 190) (hc : nameB c = true) :
    Calls Tryz.prog 215 #[.pointer (some ⟨t, 0, none⟩), .int .i32 c.toNat] w fun e w' => e = .returned (.bool (firstB c)) ∧ ∃ k, w.drewN k = w' := by
  have hlt := nameB_lt hc
  obtain ⟨hg, htb⟩ := ht
  have key : ∀ K, K ≤ 3 → (∀ k, k < K → hiF k < c.toNat) → firstB c = decide (loF K ≤ c.toNat) → (loF K ≤ c.toNat → c.toNat ≤ hiF K) → Calls Tryz.prog 215 #[.pointer (some ⟨t, 0, none⟩), .int .i32 c.toNat] w fun e w' => e = .returned (.bool (firstB c)) ∧ ∃ k, w.drewN k = w' :=
    fun K hK h1 h2 h3 => is_any t g 190 K loF hiF c.toNat 55203 (firstB c) w hlt (by omega) (by omega) (by omega) htb ((hg.cell _).trans firstT_last) (by omega) (by omega)
      (fun k hk => (hg.cell _).trans (firstT_cells k (by omega)).1) (fun k hk => (hg.cell _).trans (firstT_cells k (by omega)).2.1) (fun k hk => (hg.cell _).trans (firstT_cells k (by omega)).2.2)
      (fun k hk => by
        have : k ≤ 3 := by omega
        match k, this with
        | 0, _ => decide
        | 1, _ => decide
        | 2, _ => decide
        | 3, _ => decide) h1 h2 h3
  have f0 : loF 0 = 58 ∧ hiF 0 = 58 := by decide
  have f1 : loF 1 = 65 ∧ hiF 1 = 90 := by decide
  have f2 : loF 2 = 95 ∧ hiF 2 = 95 := by decide
  have f3 : loF 3 = 97 ∧ hiF 3 = 122 := by decide
  have hb : ∀ m, (firstB c = decide (m ≤ c.toNat)) ↔ ((65 ≤ c.toNat ∧ c.toNat ≤ 90 ∨ 97 ≤ c.toNat ∧ c.toNat ≤ 122 ∨ c.toNat = 95 ∨ c.toNat = 58) ↔ m ≤ c.toNat) := by
    intro m
    rw [Bool.eq_iff_iff]
    unfold firstB
    simp [or_assoc]
  have hn : 65 ≤ c.toNat ∧ c.toNat ≤ 90 ∨ 97 ≤ c.toNat ∧ c.toNat ≤ 122 ∨ 48 ≤ c.toNat ∧ c.toNat ≤ 57 ∨ c.toNat = 95 ∨ c.toNat = 58 ∨ c.toNat = 46 ∨ c.toNat = 45 := by
    unfold nameB at hc
    simpa [or_assoc] using hc
  by_cases q0 : c.toNat ≤ 58
  · exact key 0 (by omega) (fun k hk => by omega) ((hb _).2 (by rw [f0.1]; omega)) (by rw [f0.1, f0.2]; omega)
  by_cases q1 : c.toNat ≤ 90
  · exact key 1 (by omega) (fun k hk => by have : k = 0 := by omega
                                           subst this; rw [f0.2]; omega) ((hb _).2 (by rw [f1.1]; omega)) (by rw [f1.1, f1.2]; omega)
  by_cases q2 : c.toNat ≤ 95
  · exact key 2 (by omega) (fun k hk => by
      have : k = 0 ∨ k = 1 := by omega
      rcases this with rfl | rfl
      · rw [f0.2]; omega
      · rw [f1.2]; omega) ((hb _).2 (by rw [f2.1]; omega)) (by rw [f2.1, f2.2]; omega)
  · exact key 3 (by omega) (fun k hk => by
      have : k = 0 ∨ k = 1 ∨ k = 2 := by omega
      rcases this with rfl | rfl | rfl
      · rw [f0.2]; omega
      · rw [f1.2]; omega
      · rw [f2.2]; omega) ((hb _).2 (by rw [f3.1]; omega)) (by rw [f3.1, f3.2]; omega)

/-- A byte of a name that is no first one is in the second table. -/
theorem isSecond (t g : Nat) (c : UInt8) (w : World) (ht : TabAt w t g secondT 112) (hc : nameB c = true) (hf : firstB c = false) :
    Calls Tryz.prog 215 #[.pointer (some ⟨t, 0, none⟩), .int .i32 c.toNat] w fun e w' => e = .returned (.bool true) ∧ ∃ k, w.drewN k = w' := by
  have hlt := nameB_lt hc
  obtain ⟨hg, htb⟩ := ht
  have key : ∀ K, K ≤ 1 → (∀ k, k < K → hiS k < c.toNat) → (true = decide (loS K ≤ c.toNat)) → (loS K ≤ c.toNat → c.toNat ≤ hiS K) → Calls Tryz.prog 215 #[.pointer (some ⟨t, 0, none⟩), .int .i32 c.toNat] w fun e w' => e = .returned (.bool true) ∧ ∃ k, w.drewN k = w' :=
    fun K hK h1 h2 h3 => is_any t g 112 K loS hiS c.toNat 12542 true w hlt (by omega) (by omega) (by omega) htb ((hg.cell _).trans secondT_last) (by omega) (by omega)
      (fun k hk => (hg.cell _).trans (secondT_cells k (by omega)).1) (fun k hk => (hg.cell _).trans (secondT_cells k (by omega)).2.1) (fun k hk => (hg.cell _).trans (secondT_cells k (by omega)).2.2)
      (fun k hk => by
        have : k ≤ 1 := by omega
        match k, this with
        | 0, _ => decide
        | 1, _ => decide) h1 h2 h3
  have f0 : loS 0 = 45 ∧ hiS 0 = 46 := by decide
  have f1 : loS 1 = 48 ∧ hiS 1 = 57 := by decide
  have hn : 65 ≤ c.toNat ∧ c.toNat ≤ 90 ∨ 97 ≤ c.toNat ∧ c.toNat ≤ 122 ∨ 48 ≤ c.toNat ∧ c.toNat ≤ 57 ∨ c.toNat = 95 ∨ c.toNat = 58 ∨ c.toNat = 46 ∨ c.toNat = 45 := by
    unfold nameB at hc
    simpa [or_assoc] using hc
  have hf' : ¬ (65 ≤ c.toNat ∧ c.toNat ≤ 90 ∨ 97 ≤ c.toNat ∧ c.toNat ≤ 122 ∨ c.toNat = 95 ∨ c.toNat = 58) := by
    intro h
    have : firstB c = true := by unfold firstB; simpa [or_assoc] using h
    rw [hf] at this; cases this
  by_cases q0 : c.toNat ≤ 46
  · exact key 0 (by omega) (fun k hk => by omega) (by rw [f0.1]; simp; omega) (by rw [f0.1, f0.2]; omega)
  · exact key 1 (by omega) (fun k hk => by have : k = 0 := by omega
                                           subst this; rw [f0.2]; omega) (by rw [f1.1]; simp; omega) (by rw [f1.1, f1.2]; omega)

set_option maxHeartbeats 400000 in
/-- DecodeRune of bytes that begin with one of ASCII. -/
theorem decodeRune_ascii (a : Addr) (n c : Nat) (b : UInt8) (w : World) (hn : 0 < n) (hb : b.toNat < 128) (hcell : w.cell? a = some (.int .u8 b.toNat)) :
    Calls Tryz.prog 175 #[.slice (some a) n c] w fun e w' => e = .returned (.tuple #[.int .i32 b.toNat, .int .i64 1]) ∧ ∃ k, w.drewN k = w' := by
  have hd : decide (0 < n) = true := by simpa using hn
  have hd2 : decide ((b.toNat : Int) < 128) = true := by simp; omega
  have hn' : (0 : Int) < (n : Int) := by omega
  go_enter Tryz.func175, Tryz.ntmps175
  go_wp2_with fail
  refine wp_loop_once ?_
  go_wp2_with fail
  go_ret2
  exact ⟨rfl, 0, rfl⟩


theorem tab_first (w : World) : TabAt (tabWorld w firstT 190) (w.heap.size + 1) w.heap.size firstT 190 := by
  refine ⟨(Blk.new w 342 firstT).alloc _, ?_⟩
  have := Blk.new (w.alloc (.cells firstT 342)) 346 #[.slice (some ⟨w.heap.size, 0, none⟩) 190 190, .slice none 0 0, .int .i64 0]
  simpa [tabWorld] using this
theorem tab_second (w : World) : TabAt (tabWorld w secondT 112) (w.heap.size + 1) w.heap.size secondT 112 := by
  refine ⟨(Blk.new w 342 secondT).alloc _, ?_⟩
  have := Blk.new (w.alloc (.cells secondT 342)) 346 #[.slice (some ⟨w.heap.size, 0, none⟩) 112 112, .slice none 0 0, .int .i64 0]
  simpa [tabWorld] using this
theorem below_tab (w : World) (T : Array Value) (n : Nat) : Below w.heap.size w (tabWorld w T n) := ((Below.refl _ _).alloc (Nat.le_refl _) _).alloc (by simp) _
theorem TabAt.below {w w' : World} {t g : Nat} {T : Array Value} {n : Nat} (h : TabAt w t g T n) (hb : Below w.heap.size w w') : TabAt w' t g T n :=
  ⟨(hb.block _ h.1.lt).trans h.1, (hb.block _ h.2.lt).trans h.2⟩
theorem tab_size (w : World) (T : Array Value) (n : Nat) : (tabWorld w T n).heap.size = w.heap.size + 2 := by simp [tabWorld]

set_option maxRecDepth 100000 in
set_option maxHeartbeats 1000000 in
theorem isName_ascii (g n cap : Nat) (l : List UInt8) (w : World) (hl : l.length = n) (hn : 0 < n) (hcap : n ≤ cap) (_hsm : cap ≤ 9223372036854775807) (hcells : ∀ k (h : k < l.length), w.cell? ⟨g, k, none⟩ = some (.int .u8 l[k].toNat)) (hg : g < w.heap.size)
    (hall : ∀ b ∈ l, nameB b = true) (hfst : ∀ h : 0 < l.length, firstB l[0] = true) :
    Calls Tryz.prog 188 #[.slice (some ⟨g, 0, none⟩) n cap] w fun e w' => e = .returned (.bool true) ∧ Below w.heap.size w w' := by
  subst hl
  have h0 := hfst (by omega)
  have hz : ((l.length : Int) == 0) = false := by rw [beq_eq_false_iff_ne]; omega
  have hq0 : ((l[0].toNat : Int) == 65533) = false := by rw [beq_eq_false_iff_ne]; have := l[0].toNat_lt; omega
  have HC := Lib.hid hcells
  have HA := Lib.hid hall
  have H0 := Lib.hid h0
  have hl0 : 0 < l.length := by omega
  have n0 : nameB l[0] = true := hall _ (List.getElem_mem hl0)
  have N0 := Lib.hid n0
  clear hcells hall hfst h0 n0
  obtain ⟨w1, hw1⟩ : ∃ w1, tabWorld w firstT 190 = w1 := ⟨_, rfl⟩
  obtain ⟨w2, hw2⟩ : ∃ w2, tabWorld w1 secondT 112 = w2 := ⟨_, rfl⟩
  have hb1 : Below w.heap.size w w1 := by rw [← hw1]; exact below_tab _ _ _
  have hs1 : w1.heap.size = w.heap.size + 2 := by rw [← hw1]; exact tab_size _ _ _
  have hb2 : Below w1.heap.size w1 w2 := by rw [← hw2]; exact below_tab _ _ _
  have ht1 : TabAt w2 (w.heap.size + 1) w.heap.size firstT 190 := by
    have : TabAt w1 (w.heap.size + 1) w.heap.size firstT 190 := by rw [← hw1]; exact tab_first w
    exact this.below hb2
  have ht2 : TabAt w2 (w1.heap.size + 1) w1.heap.size secondT 112 := by rw [← hw2]; exact tab_second w1
  have hbw : Below w.heap.size w w2 := hb1.trans (hb2.mono (by omega))
  have HT1 := Lib.hid ht1
  have HT2 := Lib.hid ht2
  have HB := Lib.hid hbw
  have hcell0 : w2.cell? ⟨g, 0, none⟩ = some (.int .u8 l[0].toNat) := (hbw.cell (p := ⟨g, 0, none⟩) hg).trans (HC.out 0 hl0)
  have HC0 := Lib.hid hcell0
  have HW1 := Lib.hid hw1
  have HW2 := Lib.hid hw2
  clear hw1 hw2 hb1 hb2 ht1 ht2 hbw hcell0 hs1
  go_enter Tryz.func188, Tryz.ntmps188
  go_wp2_with fail
  refine (first_any _).mono ?_
  rintro e w1' ⟨rfl, rfl⟩
  rw [HW1.out]
  go_wp2_with fail
  refine (second_any _).mono ?_
  rintro e w2' ⟨rfl, rfl⟩
  rw [HW2.out]
  go_wp2_with fail
  refine (decodeRune_ascii ⟨g, 0, none⟩ l.length cap l[0] _ hn (nameB_lt N0.out) HC0.out).mono ?_
  rintro e w3 ⟨rfl, j, rfl⟩
  go_wp2_with fail
  refine (isFirst _ _ l[0] (w2.drewN j) (show TabAt (w2.drewN j) _ _ _ _ from HT1.out) N0.out).mono ?_
  rintro e w3 ⟨rfl, j2, rfl⟩
  rw [H0.out]
  go_wp2_with fail
  go_loopg [0, 5, 6] l.length (fun gk sv _c nv wr => ∃ k : Nat, gk = l.length - k ∧ k < l.length ∧ sv = .slice (some ⟨g, k, none⟩) (l.length - k) (cap - k) ∧ nv = .int .i64 1 ∧ Below w2.heap.size w2 wr)
  case atStart => exact ⟨0, rfl, hl0, rfl, rfl, ((Below.refl _ _)).trans ⟨rfl, rfl, rfl, Nat.le_refl _, fun _ _ => rfl⟩⟩
  case round =>
    obtain ⟨k, hg', hk, rfl, rfl, hbr⟩ := hrel
    have HG := Lib.hid hg'
    have HBR := Lib.hid hbr
    clear hg' hbr
    by_cases hk1 : k + 1 < l.length
    · have nk : nameB l[k + 1] = true := HA.out _ (List.getElem_mem hk1)
      have NK := Lib.hid nk
      have ck : wr.cell? ⟨g, k + 1, none⟩ = some (.int .u8 l[k + 1].toNat) := (HBR.out.cell (p := ⟨g, k + 1, none⟩) (Nat.lt_of_lt_of_le hg HB.out.size)).trans ((HB.out.cell (p := ⟨g, k + 1, none⟩) hg).trans (HC.out (k + 1) hk1))
      have CK := Lib.hid ck
      have hqk : ((l[k + 1].toNat : Int) == 65533) = false := by rw [beq_eq_false_iff_ne]; have := l[k + 1].toNat_lt; omega
      have hd : decide ((1 : Int) < ((l.length - k : Nat) : Int)) = true := by simp; omega
      have hd2 : decide (1 < l.length - k) = true := by simp; omega
      clear nk ck
      go_wp2_with fail
      refine (decodeRune_ascii ⟨g, k + 1, none⟩ (l.length - k - 1) (cap - k - 1) l[k + 1] _ (by omega) (nameB_lt NK.out) CK.out).mono ?_
      rintro e w4 ⟨rfl, j3, rfl⟩
      have hsz : w.heap.size + 2 ≤ w2.heap.size := by have := HT2.out.2.lt; have := HT1.out.2.lt; have := tab_size w firstT 190; rw [HW1.out] at this; omega
      have ft : TabAt (wr.drewN j3) (w.heap.size + 1) w.heap.size firstT 190 := show TabAt wr _ _ _ _ from HT1.out.below HBR.out
      have st : TabAt (wr.drewN j3) (w1.heap.size + 1) w1.heap.size secondT 112 := show TabAt wr _ _ _ _ from HT2.out.below HBR.out
      have FT := Lib.hid ft
      have ST := Lib.hid st
      clear ft st hsz
      cases hfb : firstB l[k + 1] with
      | true =>
        have HFB := Lib.hid hfb
        clear hfb
        go_wp2_with fail
        refine (isFirst _ _ l[k + 1] _ FT.out NK.out).mono ?_
        rintro e w4 ⟨rfl, j4, rfl⟩
        rw [HFB.out]
        go_wp2_with fail
        go_roundg (l.length - (k + 1))
        case rel => exact ⟨k + 1, rfl, by omega, by simp [Nat.sub_sub], rfl, HBR.out.trans ⟨rfl, rfl, rfl, Nat.le_refl _, fun _ _ => rfl⟩⟩
        case measure => have := HG.out; omega
      | false =>
        have HFB := Lib.hid hfb
        clear hfb
        go_wp2_with fail
        refine (isFirst _ _ l[k + 1] _ FT.out NK.out).mono ?_
        rintro e w4 ⟨rfl, j4, rfl⟩
        rw [HFB.out]
        go_wp2_with fail
        refine (isSecond _ _ l[k + 1] (wr.drewN (j3 + j4)) (show TabAt (wr.drewN (j3 + j4)) _ _ _ _ from ST.out) NK.out HFB.out).mono ?_
        rintro e w4 ⟨rfl, j5, rfl⟩
        go_wp2_with fail
        go_roundg (l.length - (k + 1))
        case rel => exact ⟨k + 1, rfl, by omega, by simp [Nat.sub_sub], rfl, HBR.out.trans ⟨rfl, rfl, rfl, Nat.le_refl _, fun _ _ => rfl⟩⟩
        case measure => have := HG.out; omega
    · go_wp2_with fail
      go_ret
      exact ⟨rfl, HB.out.trans (HBR.out.mono HB.out.size)⟩

end Go.Proofs.YtlljphipglgjiaaGreatDoor

namespace Go.Proofs.YtlljphipglgjiaaGreatDoor
open Go.RowKit

/-- What makes memory alone leaves the decoder as it is. -/
theorem LowB.below {M : Nat → Prop} {w w' : World} {L : LS} {s : ByteArray} {i : Nat} {f : Bool} {bs : List UInt8} (h : LowB M w L s i f bs) (hb : Below w.heap.size w w') : LowB M w' L s i f bs := by
  obtain ⟨h1, h2, h3, h4, h5, buf, ⟨lr, nb, ri, pr, line, ls, off, q1, q2, q3⟩, hB, hM⟩ := h
  refine ⟨h1, h2, fun k hk => h3 k (Nat.le_trans hb.size hk), h4, h5, buf, ⟨lr, nb, ri, pr, line, ls, off, (hb.block _ q1.lt).trans q1, (hb.block _ q2.lt).trans q2, q3⟩, hB.keep fun g _ cur hc => ?_, hM⟩
  have hlt : g < w.heap.size := Blk.lt (t := 5) (cs := cur) hc
  exact (hb.block g hlt).trans hc

/-- A list of bytes as a string. -/
def bst (l : List UInt8) : ByteArray := ⟨l.toArray⟩
theorem bst_toList (l : List UInt8) : (bst l).data.toList = l := rfl
theorem bst_size (l : List UInt8) : (bst l).size = l.length := by simp [bst, ByteArray.size]
theorem bst_of (s : ByteArray) : bst s.data.toList = s := by simp [bst]

theorem row_byte {w : World} {g : Nat} {cur : Array Value} {bs : List UInt8} (hg : w.heap[g]? = some (.cells cur 5 (0, 0))) (ht : cur.toList.take bs.length = Lib.byteCells bs) (k : Nat) (hk : k < bs.length) :
    w.cell? ⟨g, k, none⟩ = some (.int .u8 bs[k].toNat) := by
  rw [cell_of_row w g k cur 5 (0, 0) hg]
  have h1 : (cur.toList.take bs.length)[k]? = (Lib.byteCells bs)[k]? := by rw [ht]
  rw [List.getElem?_take_of_lt hk] at h1
  rw [← Array.getElem?_toList, h1]
  simp [Lib.byteCells, hk]

/-- A slice of bytes, as a string. -/
theorem run_bytes_string {w : World} {buf : Value} {bs : List UInt8} (h : BufH w buf bs) : (convert 77 9 buf).run Tryz.prog w = .ok (.string (bst bs)) w := by
  rcases h.cases with ⟨rfl, rfl⟩ | ⟨g, cap, cur, rfl, hg, hl, hm, hcs, ht⟩
  · exact run_convert_bytes_nil w 77 5 Tryz.underlying77 Tryz.underlying5 0 0 9 Tryz.underlying9
  · have := run_convert_bytes_arg (P := Tryz.prog) w 77 5 Tryz.underlying77 Tryz.underlying5 g 0 bs.length cap (bs.map fun b => (b.toNat : Int)) (by simp) (fun i hi => by
      rw [Nat.zero_add, row_byte hg ht i hi]
      simp [List.getD, hi]) 9 Tryz.underlying9
    have e : strOfNums (bs.map fun b => (b.toNat : Int)) = bst bs := by
      have hid : ((fun n : Int => UInt8.ofNat n.toNat) ∘ fun b : UInt8 => (b.toNat : Int)) = id := funext fun b => by simp
      simp [strOfNums, bst, hid]
    rw [this, e]

theorem sub_get (s : ByteArray) (i j k : Nat) (hj : j ≤ s.size) (hk : k < (sub s i j).length) : (sub s i j)[k] = s[i + k]'(by rw [sub_length s i j hj] at hk; omega) := by
  have hl : s.data.toList.length = s.size := by rw [Array.length_toList]; rfl
  have hk' : k < j - i := by rw [sub_length s i j hj] at hk; exact hk
  have e : (sub s i j)[k]? = some (s[i + k]'(by omega)) := by
    unfold sub
    rw [List.getElem?_take_of_lt hk', List.getElem?_drop, List.getElem?_eq_getElem (by omega)]
    rfl
  exact (List.getElem?_eq_some_iff.1 e).2
theorem sub_mem (s : ByteArray) (i j : Nat) (hj : j ≤ s.size) {b : UInt8} (hb : b ∈ sub s i j) : ∃ k, ∃ hk : k < s.size, i ≤ k ∧ k < j ∧ b = s[k] := by
  obtain ⟨k, hk, rfl⟩ := List.mem_iff_getElem.1 hb
  have := sub_length s i j hj
  exact ⟨i + k, by omega, by omega, by omega, sub_get s i j k hj hk⟩

set_option maxRecDepth 100000 in
set_option maxHeartbeats 1000000 in
theorem nameB_ok {M : Nat → Prop} {w : World} {L : LS} {s : ByteArray} {i : Nat} {f : Bool} {bs : List UInt8} (j : Nat) (h : LowB M w L s i f bs) (hij : i < j) (hj : j < s.size)
    (hn : ∀ k (hk : k < s.size), i ≤ k → k < j → nameB s[k] = true) (hf : firstB (s[i]'(by omega)) = true) (he : nameB s[j] = false) (hlt : s[j].toNat < 128) :
    Calls Tryz.prog 157 #[.pointer (some ⟨L.p, 0, none⟩)] w fun e w' => e = .returned (.tuple #[.string (bst (sub s i j)), .bool true]) ∧ LowB M w' L s j false (sub s i j) ∧ Fr M w w' := by
  have H := Lib.hid h
  have HN := Lib.hid hn
  have HE := Lib.hid he
  have HFB := Lib.hid hf
  have hsz := h.parts.2.2.2.1
  clear h hn he hf
  go_enter Tryz.func157, Tryz.ntmps157
  go_wp2_with fail
  refine (ResetB H.out).mono ?_
  rintro e w1 ⟨rfl, h1, hf1⟩
  have H1 := Lib.hid h1
  have F1 := Lib.hid hf1
  clear h1 hf1
  go_wp2_with fail
  refine (readNameB j H1.out hij hj HN.out HE.out hlt (by simp; omega)).mono ?_
  rintro e w2 ⟨rfl, h1, hf1⟩
  have H2 := Lib.hid h1
  have F2 := Lib.hid (F1.out.trans hf1)
  clear h1 hf1 H1 F1
  go_wp2_with fail
  refine (BytesB H2.out).mono ?_
  rintro e w3 ⟨buf, rfl, hlow, hbuf, h3, hf3⟩
  have F3 := Lib.hid (F2.out.trans hf3)
  have H3 := Lib.hid h3
  have hconv := run_bytes_string hbuf
  have hlen : (sub s i j).length = j - i := sub_length s i j (by omega)
  clear hf3 h3 hlow H2 F2
  rw [List.nil_append] at hbuf hconv
  rcases hbuf.cases with ⟨rfl, hnil⟩ | ⟨g, cap, cur, rfl, hg, hl, hm, hcs, ht⟩
  · rw [hnil] at hlen; simp at hlen; omega
  have hgl : g < w3.heap.size := by
    rcases Nat.lt_or_ge g w3.heap.size with h | h
    · exact h
    · rw [Array.getElem?_eq_none h] at hg; cases hg
  have hall : ∀ b ∈ sub s i j, nameB b = true := by
    intro b hb
    obtain ⟨k, hk, h1, h2, rfl⟩ := sub_mem s i j (by omega) hb
    exact HN.out k hk h1 h2
  have hfst : ∀ h : 0 < (sub s i j).length, firstB (sub s i j)[0] = true := by
    intro h
    have := sub_get s i j 0 (by omega) h
    rw [this]
    simpa using HFB.out
  have hname : Calls Tryz.prog 188 #[.slice (some ⟨g, 0, none⟩) (sub s i j).length cap] w3 fun e w' => e = .returned (.bool true) ∧ Below w3.heap.size w3 w' :=
    isName_ascii g _ cap (sub s i j) w3 rfl (by omega) hl (by unfold maxLen at hm; omega) (fun k hk => row_byte hg ht k hk) hgl hall hfst
  have HNM := Lib.hid hname
  have HG := Lib.hid hg
  have HT := Lib.hid ht
  have HC := Lib.hid hcs
  have HL := Lib.hid hlen
  clear hall hfst hname hg ht hcs hconv hlen
  have hm' := hm
  unfold maxLen at hm'
  go_wp2_with fail
  refine HNM.out.mono ?_
  rintro e w4 ⟨rfl, hb⟩
  have hg4 : w4.heap[g]? = some (.cells cur 5 (0, 0)) := (hb.block g hgl).trans HG.out
  have hconv := run_bytes_string (BufH.mk hg4 hl hm HC.out HT.out)
  have HB := Lib.hid hb
  clear hb hg4
  go_wp2_with fail
  go_ret2
  refine ⟨rfl, ?_, F3.out.trans (Fr.below HB.out (Nat.le_refl _) H3.out.parts.2.2.1)⟩
  have := H3.out.below HB.out
  simpa using this

end Go.Proofs.YtlljphipglgjiaaGreatDoor

namespace Go.Proofs.YtlljphipglgjiaaGreatDoor
open Go.RowKit

theorem ba_ext {a b : ByteArray} (h : a.data.toList = b.data.toList) : a = b := by
  cases a; cases b
  simpa using h
theorem ba_beq (a b : ByteArray) : (a.toList == b.toList) = decide (a = b) := by
  rw [Lib.toList_data, Lib.toList_data]
  by_cases h : a = b
  · simp [h]
  · have h2 : ¬ a.data.toList = b.data.toList := fun e => h (ba_ext e)
    rw [decide_eq_false h, beq_eq_false_iff_ne]
    exact h2

set_option maxHeartbeats 400000 in
theorem zzIndex_found (s sub : ByteArray) (j : Nat) (w : World) (hs : s.size ≤ 1000000) (hj : j + sub.size ≤ s.size) (hat : s.extract j (j + sub.size) = sub) (hno : ∀ k, k < j → s.extract k (k + sub.size) ≠ sub) :
    Calls Tryz.prog 196 #[.string s, .string sub] w fun e w' => e = .returned (.int .i64 j) ∧ w = w' := by
  have HA := Lib.hid hat
  have HN := Lib.hid hno
  clear hat hno
  go_enter Tryz.func196, Tryz.ntmps196
  go_wp2_with fail
  go_loop [4, 5] (fun _a i => ∃ k : Nat, k ≤ j ∧ i = .int .i64 k) (fun _ i => j - (intOf i).toNat)
  case atStart => exact ⟨0, Nat.zero_le _, rfl⟩
  case round =>
    obtain ⟨k, hk, rfl⟩ := hrel
    by_cases hkj : k < j
    · have e1 : ((s.extract k (k + sub.size)).toList == sub.toList) = false := by rw [ba_beq]; simpa using HN.out k hkj
      go_wp2_with fail
      go_round
      case rel => exact ⟨k + 1, by omega, by go_num⟩
      case measure => simp [intOf]; omega
    · obtain rfl : k = j := by omega
      have e1 : ((s.extract k (k + sub.size)).toList == sub.toList) = true := by rw [ba_beq]; simpa using HA.out
      go_wp2_with fail
      go_ret
      exact ⟨rfl, rfl⟩

set_option maxHeartbeats 400000 in
theorem zzIndex_none (s sub : ByteArray) (w : World) (hs : s.size ≤ 1000000) (hb : sub.size ≤ 1000000) (hno : ∀ k, k + sub.size ≤ s.size → s.extract k (k + sub.size) ≠ sub) :
    Calls Tryz.prog 196 #[.string s, .string sub] w fun e w' => e = .returned (.int .i64 (-1)) ∧ w = w' := by
  have HN := Lib.hid hno
  clear hno
  go_enter Tryz.func196, Tryz.ntmps196
  go_wp2_with fail
  go_loop [4, 5] (fun _a i => ∃ k : Nat, k ≤ s.size + 1 ∧ i = .int .i64 k) (fun _ i => s.size + 1 - (intOf i).toNat)
  case atStart => exact ⟨0, Nat.zero_le _, rfl⟩
  case round =>
    obtain ⟨k, hk, rfl⟩ := hrel
    by_cases hkj : k + sub.size ≤ s.size
    · have e1 : ((s.extract k (k + sub.size)).toList == sub.toList) = false := by rw [ba_beq]; simpa using HN.out k hkj
      go_wp2_with fail
      go_round
      case rel => exact ⟨k + 1, by omega, by go_num⟩
      case measure => simp [intOf]; omega
    · go_wp2_with fail
      go_ret
      exact ⟨rfl, rfl⟩


/-- How often the colon stands in a list. -/
def colons (l : List UInt8) : Nat := l.countP (· == 58)

theorem colon_list : (⟨#[58]⟩ : ByteArray).toList = [58] := by rw [Lib.toList_data]

theorem ext_one (s : ByteArray) (k : Nat) (hk : k < s.size) : s.extract k (k + 1) = ⟨#[s[k]]⟩ := by
  apply ba_ext
  have hl : s.data.toList.length = s.size := by rw [Array.length_toList]; rfl
  rw [← Lib.toList_data, Lib.extract_toList]
  rw [show k + 1 - k = 1 by omega, List.take_one]
  have : (s.data.toList.drop k).head? = some s[k] := by
    rw [List.head?_drop, List.getElem?_eq_getElem (by omega)]
    rfl
  rw [this]
  rfl

set_option maxHeartbeats 400000 in
theorem zzCount_any (s : ByteArray) (w : World) (hs : s.size ≤ 1000000) :
    Calls Tryz.prog 192 #[.string s, .string ⟨#[58]⟩] w fun e w' => e = .returned (.int .i64 (colons s.data.toList)) ∧ w = w' := by
  have hl : s.data.toList.length = s.size := by rw [Array.length_toList]; rfl
  go_enter Tryz.func192, Tryz.ntmps192
  go_wp2_with fail
  go_loop [5, 6, 9] (fun n _j i => ∃ k : Nat, k ≤ s.size ∧ i = .int .i64 k ∧ n = .int .i64 (colons (s.data.toList.take k))) (fun _ _ i => s.size - (intOf i).toNat)
  case atStart => exact ⟨0, Nat.zero_le _, rfl, rfl⟩
  case round =>
    obtain ⟨k, hk, rfl, rfl⟩ := hrel
    have hcb : colons (s.data.toList.take k) ≤ k := Nat.le_trans List.countP_le_length (by rw [List.length_take]; omega)
    by_cases hkj : k < s.size
    · have hsn : colons (s.data.toList.take (k + 1)) = colons (s.data.toList.take k) + if s[k] = 58 then 1 else 0 := by
        unfold colons
        rw [List.take_succ_eq_append_getElem (by omega), List.countP_append]
        congr 1
        have : s.data.toList[k]'(by omega) = s[k] := rfl
        rw [this]
        simp [List.countP_cons]
      by_cases h58 : s[k] = 58
      · have e1 : ((s.extract k (k + 1)).toList == [58]) = true := by rw [← colon_list, ba_beq, ext_one s k hkj, h58]; simp
        rw [if_pos h58] at hsn
        have HS := Lib.hid hsn
        clear hsn h58
        go_wp2_with fail
        go_round
        case rel => exact ⟨k + 1, by omega, by go_num, by rw [HS.out]; go_num⟩
        case measure => simp [intOf]; omega
      · have e1 : ((s.extract k (k + 1)).toList == [58]) = false := by
          rw [← colon_list, ba_beq, ext_one s k hkj]
          simp only [decide_eq_false_iff_not]
          intro h
          injection h with h
          injection h with h
          injection h with h
          exact h58 h
        rw [if_neg h58] at hsn
        have HS := Lib.hid hsn
        clear hsn h58
        go_wp2_with fail
        go_round
        case rel => exact ⟨k + 1, by omega, by go_num, by rw [HS.out]; rfl⟩
        case measure => simp [intOf]; omega
    · obtain rfl : k = s.size := by omega
      go_wp2_with fail
      go_ret
      exact ⟨ret_int (by rw [List.take_of_length_le (by omega)]), rfl⟩

set_option maxHeartbeats 400000 in
theorem zzCut_yes (s : ByteArray) (j : Nat) (w : World) (hs : s.size ≤ 1000000) (hj : j < s.size) (hat : s[j] = 58) (hno : ∀ k (hk : k < j), s[k]'(by omega) ≠ 58) :
    Calls Tryz.prog 193 #[.string s, .string ⟨#[58]⟩] w fun e w' => e = .returned (.tuple #[.string (s.extract 0 j), .string (s.extract (j + 1) s.size), .bool true]) ∧ ∃ n, w.drewN n = w' := by
  have HI : Hid (Calls Tryz.prog 196 #[.string s, .string ⟨#[58]⟩] w fun e w' => e = .returned (.int .i64 j) ∧ w = w') :=
    Lib.hid (zzIndex_found s ⟨#[58]⟩ j w hs (by show j + 1 ≤ s.size; omega) (by show s.extract j (j + 1) = _; rw [ext_one s j hj, hat]) (fun k hk => by
      show s.extract k (k + 1) ≠ _
      rw [ext_one s k (by omega)]
      intro h
      injection h with h
      injection h with h
      injection h with h
      exact hno k hk h))
  clear hat hno
  go_enter Tryz.func193, Tryz.ntmps193
  go_wp2_with fail
  refine HI.out.mono ?_
  rintro e w1 ⟨rfl, rfl⟩
  go_wp2_with fail
  have q1 : IntKind.i64.wrap ((j : Int) + 1) = (j : Int) + 1 := by rw [IntKind.wrap_i64]; omega
  have q2 : (0 : Int) ≤ (j : Int) + 1 := by omega
  have q3 : ((j : Int) + 1).toNat = j + 1 := by omega
  have q4 : (j : Int) + 1 ≤ (s.size : Int) := by omega
  go_quiet (fail)
  go_wp2_with fail
  go_ret3
  exact ⟨rfl, _, rfl⟩

set_option maxHeartbeats 400000 in
theorem zzCut_no (s : ByteArray) (w : World) (hs : s.size ≤ 1000000) (hno : ∀ k (hk : k < s.size), s[k] ≠ 58) :
    Calls Tryz.prog 193 #[.string s, .string ⟨#[58]⟩] w fun e w' => e = .returned (.tuple #[.string s, .string ⟨#[]⟩, .bool false]) ∧ w = w' := by
  have HI : Hid (Calls Tryz.prog 196 #[.string s, .string ⟨#[58]⟩] w fun e w' => e = .returned (.int .i64 (-1)) ∧ w = w') :=
    Lib.hid (zzIndex_none s ⟨#[58]⟩ w hs (by decide) (fun k hk => by
      have hk' : k < s.size := hk
      show s.extract k (k + 1) ≠ _
      rw [ext_one s k hk']
      intro h
      injection h with h
      injection h with h
      injection h with h
      exact hno k hk' h))
  clear hno
  go_enter Tryz.func193, Tryz.ntmps193
  go_wp2_with fail
  refine HI.out.mono ?_
  rintro e w1 ⟨rfl, rfl⟩
  go_wp2_with fail
  go_ret3
  exact ⟨rfl, rfl⟩

end Go.Proofs.YtlljphipglgjiaaGreatDoor

namespace Go.Proofs.YtlljphipglgjiaaGreatDoor
open Go.RowKit

/-- A name with its prefix (empty: none) and its local part. -/
def QName (nl sp lo : List UInt8) : Prop := (sp = [] ∧ nl = lo ∧ 58 ∉ lo) ∨ (sp ≠ [] ∧ lo ≠ [] ∧ nl = sp ++ 58 :: lo ∧ 58 ∉ sp ∧ 58 ∉ lo)

/-- M without the blocks that were made between two worlds. -/
def Out (M : Nat → Prop) (a b : Nat) (k : Nat) : Prop := M k ∧ (k < a ∨ b ≤ k)
theorem Out.sub {M : Nat → Prop} {a b k : Nat} (h : Out M a b k) : M k := h.1
theorem not_Out {M : Nat → Prop} {a b k : Nat} (h1 : a ≤ k) (h2 : k < b) : ¬ Out M a b k := fun h => by rcases h.2 with h | h <;> omega

theorem LowB.out {M : Nat → Prop} {w W : World} {L : LS} {s : ByteArray} {i : Nat} {f : Bool} {bs : List UInt8} (h : LowB M w L s i f bs) (hb : Below w.heap.size w W) : LowB (Out M w.heap.size W.heap.size) W L s i f bs := by
  obtain ⟨h1, h2, h3, h4, h5, buf, hL, hB, hM⟩ := h
  have hp : L.p < w.heap.size := by obtain ⟨_, _, _, _, _, _, _, q, _⟩ := hL; exact q.lt
  have hr : L.rb < w.heap.size := by obtain ⟨_, _, _, _, _, _, _, _, q, _⟩ := hL; exact q.lt
  have hg : ∀ g, buf.ownBlock = some g → g < w.heap.size := by
    intro g hg
    rcases hB.cases with ⟨rfl, rfl⟩ | ⟨g', cap, cur, rfl, hg2, _⟩
    · cases hg
    · cases hg; exact Blk.lt (t := 5) (cs := cur) hg2
  have := LowB.below ⟨h1, h2, h3, h4, h5, buf, hL, hB, hM⟩ hb
  obtain ⟨_, _, q3, _, _, _⟩ := this
  have hLW : Low W L s i f buf := by
    obtain ⟨lr, nb, ri, pr, line, ls, off, r1, r2, r3⟩ := hL
    exact ⟨lr, nb, ri, pr, line, ls, off, (hb.block _ r1.lt).trans r1, (hb.block _ r2.lt).trans r2, r3⟩
  exact ⟨⟨h1, .inl hp⟩, ⟨h2, .inl hr⟩, fun k hk => ⟨q3 k hk, .inr hk⟩, h4, h5, buf, hLW, hB.keep fun g hg' cur hc => (hb.block g (hg g hg')).trans hc, fun g hg' => ⟨⟨(hM g hg').1, .inl (hg g hg')⟩, (hM g hg').2⟩⟩

theorem LowB.setOther {M : Nat → Prop} {w : World} {L : LS} {s : ByteArray} {i : Nat} {f : Bool} {bs : List UInt8} (h : LowB M w L s i f bs) {q : Addr} (hq : ¬ M q.block) (v : Value) : LowB M (w.setCell q v) L s i f bs := by
  obtain ⟨h1, h2, h3, h4, h5, buf, ⟨lr, nb, ri, pr, line, ls, off, r1, r2, r3⟩, hB, hM⟩ := h
  exact ⟨h1, h2, h3.setCell _ _, h4, h5, buf, ⟨lr, nb, ri, pr, line, ls, off, r1.far (fun e => hq (e ▸ h1)) _, r2.far (fun e => hq (e ▸ h2)) _, r3⟩,
    hB.keep fun g hg cur hc => (Below.heap_setCell _ _ _ _ (fun e => hq (e ▸ (hM g hg).1))).trans hc, hM⟩

theorem LowB.mono {M M' : Nat → Prop} {w : World} {L : LS} {s : ByteArray} {i : Nat} {f : Bool} {bs : List UInt8} (h : LowB M w L s i f bs) (hM : ∀ k, M k → M' k) : LowB M' w L s i f bs := by
  obtain ⟨h1, h2, h3, h4, h5, buf, hL, hB, hg⟩ := h
  exact ⟨hM _ h1, hM _ h2, fun k hk => hM _ (h3 k hk), h4, h5, buf, hL, hB, fun g hg' => ⟨hM _ (hg g hg').1, (hg g hg').2⟩⟩

theorem colons_zero {l : List UInt8} (h : 58 ∉ l) : colons l = 0 := by
  unfold colons
  rw [List.countP_eq_zero]
  intro a ha h2
  simp at h2
  subst h2
  exact h ha

set_option maxRecDepth 100000 in
set_option maxHeartbeats 1000000 in
theorem nsname_plain {M : Nat → Prop} {w : World} {L : LS} {s : ByteArray} {i : Nat} {f : Bool} {bs : List UInt8} (j : Nat) (h : LowB M w L s i f bs) (hij : i < j) (hj : j < s.size)
    (hn : ∀ k (hk : k < s.size), i ≤ k → k < j → nameB s[k] = true) (hf : firstB (s[i]'(by omega)) = true) (he : nameB s[j] = false) (hlt : s[j].toNat < 128) (hq : 58 ∉ sub s i j) :
    Calls Tryz.prog 155 #[.pointer (some ⟨L.p, 0, none⟩)] w fun e w' => e = .returned (.tuple #[.agg #[.string ⟨#[]⟩, .string (bst (sub s i j))], .bool true]) ∧ LowB M w' L s j false (sub s i j) ∧ Fr M w w' := by
  have hsz := h.parts.2.2.2.1
  have hN := h.parts.2.2.1
  have hb0 : Below w.heap.size w (w.alloc (.cells #[.string ⟨#[]⟩, .string ⟨#[]⟩] 59)) := (Below.refl _ _).alloc (Nat.le_refl _) _
  have HNM := nameB_ok j (h.out hb0) hij hj hn hf he hlt
  have HM := Lib.hid HNM
  have H := Lib.hid h
  have hlen := sub_length s i j (by omega)
  have hcnt := zzCount_any (bst (sub s i j))
  have hcut := zzCut_no (bst (sub s i j))
  rw [bst_toList, colons_zero hq] at hcnt
  have HCN := Lib.hid hcnt
  have HCT := Lib.hid hcut
  have HQ := Lib.hid hq
  have hbs : (bst (sub s i j)).size ≤ 1000000 := by rw [bst_size]; omega
  have HBS := Lib.hid hbs
  clear h hn hf he hq hcnt hcut hbs HNM hlen
  go_enter Tryz.func155, Tryz.ntmps155
  go_wp2_with fail
  refine HM.out.mono ?_
  rintro e w1 ⟨rfl, h1, hf1⟩
  have hblk : Blk w1 w.heap.size 59 #[.string ⟨#[]⟩, .string ⟨#[]⟩] := (Blk.new w 59 _).fr hf1 (not_Out (Nat.le_refl _) (by simp))
  have H1 := Lib.hid h1
  have F1 := Lib.hid hf1
  have HBK := Lib.hid hblk
  have hc := hblk.cell
  have hfz := hblk.frozen
  clear h1 hf1 hblk
  go_wp2_with fail
  refine (HCN.out _ HBS.out).mono ?_
  rintro e w2 ⟨rfl, rfl⟩
  go_wp2_with fail
  refine (HCT.out _ HBS.out (fun k hk => ?_)).mono ?_
  · intro h58
    exact HQ.out (by rw [← h58]; exact List.getElem_mem (l := sub s i j) (by rw [bst_size] at hk; exact hk))
  rintro e w2 ⟨rfl, rfl⟩
  go_wp2_with fail
  have hb2 : Blk (((w1.setCell ⟨w.heap.size, 1, none⟩ (.string (bst (sub s i j)))).setCell ⟨w.heap.size, 0, none⟩ (.string ⟨#[]⟩)).setCell ⟨w.heap.size, 1, none⟩ (.string (bst (sub s i j)))) w.heap.size 59 #[.string ⟨#[]⟩, .string (bst (sub s i j))] := (((HBK.out.set 1 _).set 0 _).set 1 _).eq rfl
  have hc2 := hb2.cell
  refine bodyPost_ret (v := .tuple #[.agg #[.string ⟨#[]⟩, .string (bst (sub s i j))], .bool true]) (by simp [results, Tryz.results155, go_sem, hc2]) rfl ⟨rfl, ?_, ?_⟩
  · exact (((H1.out.setOther (q := ⟨w.heap.size, 1, none⟩) (not_Out (Nat.le_refl _) (by simp)) _).setOther (q := ⟨w.heap.size, 0, none⟩) (not_Out (Nat.le_refl _) (by simp)) _).setOther (q := ⟨w.heap.size, 1, none⟩) (not_Out (Nat.le_refl _) (by simp)) _).mono fun k hk => hk.sub
  · exact ((((Fr.below hb0 (Nat.le_refl _) hN).trans (F1.out.mono fun k hk => hk.sub)).setCell (p := ⟨w.heap.size, 1, none⟩) (hN _ (Nat.le_refl _)) _).setCell (p := ⟨w.heap.size, 0, none⟩) (hN _ (Nat.le_refl _)) _).setCell (p := ⟨w.heap.size, 1, none⟩) (hN _ (Nat.le_refl _)) _

set_option maxRecDepth 100000 in
set_option maxHeartbeats 1000000 in
theorem nsname_pre {M : Nat → Prop} {w : World} {L : LS} {s : ByteArray} {i : Nat} {f : Bool} {bs : List UInt8} (j : Nat) (sp lo : List UInt8) (h : LowB M w L s i f bs) (hij : i < j) (hj : j < s.size)
    (hn : ∀ k (hk : k < s.size), i ≤ k → k < j → nameB s[k] = true) (hf : firstB (s[i]'(by omega)) = true) (he : nameB s[j] = false) (hlt : s[j].toNat < 128) (hq : sub s i j = sp ++ 58 :: lo) (hsp : sp ≠ []) (hlo : lo ≠ []) (hq1 : 58 ∉ sp) (hq2 : 58 ∉ lo) :
    Calls Tryz.prog 155 #[.pointer (some ⟨L.p, 0, none⟩)] w fun e w' => e = .returned (.tuple #[.agg #[.string (bst sp), .string (bst lo)], .bool true]) ∧ LowB M w' L s j false (sub s i j) ∧ Fr M w w' := by
  have hsz := h.parts.2.2.2.1
  have hN := h.parts.2.2.1
  have hb0 : Below w.heap.size w (w.alloc (.cells #[.string ⟨#[]⟩, .string ⟨#[]⟩] 59)) := (Below.refl _ _).alloc (Nat.le_refl _) _
  have HNM := nameB_ok j (h.out hb0) hij hj hn hf he hlt
  have HM := Lib.hid HNM
  have H := Lib.hid h
  have hlen := sub_length s i j (by omega)
  have hcnt := zzCount_any (bst (sub s i j))
  have hcut := zzCut_yes (bst (sub s i j)) sp.length
  have hc1 : colons (bst (sub s i j)).data.toList = 1 := by
    rw [bst_toList, hq]
    unfold colons
    rw [List.countP_append, List.countP_cons]
    have e1 := colons_zero hq1
    have e2 := colons_zero hq2
    unfold colons at e1 e2
    rw [e1, e2]
    rfl
  rw [hc1] at hcnt
  have hbs : (bst (sub s i j)).size ≤ 1000000 := by rw [bst_size]; omega
  have hspl : sp.length < (bst (sub s i j)).size := by rw [bst_size, hq]; simp
  have x1 : (bst (sub s i j)).extract 0 sp.length = bst sp := by
    apply ba_ext
    rw [← Lib.toList_data, Lib.extract_toList, bst_toList, bst_toList, hq]
    simp
  have x2 : (bst (sub s i j)).extract (sp.length + 1) (bst (sub s i j)).size = bst lo := by
    apply ba_ext
    rw [← Lib.toList_data, Lib.extract_toList, bst_size, bst_toList, bst_toList, hq]
    have : (sp ++ 58 :: lo).drop (sp.length + 1) = lo := by
      rw [List.drop_append]
      simp
    rw [this, List.take_of_length_le]
    rw [List.length_append, List.length_cons]; omega
  rw [x1, x2] at hcut
  have hget : ∀ k (hk : k < (bst (sub s i j)).size), (bst (sub s i j))[k] = (sp ++ 58 :: lo)[k]'(by rw [bst_size, hq] at hk; exact hk) := by
    intro k hk
    have : (bst (sub s i j))[k] = (sub s i j)[k]'(by rw [bst_size] at hk; exact hk) := rfl
    rw [this]
    congr 1
  have hat : (bst (sub s i j))[sp.length] = 58 := by rw [hget _ hspl]; simp
  have hno : ∀ k (hk : k < sp.length), (bst (sub s i j))[k]'(by omega) ≠ 58 := by
    intro k hk h58
    rw [hget k (by omega), List.getElem_append_left hk] at h58
    exact hq1 (by rw [← h58]; exact List.getElem_mem hk)
  have HCN := Lib.hid hcnt
  have HCT := Lib.hid (fun W => hcut W hbs hspl hat hno)
  have HBS := Lib.hid hbs
  have hs1 : (bst sp).toList = sp := Lib.toList_data _
  have hl1 : (bst lo).toList = lo := Lib.toList_data _
  have hs0 : sp.isEmpty = false := by cases sp with | nil => exact absurd rfl hsp | cons _ _ => rfl
  have hl0 : lo.isEmpty = false := by cases lo with | nil => exact absurd rfl hlo | cons _ _ => rfl
  clear h hn hf he hq hcnt hcut hbs HNM hlen hc1 hspl x1 x2 hget hat hno hsp hlo hq1 hq2
  go_enter Tryz.func155, Tryz.ntmps155
  go_wp2_with fail
  refine HM.out.mono ?_
  rintro e w1 ⟨rfl, h1, hf1⟩
  have hblk : Blk w1 w.heap.size 59 #[.string ⟨#[]⟩, .string ⟨#[]⟩] := (Blk.new w 59 _).fr hf1 (not_Out (Nat.le_refl _) (by simp))
  have H1 := Lib.hid h1
  have F1 := Lib.hid hf1
  have HBK := Lib.hid hblk
  have hc := hblk.cell
  have hfz := hblk.frozen
  clear h1 hf1 hblk
  go_wp2_with fail
  refine (HCN.out _ HBS.out).mono ?_
  rintro e w2 ⟨rfl, rfl⟩
  go_wp2_with fail
  refine (HCT.out _).mono ?_
  rintro e w2 ⟨rfl, n2, rfl⟩
  go_wp2_with fail
  have q0 : ¬ Out M w.heap.size (w.alloc (Obj.cells #[Value.string { data := #[] }, Value.string { data := #[] }] 59)).heap.size w.heap.size := not_Out (Nat.le_refl _) (by simp)
  have hb2 : Blk (((((w1.drewN n2).setCell ⟨w.heap.size, 0, none⟩ (.string (bst sp))).setCell ⟨w.heap.size, 1, none⟩ (.string (bst lo))).setCell ⟨w.heap.size, 0, none⟩ (.string (bst sp))).setCell ⟨w.heap.size, 1, none⟩ (.string (bst lo))) w.heap.size 59 #[.string (bst sp), .string (bst lo)] :=
    (((((HBK.out.drewN n2).set 0 _).set 1 _).set 0 _).set 1 _).eq rfl
  have hc2 := hb2.cell
  refine bodyPost_ret (v := .tuple #[.agg #[.string (bst sp), .string (bst lo)], .bool true]) (by simp [results, Tryz.results155, go_sem, hc2]) rfl ⟨rfl, ?_, ?_⟩
  · have h5 : LowB (Out M w.heap.size (w.alloc (Obj.cells #[Value.string { data := #[] }, Value.string { data := #[] }] 59)).heap.size) (w1.drewN n2) L s j false (sub s i j) := H1.out.below ⟨rfl, rfl, rfl, Nat.le_refl _, fun _ _ => rfl⟩
    exact ((((h5.setOther (q := ⟨w.heap.size, 0, none⟩) q0 _).setOther (q := ⟨w.heap.size, 1, none⟩) q0 _).setOther (q := ⟨w.heap.size, 0, none⟩) q0 _).setOther (q := ⟨w.heap.size, 1, none⟩) q0 _).mono fun k hk => hk.sub
  · exact ((((((Fr.below hb0 (Nat.le_refl _) hN).trans (F1.out.mono fun k hk => hk.sub)).drewN n2).setCell (p := ⟨w.heap.size, 0, none⟩) (hN _ (Nat.le_refl _)) _).setCell (p := ⟨w.heap.size, 1, none⟩) (hN _ (Nat.le_refl _)) _).setCell (p := ⟨w.heap.size, 0, none⟩) (hN _ (Nat.le_refl _)) _).setCell (p := ⟨w.heap.size, 1, none⟩) (hN _ (Nat.le_refl _)) _

theorem nsnameB {M : Nat → Prop} {w : World} {L : LS} {s : ByteArray} {i : Nat} {f : Bool} {bs : List UInt8} (j : Nat) (sp lo : List UInt8) (h : LowB M w L s i f bs) (hij : i < j) (hj : j < s.size)
    (hn : ∀ k (hk : k < s.size), i ≤ k → k < j → nameB s[k] = true) (hf : firstB (s[i]'(by omega)) = true) (he : nameB s[j] = false) (hlt : s[j].toNat < 128) (hq : QName (sub s i j) sp lo) :
    Calls Tryz.prog 155 #[.pointer (some ⟨L.p, 0, none⟩)] w fun e w' => e = .returned (.tuple #[.agg #[.string (bst sp), .string (bst lo)], .bool true]) ∧ LowB M w' L s j false (sub s i j) ∧ Fr M w w' := by
  rcases hq with ⟨rfl, rfl, h1⟩ | ⟨h1, h2, h3, h4, h5⟩
  · exact nsname_plain j h hij hj hn hf he hlt h1
  · exact nsname_pre j sp lo h hij hj hn hf he hlt h3 h1 h2 h4 h5

end Go.Proofs.YtlljphipglgjiaaGreatDoor

namespace Go.Proofs.YtlljphipglgjiaaGreatDoor
open Go.RowKit

/-- The reader of s is the block b; it stands at place i. M: the blocks that may turn. -/
def RdM (M : Nat → Prop) (w : World) (b : Nat) (s : ByteArray) (i : Nat) (bad : Bool) : Prop :=
  M b ∧ New M w ∧ s.size ≤ 1000000 ∧ i ≤ s.size ∧ Blk w b 101 #[.string s, .int .i64 i, .bool bad]

section
variable {M : Nat → Prop} {w w' : World} {b : Nat} {s : ByteArray} {i : Nat} {bad : Bool}
theorem RdM.c0 (h : RdM M w b s i bad) : w.cell? ⟨b, 0, none⟩ = some (.string s) := h.2.2.2.2.cell 0
theorem RdM.c1 (h : RdM M w b s i bad) : w.cell? ⟨b, 1, none⟩ = some (.int .i64 i) := h.2.2.2.2.cell 1
theorem RdM.c2 (h : RdM M w b s i bad) : w.cell? ⟨b, 2, none⟩ = some (.bool bad) := h.2.2.2.2.cell 2
theorem RdM.at' (h : RdM M w b s i bad) (j : Nat) (hj : j ≤ s.size) : RdM M (w.setCell ⟨b, 1, none⟩ (.int .i64 j)) b s j bad :=
  ⟨h.1, h.2.1.setCell _ _, h.2.2.1, hj, (h.2.2.2.2.set 1 _).eq rfl⟩
theorem RdM.bad' (h : RdM M w b s i bad) (q : Bool) : RdM M (w.setCell ⟨b, 2, none⟩ (.bool q)) b s i q :=
  ⟨h.1, h.2.1.setCell _ _, h.2.2.1, h.2.2.2.1, (h.2.2.2.2.set 2 _).eq rfl⟩
theorem RdM.fr' {M' : Nat → Prop} (h : RdM M w b s i bad) (f : Fr M' w w') (hb : ¬ M' b) : RdM M w' b s i bad :=
  ⟨h.1, h.2.1.fr f, h.2.2.1, h.2.2.2.1, h.2.2.2.2.fr f hb⟩
end

/-- Does wd stand at place i? -/
def hasB (s : ByteArray) (i : Nat) (wd : ByteArray) : Bool := decide (sub s i (i + wd.size) = wd.data.toList)

set_option maxHeartbeats 400000 in
theorem rd_has_no (M : Nat → Prop) (b : Nat) (s : ByteArray) (i : Nat) (bad : Bool) (wd : ByteArray) (w : World) (h : RdM M w b s i bad) (hwd : wd.size ≤ 1000) (hno : hasB s i wd = false) :
    Calls Tryz.prog 52 #[.pointer (some ⟨b, 0, none⟩), .string wd] w fun e w' => e = .returned (.bool false) ∧ ∃ n, w.drewN n = w' := by
  have c0 := h.c0
  have c1 := h.c1
  have hs := h.2.2.1
  have hi := h.2.2.2.1
  have q1 : IntKind.i64.wrap ((s.size : Int) - (i : Int)) = (s.size : Int) - (i : Int) := by rw [IntKind.wrap_i64]; omega
  clear h
  by_cases hlen : s.size - i < wd.size
  · have d1 : decide ((s.size : Int) - (i : Int) < (wd.size : Int)) = true := by simp; omega
    clear hno
    go_enter Tryz.func52, Tryz.ntmps52
    go_wp2_with fail
    go_quiet (fail)
    go_wp2_with fail
    go_ret
    exact ⟨rfl, _, rfl⟩
  · have d1 : decide ((s.size : Int) - (i : Int) < (wd.size : Int)) = false := by simp; omega
    have q2 : IntKind.i64.wrap ((i : Int) + (wd.size : Int)) = (i : Int) + (wd.size : Int) := by rw [IntKind.wrap_i64]; omega
    have q3 : ((i : Int) + (wd.size : Int)).toNat = i + wd.size := by omega
    have q4 : (i : Int) + (wd.size : Int) ≤ (s.size : Int) := by omega
    have q5 : (i : Int) ≤ (i : Int) + (wd.size : Int) := by omega
    have e1 : ((s.extract i (i + wd.size)).toList == wd.toList) = false := by
      rw [Lib.extract_toList, Lib.toList_data, beq_eq_false_iff_ne]
      unfold hasB sub at hno
      exact of_decide_eq_false hno
    clear hno
    go_enter Tryz.func52, Tryz.ntmps52
    go_wp2_with fail
    go_quiet (fail)
    go_wp2_with fail
    go_ret
    exact ⟨rfl, _, rfl⟩

theorem hasB_le {s : ByteArray} {i : Nat} {wd : ByteArray} (h : hasB s i wd = true) (hi : i ≤ s.size) : i + wd.size ≤ s.size := by
  have hl : s.data.toList.length = s.size := by rw [Array.length_toList]; rfl
  have hwl : wd.data.toList.length = wd.size := by rw [Array.length_toList]; rfl
  unfold hasB at h
  have := congrArg List.length (of_decide_eq_true h)
  unfold sub at this
  rw [List.length_take, List.length_drop] at this
  omega

set_option maxHeartbeats 400000 in
theorem rd_has_yes (M : Nat → Prop) (b : Nat) (s : ByteArray) (i : Nat) (bad : Bool) (wd : ByteArray) (w : World) (h : RdM M w b s i bad) (hwd : wd.size ≤ 1000) (hyes : hasB s i wd = true) :
    Calls Tryz.prog 52 #[.pointer (some ⟨b, 0, none⟩), .string wd] w fun e w' => e = .returned (.bool true) ∧ RdM M w' b s (i + wd.size) bad ∧ Fr (fun k => k = b) w w' := by
  have c0 := h.c0
  have c1 := h.c1
  have hf := h.2.2.2.2.frozen
  have hs := h.2.2.1
  have hi := h.2.2.2.1
  have hle := hasB_le hyes hi
  have HH := Lib.hid h
  clear h
  have q1 : IntKind.i64.wrap ((s.size : Int) - (i : Int)) = (s.size : Int) - (i : Int) := by rw [IntKind.wrap_i64]; omega
  have d1 : decide ((s.size : Int) - (i : Int) < (wd.size : Int)) = false := by simp; omega
  have q2 : IntKind.i64.wrap ((i : Int) + (wd.size : Int)) = (i : Int) + (wd.size : Int) := by rw [IntKind.wrap_i64]; omega
  have q3 : ((i : Int) + (wd.size : Int)).toNat = i + wd.size := by omega
  have q4 : (i : Int) + (wd.size : Int) ≤ (s.size : Int) := by omega
  have q5 : (i : Int) ≤ (i : Int) + (wd.size : Int) := by omega
  have e1 : ((s.extract i (i + wd.size)).toList == wd.toList) = true := by
    rw [Lib.extract_toList, Lib.toList_data, beq_iff_eq]
    unfold hasB sub at hyes
    exact of_decide_eq_true hyes
  clear hyes
  go_enter Tryz.func52, Tryz.ntmps52
  go_wp2_with fail
  go_quiet (fail)
  go_wp2_with fail
  go_ret
  refine ⟨rfl, ?_, ?_⟩
  · have := RdM.at' (w := w.drewN nq) (M := M) (b := b) (s := s) (i := i) (bad := bad) HH.out (i + wd.size) hle
    simpa using this
  · exact Fr.setCell (M := fun k => k = b) ((Fr.refl _ _).drewN _) (show b = b from rfl) _

/-- Where a run of bytes that p holds of ends. -/
def runEnd (p : UInt8 → Bool) (s : ByteArray) (i : Nat) : Nat := i + ((s.data.toList.drop i).takeWhile p).length
theorem runEnd_le (p : UInt8 → Bool) (s : ByteArray) (i : Nat) (hi : i ≤ s.size) : runEnd p s i ≤ s.size := by
  have hl : s.data.toList.length = s.size := by rw [Array.length_toList]; rfl
  have := List.IsPrefix.length_le (List.takeWhile_prefix p (l := s.data.toList.drop i))
  rw [List.length_drop] at this
  unfold runEnd
  omega
theorem runEnd_ge (p : UInt8 → Bool) (s : ByteArray) (i : Nat) : i ≤ runEnd p s i := Nat.le_add_right _ _
theorem runEnd_step (p : UInt8 → Bool) (s : ByteArray) (i : Nat) (hi : i < s.size) (hp : p s[i] = true) : runEnd p s i = runEnd p s (i + 1) := by
  have hl : s.data.toList.length = s.size := by rw [Array.length_toList]; rfl
  unfold runEnd
  rw [List.drop_eq_getElem_cons (by omega : i < s.data.toList.length), List.takeWhile_cons]
  have : s.data.toList[i]'(by omega) = s[i] := rfl
  rw [this, hp]
  simp
  omega
theorem runEnd_stop (p : UInt8 → Bool) (s : ByteArray) (i : Nat) (hi : i < s.size) (hp : p s[i] = false) : runEnd p s i = i := by
  have hl : s.data.toList.length = s.size := by rw [Array.length_toList]; rfl
  unfold runEnd
  rw [List.drop_eq_getElem_cons (by omega : i < s.data.toList.length), List.takeWhile_cons]
  have : s.data.toList[i]'(by omega) = s[i] := rfl
  rw [this, hp]
  simp
theorem runEnd_end (p : UInt8 → Bool) (s : ByteArray) : runEnd p s s.size = s.size := by
  have hl : s.data.toList.length = s.size := by rw [Array.length_toList]; rfl
  unfold runEnd
  rw [List.drop_of_length_le (by omega)]
  rfl

def blankB (c : UInt8) : Bool := c == 32 || c == 9 || c == 10

set_option maxRecDepth 100000 in
set_option maxHeartbeats 1000000 in
theorem rd_blanks (M : Nat → Prop) (b : Nat) (s : ByteArray) (i : Nat) (bad : Bool) (w : World) (h : RdM M w b s i bad) :
    Calls Tryz.prog 53 #[.pointer (some ⟨b, 0, none⟩)] w fun e w' => e = .returned (.bool (decide (i < runEnd blankB s i))) ∧ RdM M w' b s (runEnd blankB s i) bad ∧ Fr (fun k => k = b) w w' := by
  have c1 := h.c1
  have hi := h.2.2.2.1
  have hs := h.2.2.1
  have HH := Lib.hid h
  obtain ⟨e, he⟩ : ∃ e, runEnd blankB s i = e := ⟨_, rfl⟩
  have HE := Lib.hid he
  rw [he]
  clear h he
  have hie : i ≤ e := by rw [← HE.out]; exact runEnd_ge _ _ _
  have hes : e ≤ s.size := by rw [← HE.out]; exact runEnd_le _ _ _ hi
  go_enter Tryz.func53, Tryz.ntmps53
  go_wp2_with fail
  clear c1
  go_loopg [] (s.size - i) (fun g wr => ∃ k : Nat, g = s.size - k ∧ i ≤ k ∧ RdM M wr b s k bad ∧ Fr (fun k => k = b) w wr ∧ Hid (runEnd blankB s k = e))
  case atStart => exact ⟨i, rfl, Nat.le_refl _, HH.out, Fr.refl _ _, HE⟩
  case round =>
    obtain ⟨k, hg, hik, hr, hf, HK⟩ := hrel
    have c0 := hr.c0
    have c1 := hr.c1
    have fz := hr.2.2.2.2.frozen
    have hk := hr.2.2.2.1
    have HR := Lib.hid hr
    have HF := Lib.hid hf
    have HG := Lib.hid hg
    clear hr hf hg HH
    by_cases hks : k < s.size
    · have q1 : IntKind.i64.wrap ((k : Int) + 1) = (k : Int) + 1 := by rw [IntKind.wrap_i64]; omega
      cases hb : blankB s[k] with
      | true =>
        have hst := runEnd_step blankB s k hks hb
        rw [HK.out] at hst
        have HST := Lib.hid hst.symm
        have h3 : s[k].toNat = 32 ∨ s[k].toNat = 9 ∨ s[k].toNat = 10 := by
          unfold blankB at hb
          simp only [Bool.or_eq_true, beq_iff_eq] at hb
          rcases hb with (h | h) | h <;> rw [h] <;> simp
        clear hst hb
        rcases h3 with h | h | h
        all_goals
          have hx : ((s[k].toNat : Nat) : Int) = _ := congrArg (fun n : Nat => (n : Int)) h
          clear h
          go_wp2_with fail
          go_quiet (fail)
          go_wp2_with fail
          go_roundg (s.size - (k + 1))
          case rel => exact ⟨k + 1, rfl, by omega, by simpa using RdM.at' (w := wr.drewN nq) (M := M) (b := b) (s := s) (i := k) (bad := bad) HR.out (k + 1) (by omega), Fr.setCell (M := fun k => k = b) (HF.out.drewN _) (show b = b from rfl) _, HST⟩
          case measure => have := HG.out; omega
      | false =>
        have hst := runEnd_stop blankB s k hks hb
        rw [HK.out] at hst
        subst hst
        have h3 : s[e].toNat ≠ 32 ∧ s[e].toNat ≠ 9 ∧ s[e].toNat ≠ 10 := by
          unfold blankB at hb
          simp only [Bool.or_eq_false_iff, beq_eq_false_iff_ne] at hb
          exact ⟨fun h => hb.1.1 (UInt8.toNat_inj.1 h), fun h => hb.1.2 (UInt8.toNat_inj.1 h), fun h => hb.2 (UInt8.toNat_inj.1 h)⟩
        have d1 : ((s[e].toNat : Int) == 32) = false := by rw [beq_eq_false_iff_ne]; omega
        have d2 : ((s[e].toNat : Int) == 9) = false := by rw [beq_eq_false_iff_ne]; omega
        have d3 : ((s[e].toNat : Int) == 10) = false := by rw [beq_eq_false_iff_ne]; omega
        clear hb h3
        go_wp2_with fail
        go_quiet (fail)
        go_wp2_with fail
        go_ret
        exact ⟨rfl, HR.out, HF.out.drewN _⟩
    · obtain rfl : k = s.size := by omega
      have hke : e = s.size := by rw [← HK.out, runEnd_end]
      subst hke
      go_wp2_with fail
      go_quiet (fail)
      go_wp2_with fail
      go_ret
      exact ⟨rfl, HR.out, HF.out.drewN _⟩

set_option maxRecDepth 100000 in
set_option maxHeartbeats 1000000 in
/-- until, where the text stands at p for the first time. -/
theorem rd_until_yes (M : Nat → Prop) (b : Nat) (s : ByteArray) (i p : Nat) (wd : ByteArray) (w : World) (h : RdM M w b s i false) (hwd : wd.size ≤ 1000) (hip : i ≤ p) (hp : p < s.size) (hyes : hasB s p wd = true) (hno : ∀ k, i ≤ k → k < p → hasB s k wd = false) :
    Calls Tryz.prog 102 #[.pointer (some ⟨b, 0, none⟩), .string wd] w fun e w' => e = .returned (.string (s.extract i p)) ∧ RdM M w' b s (p + wd.size) false ∧ Fr (fun k => k = b) w w' := by
  have c1 := h.c1
  have hs := h.2.2.1
  have HH := Lib.hid h
  have HY := Lib.hid hyes
  have HN := Lib.hid hno
  clear h hyes hno
  go_enter Tryz.func102, Tryz.ntmps102
  go_wp2_with fail
  clear c1
  go_loopg [] (p - i) (fun g wr => ∃ k : Nat, g = p - k ∧ i ≤ k ∧ k ≤ p ∧ RdM M wr b s k false ∧ Fr (fun k => k = b) w wr)
  case atStart => exact ⟨i, rfl, Nat.le_refl _, hip, HH.out, Fr.refl _ _⟩
  case round =>
    obtain ⟨k, hg, hik, hkp, hr, hf⟩ := hrel
    have c0 := hr.c0
    have c1 := hr.c1
    have c2 := hr.c2
    have hk := hr.2.2.2.1
    have HR := Lib.hid hr
    have HF := Lib.hid hf
    have HG := Lib.hid hg
    clear hr hf hg HH
    have hks : k < s.size := by omega
    have q1 : IntKind.i64.wrap ((k : Int) + 1) = (k : Int) + 1 := by rw [IntKind.wrap_i64]; omega
    by_cases hkp' : k < p
    · go_wp2_with fail
      go_quiet (fail)
      go_wp2_with fail
      refine (rd_has_no M b s k false wd _ (show RdM M (wr.drewN _) b s k false from HR.out) hwd (HN.out k hik hkp')).mono ?_
      rintro e w2 ⟨rfl, n2, rfl⟩
      have c1 : ∀ n, (wr.drewN n).cell? ⟨b, 1, none⟩ = some (.int .i64 k) := fun n => HR.out.c1
      have fz : ∀ n i, (wr.drewN n).frozen? ⟨b, i, none⟩ = false := fun n i => HR.out.2.2.2.2.frozen i
      go_wp2_with fail
      go_roundg (p - (k + 1))
      case rel => exact ⟨k + 1, rfl, by omega, by omega, by simpa using RdM.at' (w := wr.drewN _) (M := M) (b := b) (s := s) (i := k) (bad := false) HR.out (k + 1) (by omega), Fr.setCell (M := fun k => k = b) (HF.out.drewN _) (show b = b from rfl) _⟩
      case measure => have := HG.out; omega
    · obtain rfl : k = p := by omega
      go_wp2_with fail
      go_quiet (fail)
      go_wp2_with fail
      refine (rd_has_yes M b s k false wd _ (show RdM M (wr.drewN _) b s k false from HR.out) hwd HY.out).mono ?_
      rintro e w2 ⟨rfl, h2, hf2⟩
      have c0 := h2.c0
      have H2 := Lib.hid h2
      have HF2 := Lib.hid ((HF.out.drewN _).trans hf2)
      clear h2 hf2
      go_wp2_with fail
      go_ret
      exact ⟨rfl, H2.out, HF2.out⟩

set_option maxRecDepth 100000 in
set_option maxHeartbeats 1000000 in
/-- until, where the text does not stand from here on. -/
theorem rd_until_no (M : Nat → Prop) (b : Nat) (s : ByteArray) (i : Nat) (wd : ByteArray) (w : World) (h : RdM M w b s i false) (hwd : wd.size ≤ 1000) (hno : ∀ k, i ≤ k → k < s.size → hasB s k wd = false) :
    Calls Tryz.prog 102 #[.pointer (some ⟨b, 0, none⟩), .string wd] w fun e w' => e = .returned (.string ⟨#[]⟩) ∧ RdM M w' b s s.size true ∧ Fr (fun k => k = b) w w' := by
  have c1 := h.c1
  have hs := h.2.2.1
  have hi := h.2.2.2.1
  have HH := Lib.hid h
  have HN := Lib.hid hno
  clear h hno
  go_enter Tryz.func102, Tryz.ntmps102
  go_wp2_with fail
  clear c1
  go_loopg [] (s.size - i) (fun g wr => ∃ k : Nat, g = s.size - k ∧ i ≤ k ∧ RdM M wr b s k false ∧ Fr (fun k => k = b) w wr)
  case atStart => exact ⟨i, rfl, Nat.le_refl _, HH.out, Fr.refl _ _⟩
  case round =>
    obtain ⟨k, hg, hik, hr, hf⟩ := hrel
    have c0 := hr.c0
    have c1 := hr.c1
    have c2 := hr.c2
    have hk := hr.2.2.2.1
    have HR := Lib.hid hr
    have HF := Lib.hid hf
    have HG := Lib.hid hg
    clear hr hf hg HH
    have q1 : IntKind.i64.wrap ((k : Int) + 1) = (k : Int) + 1 := by rw [IntKind.wrap_i64]; omega
    by_cases hks : k < s.size
    · go_wp2_with fail
      go_quiet (fail)
      go_wp2_with fail
      refine (rd_has_no M b s k false wd _ (show RdM M (wr.drewN _) b s k false from HR.out) hwd (HN.out k hik hks)).mono ?_
      rintro e w2 ⟨rfl, n2, rfl⟩
      have c1 : ∀ n, (wr.drewN n).cell? ⟨b, 1, none⟩ = some (.int .i64 k) := fun n => HR.out.c1
      have fz : ∀ n i, (wr.drewN n).frozen? ⟨b, i, none⟩ = false := fun n i => HR.out.2.2.2.2.frozen i
      go_wp2_with fail
      go_roundg (s.size - (k + 1))
      case rel => exact ⟨k + 1, rfl, by omega, by simpa using RdM.at' (w := wr.drewN _) (M := M) (b := b) (s := s) (i := k) (bad := false) HR.out (k + 1) (by omega), Fr.setCell (M := fun k => k = b) (HF.out.drewN _) (show b = b from rfl) _⟩
      case measure => have := HG.out; omega
    · obtain rfl : k = s.size := by omega
      have fz : ∀ n i, (wr.drewN n).frozen? ⟨b, i, none⟩ = false := fun n i => HR.out.2.2.2.2.frozen i
      go_wp2_with fail
      go_quiet (fail)
      go_wp2_with fail
      go_ret
      exact ⟨rfl, RdM.bad' (w := wr.drewN _) (M := M) (b := b) (s := s) (i := s.size) (bad := false) HR.out true, Fr.setCell (M := fun k => k = b) (HF.out.drewN _) (show b = b from rfl) _⟩

set_option maxRecDepth 100000 in
set_option maxHeartbeats 1000000 in
/-- until, of a reader that has met something bad. -/
theorem rd_until_bad (M : Nat → Prop) (b : Nat) (s : ByteArray) (i : Nat) (wd : ByteArray) (w : World) (h : RdM M w b s i true) :
    Calls Tryz.prog 102 #[.pointer (some ⟨b, 0, none⟩), .string wd] w fun e w' => e = .returned (.string ⟨#[]⟩) ∧ RdM M w' b s i true ∧ Fr (fun k => k = b) w w' := by
  have c0 := h.c0
  have c1 := h.c1
  have c2 := h.c2
  have hs := h.2.2.1
  have hi := h.2.2.2.1
  have fz := h.2.2.2.2.frozen
  have HH := Lib.hid h
  clear h
  go_enter Tryz.func102, Tryz.ntmps102
  go_wp2_with fail
  refine wp_loop_once ?_
  by_cases hks : i < s.size
  all_goals
    go_wp2_with fail
    go_quiet (fail)
    go_wp2_with fail
    go_ret
    exact ⟨rfl, RdM.bad' (w := w.drewN _) (M := M) (b := b) (s := s) (i := i) (bad := true) HH.out true, Fr.setCell (M := fun k => k = b) ((Fr.refl _ _).drewN _) (show b = b from rfl) _⟩

end Go.Proofs.YtlljphipglgjiaaGreatDoor
