/-
  Towards spec.xReader.element: text when it is bad already; the state of an element's reading.
  The state of an element's reading, whole: the reader, the element's blocks, its attributes, its kids.
  Attributes, step by step (plain), and where a run of bytes ends.
  An element's kids, step by step (plain).
-/
import Derived.Test.YtlljphipglgjiaaGreatDoorXmTxt
import Derived.Test.YtlljphipglgjiaaGreatDoorXmTree
namespace Go.Proofs.YtlljphipglgjiaaGreatDoor
open Go.RowKit Go.Lib
set_option linter.unusedSimpArgs false

set_option maxRecDepth 100000 in
set_option maxHeartbeats 4000000 in
theorem text_bad (M : Nat → Prop) (b : Nat) (s : ByteArray) (i : Nat) (a c : UInt8) (w : World) (hR : RdM M w b s i true) :
    Calls Tryz.prog 104 #[.pointer (some ⟨b, 0, none⟩), .int .u8 a.toNat, .int .u8 c.toNat] w fun e w' => e = .returned (.string ⟨#[]⟩) ∧ ∃ n, w.drewN n = w' := by
  have c0 := hR.c0
  have c1 := hR.c1
  have c2 := hR.c2
  have hss := hR.2.2.1
  have hi := hR.2.2.2.1
  clear hR
  have HEA : ∀ (h : i < s.size) (x : UInt8), s[i] = x → ((s[i].toNat : Int) != (x.toNat : Int)) = false := fun hh x h => by rw [h]; exact bne_self_eq_false _
  have HNA : ∀ (h : i < s.size) (x : UInt8), s[i] ≠ x → ((s[i].toNat : Int) != (x.toNat : Int)) = true := fun hh x h => by
    rw [bne_iff_ne]
    intro e
    exact h (UInt8.toNat_inj.1 (by omega))
  by_cases his : i < s.size
  · by_cases hka : s[i] = a
    · have e1 := HEA his a hka
      clear hka HEA HNA
      go_enter Tryz.func104, Tryz.ntmps104
      go_wp2_with fail
      refine wp_loop_once ?_
      go_wp2_with fail
      go_quiet (fail)
      go_wp2_with fail
      go_ret
      exact ⟨rfl, _, rfl⟩
    by_cases hkc : s[i] = c
    · have e1 := HNA his a hka
      have e2 := HEA his c hkc
      clear hka hkc HEA HNA
      go_enter Tryz.func104, Tryz.ntmps104
      go_wp2_with fail
      refine wp_loop_once ?_
      go_wp2_with fail
      go_quiet (fail)
      go_wp2_with fail
      go_ret
      exact ⟨rfl, _, rfl⟩
    have e1 := HNA his a hka
    have e2 := HNA his c hkc
    clear hka hkc HEA HNA
    go_enter Tryz.func104, Tryz.ntmps104
    go_wp2_with fail
    refine wp_loop_once ?_
    go_wp2_with fail
    go_quiet (fail)
    go_wp2_with fail
    go_ret
    exact ⟨rfl, _, rfl⟩
  · clear HEA HNA
    have d1 : decide ((i : Int) < (s.size : Int)) = false := by simp; omega
    go_enter Tryz.func104, Tryz.ntmps104
    go_wp2_with fail
    refine wp_loop_once ?_
    go_wp2_with fail
    go_quiet (fail)
    go_wp2_with fail
    go_ret
    exact ⟨rfl, _, rfl⟩

/-- text, bad already or not. -/
theorem text_total (M : Nat → Prop) (b : Nat) (s : ByteArray) (i : Nat) (bad : Bool) (a c : UInt8) (w : World) (hR : RdM M w b s i bad) (hE : Errs M w) (F : Nat) (hF : s.size < F + i) :
    Calls Tryz.prog 104 #[.pointer (some ⟨b, 0, none⟩), .int .u8 a.toNat, .int .u8 c.toNat] w (StrPost M b s i w (if bad then none else txtF a c F (s.data.toList.drop i))) := by
  cases bad with
  | false => simpa using text_any M b s i false a c w hR hE F hF rfl
  | true =>
    refine (text_bad M b s i a c w hR).mono ?_
    rintro e w' ⟨rfl, n, rfl⟩
    exact ⟨[], i, true, rfl, hR.drewN n, (Fr.refl _ _).drewN n, Nat.le_refl _, by simp, rfl⟩

theorem has_any (M : Nat → Prop) (b : Nat) (s : ByteArray) (i : Nat) (bad : Bool) (wd : ByteArray) (w : World) (h : RdM M w b s i bad) (hwd : wd.size ≤ 1000) (r : Bool) (hr : hasB s i wd = r) :
    Calls Tryz.prog 52 #[.pointer (some ⟨b, 0, none⟩), .string wd] w fun e w' => e = .returned (.bool r) ∧ RdM M w' b s (if r then i + wd.size else i) bad ∧ Fr (fun k => k = b) w w' := by
  cases r with
  | true => exact rd_has_yes M b s i bad wd w h hwd hr
  | false =>
    refine (rd_has_no M b s i bad wd w h hwd hr).mono ?_
    rintro e w' ⟨rfl, n, rfl⟩
    exact ⟨rfl, h.drewN n, (Fr.refl _ _).drewN n⟩

section
variable {M : Nat → Prop} {w w' wr : World} {b k a : Nat} {s : ByteArray} {bd : Bool}
theorem RdM.lt (h : RdM M w b s k bd) : b < w.heap.size := h.2.2.2.2.lt
theorem RdM.out (h : RdM M wr b s k bd) (hb : b < a) : RdM (Out M a wr.heap.size) wr b s k bd :=
  ⟨⟨h.1, .inl hb⟩, fun x hx => ⟨h.2.1 x hx, .inr hx⟩, h.2.2.1, h.2.2.2.1, h.2.2.2.2⟩
theorem RdM.back {c : Nat} (h : RdM (Out M a c) w' b s k bd) (hN : New M w') : RdM M w' b s k bd := ⟨h.1.1, hN, h.2.2.1, h.2.2.2.1, h.2.2.2.2⟩
theorem Errs.out {c : Nat} (h : Errs M w) : Errs (Out M a c) w := ⟨h.1, h.2.1, fun x => h.2.2.1 x.1, fun x => h.2.2.2 x.1⟩
theorem Errs.lt (h : Errs M w) : 7 < w.heap.size ∧ 8 < w.heap.size := by
  obtain ⟨⟨t, p, h1⟩, ⟨t2, p2, h2⟩, -⟩ := h
  exact ⟨World.block_lt_of_cell? w _ h1, World.block_lt_of_cell? w _ h2⟩
end

theorem rows_ne {w : World} {base E size n k : Nat} {T : TypeId} {v : Value} {xs : List Value} {cs : Array Value} (h : w.ownsRow base E size v n xs) (hk : Blk w k T cs) (hT : T ≠ E) : v.ownBlock ≠ some k := by
  intro e
  rcases h.2 with ⟨rfl, _⟩ | ⟨g, cap, cur, rfl, _, hg, _⟩
  · cases e
  · cases e
    unfold Blk at hk
    rw [hg] at hk
    injection hk with hk
    injection hk with _ hk
    exact hT hk.symm
theorem row_fr {w w2 : World} {row : Option Nat} (hg : w.grownBy w2 row) : Fr (fun x => w.heap.size ≤ x ∨ row = some x) w w2 :=
  ⟨hg.os, hg.tape, hg.output, hg.size, fun x hx => by
    rcases Nat.lt_or_ge x w.heap.size with h1 | h1
    · exact hg.block x h1 fun e => hx (.inr e.symm)
    · exact absurd (.inl h1) hx⟩
theorem one_fr (w : World) (g q : Nat) (v : Value) : Fr (fun x => x = g) w (w.setCell ⟨g, q, none⟩ v) := Fr.setCell (M := fun x => x = g) (Fr.refl _ _) (p := ⟨g, q, none⟩) rfl v
def elZero : Array Value := #[.string ⟨#[]⟩, .slice none 0 0, .string ⟨#[]⟩, .slice none 0 0]

/-- An element's reading: the reader; the result's block N0 and the element's own N1, behind the world w0. -/
structure ElSt (M : Nat → Prop) (b : Nat) (s : ByteArray) (w0 wr : World) (N0 N1 : Nat) (nm : List UInt8) (av kv : Value) (k : Nat) (bd : Bool) : Prop where
  rd : RdM M wr b s k bd
  fr : Fr M w0 wr
  errs : Errs M wr
  nw : New M w0
  b0 : b < w0.heap.size
  l0 : w0.heap.size ≤ N0
  l1 : N0 < N1
  k0 : Blk wr N0 25 elZero
  k1 : Blk wr N1 25 #[.string (bst nm), av, .string ⟨#[]⟩, kv]

section
variable {M : Nat → Prop} {b : Nat} {s : ByteArray} {w0 wr w' : World} {N0 N1 : Nat} {nm : List UInt8} {av kv : Value} {k k' : Nat} {bd bd' : Bool}
theorem ElSt.stepB (h : ElSt M b s w0 wr N0 N1 nm av kv k bd) (hr : RdM M w' b s k' bd') (hf : Fr (fun x => x = b) wr w') : ElSt M b s w0 w' N0 N1 nm av kv k' bd' := by
  have f : Fr M wr w' := hf.mono fun x hx => by rw [hx]; exact h.rd.1
  exact ⟨hr, h.fr.trans f, h.errs.fr f, h.nw, h.b0, h.l0, h.l1, h.k0.fr hf (by have := h.b0; have := h.l0; omega), h.k1.fr hf (by have := h.b0; have := h.l0; have := h.l1; omega)⟩
theorem ElSt.stepO (h : ElSt M b s w0 wr N0 N1 nm av kv k bd) (hr : RdM (Out M w0.heap.size wr.heap.size) w' b s k' bd') (hf : Fr (Out M w0.heap.size wr.heap.size) wr w') : ElSt M b s w0 w' N0 N1 nm av kv k' bd' := by
  have f : Fr M wr w' := hf.mono fun x hx => hx.1
  have := h.l0
  have := h.l1
  exact ⟨hr.back (h.rd.2.1.fr f), h.fr.trans f, h.errs.fr f, h.nw, h.b0, h.l0, h.l1, h.k0.fr hf (not_Out h.l0 h.k0.lt), h.k1.fr hf (not_Out (by omega) h.k1.lt)⟩
theorem ElSt.drewN (h : ElSt M b s w0 wr N0 N1 nm av kv k bd) (n : Nat) : ElSt M b s w0 (wr.drewN n) N0 N1 nm av kv k bd := ⟨h.rd.drewN n, h.fr.drewN n, h.errs, h.nw, h.b0, h.l0, h.l1, h.k0, h.k1⟩
theorem ElSt.rdO (h : ElSt M b s w0 wr N0 N1 nm av kv k bd) : RdM (Out M w0.heap.size wr.heap.size) wr b s k bd := h.rd.out h.b0
theorem ElSt.below (h : ElSt M b s w0 wr N0 N1 nm av kv k bd) (hb : Below wr.heap.size wr w') : ElSt M b s w0 w' N0 N1 nm av kv k bd := by
  have f : Fr M wr w' := Fr.below hb (Nat.le_refl _) h.rd.2.1
  exact ⟨h.rd.below hb, h.fr.trans f, h.errs.fr f, h.nw, h.b0, h.l0, h.l1, (hb.block _ h.k0.lt).trans h.k0, (hb.block _ h.k1.lt).trans h.k1⟩
end

end Go.Proofs.YtlljphipglgjiaaGreatDoor

namespace Go.Proofs.YtlljphipglgjiaaGreatDoor
open Go.RowKit Go.Lib

/-- Behind the world w0: the reader of s at place k; blocks N0, N1; the attributes and the kids, in rows from w0's size up to top. -/
structure ElS (M : Nat → Prop) (b : Nat) (s : ByteArray) (w0 wr : World) (N0 N1 top : Nat) (nm : List UInt8) (al : List AttrS) (ks : List (XEl × Value × Value)) (av kv : Value) (k : Nat) (bd : Bool) : Prop where
  st : ElSt M b s w0 wr N0 N1 nm av kv k bd
  at' : AttrsT 49 wr av al
  lo : ∀ g, av.ownBlock = some g → w0.heap.size ≤ g ∧ g < top
  kd : KidsM 49 25 wr (fun x => w0.heap.size ≤ x ∧ x < top ∧ x ≠ N0 ∧ x ≠ N1) kv ks
  nt : N1 < top
  ts : top ≤ wr.heap.size

section
variable {M : Nat → Prop} {b : Nat} {s : ByteArray} {w0 wr w' : World} {N0 N1 top : Nat} {nm : List UInt8} {al : List AttrS} {ks : List (XEl × Value × Value)} {av kv : Value} {k k' : Nat} {bd bd' : Bool}
theorem ElS.stepB (h : ElS M b s w0 wr N0 N1 top nm al ks av kv k bd) (hr : RdM M w' b s k' bd') (hf : Fr (fun x => x = b) wr w') : ElS M b s w0 w' N0 N1 top nm al ks av kv k' bd' :=
  ⟨h.st.stepB hr hf, h.at'.fr hf fun g hg e => by have := (h.lo g hg).1; have := h.st.b0; omega, h.lo, h.kd.fr hf fun x hx e => by have := hx.1; have := h.st.b0; omega, h.nt, Nat.le_trans h.ts hf.size⟩
theorem ElS.stepO (h : ElS M b s w0 wr N0 N1 top nm al ks av kv k bd) (hr : RdM (Out M w0.heap.size wr.heap.size) w' b s k' bd') (hf : Fr (Out M w0.heap.size wr.heap.size) wr w') : ElS M b s w0 w' N0 N1 top nm al ks av kv k' bd' :=
  ⟨h.st.stepO hr hf, h.at'.fr hf fun g hg => not_Out (h.lo g hg).1 (Nat.lt_of_lt_of_le (h.lo g hg).2 h.ts), h.lo, h.kd.fr hf fun _ hx => not_Out hx.1 (Nat.lt_of_lt_of_le hx.2.1 h.ts), h.nt, Nat.le_trans h.ts hf.size⟩
theorem ElS.below (h : ElS M b s w0 wr N0 N1 top nm al ks av kv k bd) (hb : Below wr.heap.size wr w') : ElS M b s w0 w' N0 N1 top nm al ks av kv k bd :=
  have f : Fr (fun x => wr.heap.size ≤ x) wr w' := Fr.below hb (Nat.le_refl _) fun _ hx => hx
  ⟨h.st.below hb, h.at'.fr f fun g hg e => by have := (h.lo g hg).2; have := h.ts; omega, h.lo, h.kd.fr f fun x hx e => by have := hx.2.1; have := h.ts; omega, h.nt, Nat.le_trans h.ts hb.size⟩
theorem ElS.drewN (h : ElS M b s w0 wr N0 N1 top nm al ks av kv k bd) (n : Nat) : ElS M b s w0 (wr.drewN n) N0 N1 top nm al ks av kv k bd :=
  h.below ⟨rfl, rfl, rfl, Nat.le_refl _, fun _ _ => rfl⟩
theorem ElS.alloc (h : ElS M b s w0 wr N0 N1 top nm al ks av kv k bd) (o : Obj) : ElS M b s w0 (wr.alloc o) N0 N1 top nm al ks av kv k bd := h.below ((Below.refl _ _).alloc (Nat.le_refl _) _)
theorem ElS.newM (h : ElS M b s w0 wr N0 N1 top nm al ks av kv k bd) (x : Nat) (hx : wr.heap.size ≤ x) : M x := h.st.rd.2.1 x hx
/-- A store into a block that came behind all that is looked at. -/
theorem ElS.setOther (h : ElS M b s w0 wr N0 N1 top nm al ks av kv k bd) {q : Nat} (hq : top ≤ q) (hM : M q) (o : Nat) (v : Value) : ElS M b s w0 (wr.setCell ⟨q, o, none⟩ v) N0 N1 top nm al ks av kv k bd := by
  have f : Fr (fun x => x = q) wr (wr.setCell ⟨q, o, none⟩ v) := Fr.setCell (M := fun x => x = q) (Fr.refl _ _) (p := ⟨q, o, none⟩) rfl v
  have fM : Fr M wr (wr.setCell ⟨q, o, none⟩ v) := f.mono fun x hx => by rw [hx]; exact hM
  have h1 := h.st.b0
  have h2 := h.st.l0
  have h3 := h.st.l1
  have h4 := h.nt
  refine ⟨⟨⟨h.st.rd.1, h.st.rd.2.1.fr f, h.st.rd.2.2.1, h.st.rd.2.2.2.1, h.st.rd.2.2.2.2.fr f (by omega)⟩, h.st.fr.trans fM, h.st.errs.fr fM, h.st.nw, h1, h2, h3, h.st.k0.fr f (by omega), h.st.k1.fr f (by omega)⟩, h.at'.fr f fun g hg e => by have := (h.lo g hg).2; omega, h.lo,
    h.kd.fr f fun x hx e => by have := hx.2.1; omega, h.nt, by simpa [World.setCell] using h.ts⟩
/-- The reader is bad. -/
theorem ElS.bad (h : ElS M b s w0 wr N0 N1 top nm al ks av kv k bd) (q : Bool) : ElS M b s w0 (wr.setCell ⟨b, 2, none⟩ (.bool q)) N0 N1 top nm al ks av kv k q :=
  h.stepB (h.st.rd.bad' q) (Fr.setCell (M := fun x => x = b) (Fr.refl _ _) (p := ⟨b, 2, none⟩) rfl _)
theorem ElS.atTop (h : ElS M b s w0 wr N0 N1 top nm al ks av kv k bd) : ElS M b s w0 wr N0 N1 wr.heap.size nm al ks av kv k bd :=
  ⟨h.st, h.at', fun g hg => ⟨(h.lo g hg).1, Nat.lt_of_lt_of_le (h.lo g hg).2 h.ts⟩, h.kd.mono fun _ hx => ⟨hx.1, Nat.lt_of_lt_of_le hx.2.1 h.ts, hx.2.2⟩, Nat.lt_of_lt_of_le h.nt h.ts, Nat.le_refl _⟩
theorem ElS.rowM (h : ElS M b s w0 wr N0 N1 top nm al ks av kv k bd) {row : Value} (hr : ∀ x, row.ownBlock = some x → w0.heap.size ≤ x) {w2 : World} (hg : wr.grownBy w2 row.ownBlock) : Fr M wr w2 :=
  (row_fr hg).mono fun x hx => by
    rcases hx with hx | hx
    · exact h.newM x hx
    · exact h.st.nw x (hr x hx)
theorem rowAt_lo {w0s : Nat} {w : World} {v v2 : Value} (hat : RowAt w v v2) (h0 : w0s ≤ w.heap.size) (hv : ∀ x, v.ownBlock = some x → w0s ≤ x) : ∀ x, v2.ownBlock = some x → w0s ≤ x := fun x hx => by
  rcases hat with e | ⟨g, e, hlt⟩
  · exact hv x (e ▸ hx)
  · rw [hx] at e
    injection e with e
    subst e
    omega
/-- An attribute more: its row was grown, then stored. -/
theorem ElS.attr {w2 : World} {av2 : Value} {a : AttrS} (h : ElS M b s w0 wr N0 N1 top nm al [] av (.slice none 0 0) k bd) (hown : w2.ownsRow 0 49 3 av2 (al.length + 1) (al.flatMap AttrS.cells ++ a.cells)) (hg : wr.grownBy w2 av.ownBlock) (hat : RowAt wr av av2) :
    ElS M b s w0 (w2.setCell ⟨N1, 1, none⟩ av2) N0 N1 w2.heap.size nm (al ++ [a]) [] av2 (.slice none 0 0) k bd := by
  have h1 := h.st.b0
  have h2 := h.st.l0
  have h3 := h.st.l1
  have h4 := h.nt
  have h5 := h.ts
  have hlo := rowAt_lo hat h.st.fr.size fun x hx => (h.lo x hx).1
  have n0 := rows_ne h.at' h.st.k0 (by decide)
  have n1 := rows_ne h.at' h.st.k1 (by decide)
  have f := row_fr hg
  have fM := h.rowM (fun x hx => (h.lo x hx).1) hg
  have f1 := one_fr w2 N1 1 av2
  have fM1 : Fr M w2 (w2.setCell ⟨N1, 1, none⟩ av2) := f1.mono fun x hx => by rw [hx]; exact h.st.nw _ (by omega)
  have hb : ¬ (wr.heap.size ≤ b ∨ av.ownBlock = some b) := fun e => by
    rcases e with e | e
    · omega
    · have := (h.lo b e).1; omega
  have k1 : Blk w2 N1 25 #[.string (bst nm), av, .string ⟨#[]⟩, .slice none 0 0] := h.st.k1.fr f fun e => by
    rcases e with e | e
    · omega
    · exact n1 e
  have k0 : Blk w2 N0 25 elZero := h.st.k0.fr f fun e => by
    rcases e with e | e
    · omega
    · exact n0 e
  have hown' : w2.ownsRow 0 49 3 av2 (al ++ [a]).length ((al ++ [a]).flatMap AttrS.cells) := by simpa using hown
  refine ⟨⟨⟨h.st.rd.1, (h.st.rd.2.1.fr f).fr f1, h.st.rd.2.2.1, h.st.rd.2.2.2.1, (h.st.rd.2.2.2.2.fr f hb).fr f1 (by omega)⟩, (h.st.fr.trans fM).trans fM1, (h.st.errs.fr fM).fr fM1, h.st.nw, h1, h2, h3, k0.fr f1 (by omega), (k1.set 1 av2).eq rfl⟩,
    AttrsT.fr hown' f1 fun g hg e => ?_, fun g hg => ⟨hlo g hg, (hown.lt g hg).2⟩, ?_, by have := hg.size; omega, by simp [World.setCell]⟩
  · subst e
    exact rows_ne hown k1 (by decide) hg
  · exact KidsM.nil _
/-- A kid more: its row was grown, then stored. -/
theorem ElS.kid {w2 : World} {kv2 : Value} {p : XEl × Value × Value} (h : ElS M b s w0 wr N0 N1 top nm al ks av kv k bd) (hp : ElM 49 25 wr (fun x => (w0.heap.size ≤ x ∧ x < wr.heap.size ∧ x ≠ N0 ∧ x ≠ N1) ∧ kv.ownBlock ≠ some x) p.2.1 p.2.2 p.1)
    (hown : w2.ownsRow 0 25 4 kv2 (ks.length + 1) (ks.flatMap kidCells ++ kidCells p)) (hg : wr.grownBy w2 kv.ownBlock) (hat : RowAt wr kv kv2) (hne : ∀ x, kv.ownBlock = some x → x ≠ N0 ∧ x ≠ N1) :
    ElS M b s w0 (w2.setCell ⟨N1, 3, none⟩ kv2) N0 N1 w2.heap.size nm al (ks ++ [p]) av kv2 k bd := by
  have h1 := h.st.b0
  have h2 := h.st.l0
  have h3 := h.st.l1
  have h4 := h.nt
  have h5 := h.ts
  have f := row_fr hg
  have hlo1 : ∀ x, kv.ownBlock = some x → w0.heap.size ≤ x := fun x hx => (h.kd.2.1 x hx).1
  have fM := h.rowM hlo1 hg
  have f1 := one_fr w2 N1 3 kv2
  have fM1 : Fr M w2 (w2.setCell ⟨N1, 3, none⟩ kv2) := f1.mono fun x hx => by rw [hx]; exact h.st.nw _ (by omega)
  have hb : ¬ (wr.heap.size ≤ b ∨ kv.ownBlock = some b) := fun e => by
    rcases e with e | e
    · omega
    · have := hlo1 b e; omega
  have k1 : Blk w2 N1 25 #[.string (bst nm), av, .string ⟨#[]⟩, kv] := h.st.k1.fr f fun e => by
    rcases e with e | e
    · omega
    · exact (hne N1 e).2 rfl
  have k0 : Blk w2 N0 25 elZero := h.st.k0.fr f fun e => by
    rcases e with e | e
    · omega
    · exact (hne N0 e).1 rfl
  have ka : AttrsT 49 w2 av al := h.at'.fr f fun g hg e => by
    rcases e with e | e
    · have := (h.lo g hg).2; omega
    · rcases h.at'.cases with ⟨rfl, _⟩ | ⟨g1, cap, cur, rfl, hg1, _⟩
      · cases hg
      · cases hg
        exact rows_ne h.kd.1 (show Blk wr g1 49 cur from hg1) (by decide) e
  have kk := (h.kd.mono (D' := fun x => w0.heap.size ≤ x ∧ x < wr.heap.size ∧ x ≠ N0 ∧ x ≠ N1) fun x hx => ⟨hx.1, by have := hx.2.1; omega, hx.2.2⟩).snoc (D' := fun x => w0.heap.size ≤ x ∧ x < w2.heap.size ∧ x ≠ N0 ∧ x ≠ N1) hp (fun x hx => hx.2.1) hown hg hat
    (fun x hx => ⟨hx.1, by have := hx.2.1; have := hg.size; omega, hx.2.2⟩) (fun x hx1 hx2 => ⟨by have := h.st.fr.size; omega, hx2, by omega, by omega⟩)
  exact ⟨⟨⟨h.st.rd.1, (h.st.rd.2.1.fr f).fr f1, h.st.rd.2.2.1, h.st.rd.2.2.2.1, (h.st.rd.2.2.2.2.fr f hb).fr f1 (by omega)⟩, (h.st.fr.trans fM).trans fM1, (h.st.errs.fr fM).fr fM1, h.st.nw, h1, h2, h3, k0.fr f1 (by omega), (k1.set 3 kv2).eq rfl⟩,
    ka.fr f1 fun g hg e => by subst e; exact rows_ne h.at' h.st.k1 (by decide) hg, fun g hg => ⟨(h.lo g hg).1, by have := (h.lo g hg).2; have := f.size; omega⟩, kk.fr f1 fun x hx e => hx.2.2.2 e, by have := f.size; omega, by simp [World.setCell]⟩
/-- The element as the result: its cells were stored. -/
theorem ElS.ret (h : ElS M b s w0 wr N0 N1 top nm al ks av kv k bd) :
    Blk ((((wr.setCell ⟨N0, 0, none⟩ (.string (bst nm))).setCell ⟨N0, 1, none⟩ av).setCell ⟨N0, 2, none⟩ (.string ⟨#[]⟩)).setCell ⟨N0, 3, none⟩ kv) N0 25 #[.string (bst nm), av, .string ⟨#[]⟩, kv] ∧
    ElM 49 25 ((((wr.setCell ⟨N0, 0, none⟩ (.string (bst nm))).setCell ⟨N0, 1, none⟩ av).setCell ⟨N0, 2, none⟩ (.string ⟨#[]⟩)).setCell ⟨N0, 3, none⟩ kv)
      (fun x => w0.heap.size ≤ x ∧ x < ((((wr.setCell ⟨N0, 0, none⟩ (.string (bst nm))).setCell ⟨N0, 1, none⟩ av).setCell ⟨N0, 2, none⟩ (.string ⟨#[]⟩)).setCell ⟨N0, 3, none⟩ kv).heap.size) av kv (.mk nm al [] (ks.map (·.1))) ∧
    RdM M ((((wr.setCell ⟨N0, 0, none⟩ (.string (bst nm))).setCell ⟨N0, 1, none⟩ av).setCell ⟨N0, 2, none⟩ (.string ⟨#[]⟩)).setCell ⟨N0, 3, none⟩ kv) b s k bd ∧
    Fr M w0 ((((wr.setCell ⟨N0, 0, none⟩ (.string (bst nm))).setCell ⟨N0, 1, none⟩ av).setCell ⟨N0, 2, none⟩ (.string ⟨#[]⟩)).setCell ⟨N0, 3, none⟩ kv) := by
  have h1 := h.st.b0
  have h2 := h.st.l0
  obtain ⟨V, hV⟩ : ∃ V, ((((wr.setCell ⟨N0, 0, none⟩ (.string (bst nm))).setCell ⟨N0, 1, none⟩ av).setCell ⟨N0, 2, none⟩ (.string ⟨#[]⟩)).setCell ⟨N0, 3, none⟩ kv) = V := ⟨_, rfl⟩
  have f : Fr (fun x => x = N0) wr V := by
    rw [← hV]
    exact (((one_fr _ _ 0 _).trans (one_fr _ _ 1 _)).trans (one_fr _ _ 2 _)).trans (one_fr _ _ 3 _)
  have fM : Fr M wr V := f.mono fun x hx => by rw [hx]; exact h.st.nw _ h2
  have hb : Blk V N0 25 #[.string (bst nm), av, .string ⟨#[]⟩, kv] := by
    rw [← hV]
    exact ((((h.st.k0.set 0 _).set 1 _).set 2 _).set 3 _).eq rfl
  have ha : AttrsT 49 V av al := h.at'.fr f fun g hg e => by subst e; exact rows_ne h.at' h.st.k0 (by decide) hg
  have hk := h.kd.fr f fun x hx e => hx.2.2.1 e
  rw [hV]
  refine ⟨hb, ?_, ⟨h.st.rd.1, h.st.rd.2.1.fr f, h.st.rd.2.2.1, h.st.rd.2.2.2.1, h.st.rd.2.2.2.2.fr f (by omega)⟩, h.st.fr.trans fM⟩
  have hs := f.size
  have hts := h.ts
  exact .mk _ nm [] al ks av kv ha (fun g hg => ⟨(h.lo g hg).1, by have := (h.lo g hg).2; omega⟩) hk.1 (fun g hg => ⟨(hk.2.1 g hg).1, by have := (hk.2.1 g hg).2.1; omega⟩)
    fun k hk2 => (hk.2.2 k hk2).mono fun x hx => ⟨⟨hx.1.1, by have := hx.1.2.1; omega⟩, hx.2⟩
end

end Go.Proofs.YtlljphipglgjiaaGreatDoor

namespace Go.Proofs.YtlljphipglgjiaaGreatDoor
open Go.RowKit Go.Lib

def kidsAt : Nat → List UInt8 → List UInt8 → Option (List XEl × List UInt8)
  | 0, _, _ => none
  | d + 1, nm, r => kidsF (elemL d) nm (r.length + 1) r
theorem elemL_eq (d : Nat) (l : List UInt8) : elemL d l = elemC (kidsAt d) l := by cases d <;> rfl

theorem drop_takeWhile (p : UInt8 → Bool) : ∀ l : List UInt8, l.drop (l.takeWhile p).length = l.dropWhile p
  | [] => rfl
  | c :: t => by
    cases h : p c with
    | true => simp [h, drop_takeWhile p t]
    | false => simp [h]
theorem drop_run (p : UInt8 → Bool) (s : ByteArray) (i : Nat) : s.data.toList.drop (runEnd p s i) = (s.data.toList.drop i).dropWhile p := by
  unfold runEnd
  rw [← List.drop_drop, drop_takeWhile]
theorem sub_run (p : UInt8 → Bool) (s : ByteArray) (i : Nat) : sub s i (runEnd p s i) = (s.data.toList.drop i).takeWhile p := by
  unfold sub runEnd
  rw [Nat.add_sub_cancel_left]
  exact List.prefix_iff_eq_take.1 (List.takeWhile_prefix p) |>.symm

theorem attrF_end (g : Nat) (l : List UInt8) (h : isPre [47, 62] (l.dropWhile blankB) = true) : attrF (g + 1) l = some ([], true, (l.dropWhile blankB).drop 2) := by rw [attrF, if_pos h]
theorem attrF_open (g : Nat) (l : List UInt8) (h1 : isPre [47, 62] (l.dropWhile blankB) = false) (h2 : isPre [62] (l.dropWhile blankB) = true) : attrF (g + 1) l = some ([], false, (l.dropWhile blankB).drop 1) := by
  rw [attrF, if_neg (by rw [h1]; exact Bool.false_ne_true), if_pos h2]
theorem attrF_bad (g : Nat) (l : List UInt8) (h1 : isPre [47, 62] (l.dropWhile blankB) = false) (h2 : isPre [62] (l.dropWhile blankB) = false) (h3 : goodName ((l.dropWhile blankB).takeWhile nameC) = false ∨ (l.dropWhile blankB).length = l.length) : attrF (g + 1) l = none := by
  rw [attrF, if_neg (by rw [h1]; exact Bool.false_ne_true), if_neg (by rw [h2]; exact Bool.false_ne_true), if_pos]
  rcases h3 with h | h <;> simp [h]
theorem attrF_noeq (g : Nat) (l : List UInt8) (h1 : isPre [47, 62] (l.dropWhile blankB) = false) (h2 : isPre [62] (l.dropWhile blankB) = false) (h3 : isPre [61] ((l.dropWhile blankB).dropWhile nameC) = false) : attrF (g + 1) l = none := by
  rw [attrF, if_neg (by rw [h1]; exact Bool.false_ne_true), if_neg (by rw [h2]; exact Bool.false_ne_true)]
  split
  · rfl
  · split
    · rename_i heq
      rw [heq] at h3
      simp [isPre] at h3
    · rfl
theorem attrF_noq (g : Nat) (l : List UInt8) (h1 : isPre [47, 62] (l.dropWhile blankB) = false) (h2 : isPre [62] (l.dropWhile blankB) = false) (h4 : isPre [34] (((l.dropWhile blankB).dropWhile nameC).drop 1) = false) (h5 : isPre [39] (((l.dropWhile blankB).dropWhile nameC).drop 1) = false) : attrF (g + 1) l = none := by
  rw [attrF, if_neg (by rw [h1]; exact Bool.false_ne_true), if_neg (by rw [h2]; exact Bool.false_ne_true)]
  split
  · rfl
  · split
    · rename_i q r heq
      rw [heq] at h4 h5
      rw [if_neg]
      rintro (rfl | rfl)
      · simp [isPre] at h4
      · simp [isPre] at h5
    · rfl
theorem attrF_val (g : Nat) (l r : List UInt8) (q : UInt8) (hq : q = 34 ∨ q = 39) (h1 : isPre [47, 62] (l.dropWhile blankB) = false) (h2 : isPre [62] (l.dropWhile blankB) = false) (h3 : goodName ((l.dropWhile blankB).takeWhile nameC) = true) (h4 : (l.dropWhile blankB).length ≠ l.length)
    (h5 : (l.dropWhile blankB).dropWhile nameC = 61 :: q :: r) : attrF (g + 1) l = match txtF q q (r.length + 1) r with
      | some (v, _ :: r2) => (attrF g r2).map (fun p => (⟨bst (halvesL ((l.dropWhile blankB).takeWhile nameC)).1, bst (halvesL ((l.dropWhile blankB).takeWhile nameC)).2, bst v⟩ :: p.1, p.2))
      | _ => none := by
  rw [attrF, if_neg (by rw [h1]; exact Bool.false_ne_true), if_neg (by rw [h2]; exact Bool.false_ne_true), if_neg (by simp [h3, h4]), h5]
  simp only [if_pos hq]
  rfl

theorem txtF_stop (a : UInt8) : ∀ (f : Nat) (l : List UInt8) (v r : List UInt8), txtF a a f l = some (v, r) → r = [] ∨ ∃ t, r = a :: t
  | 0, _, _, _, h => by simp [txtF] at h
  | f + 1, [], v, r, h => by
    simp only [txtF, Option.some.injEq, Prod.mk.injEq] at h
    exact .inl h.2.symm
  | f + 1, c :: t, v, r, h => by
    simp only [txtF] at h
    split at h
    · rename_i hc
      simp only [Option.some.injEq, Prod.mk.injEq] at h
      right
      rcases hc with rfl | rfl <;> exact ⟨t, h.2.symm⟩
    · split at h
      · split at h
        · cases h
        · rename_i p _
          cases hx : txtF a a f p.2 with
          | none => rw [hx] at h; cases h
          | some y =>
            rw [hx] at h
            simp only [Option.map_some, Option.some.injEq, Prod.mk.injEq] at h
            obtain ⟨-, rfl⟩ := h
            exact txtF_stop a f _ y.1 y.2 hx
      · split at h
        · cases h
        · cases hx : txtF a a f ((c :: t).drop (decodeL (c :: t)).2) with
          | none => rw [hx] at h; cases h
          | some y =>
            rw [hx] at h
            simp only [Option.map_some, Option.some.injEq, Prod.mk.injEq] at h
            obtain ⟨-, rfl⟩ := h
            exact txtF_stop a f _ y.1 y.2 hx

/-- What an element's attributes come to. -/
def atOf (bad : Bool) (l : List UInt8) : Option (List AttrS × Bool × List UInt8) := if bad = true ∨ goodName (l.takeWhile nameC) = false then none else attrF (l.length + 1) (l.dropWhile nameC)
def resOf (d : Nat) (nm : List UInt8) : Option (List AttrS × Bool × List UInt8) → Option (XEl × List UInt8)
  | none => none
  | some (av, true, r) => some (.mk nm av [] [], r)
  | some (av, false, r) => (kidsAt d nm r).map fun p => (.mk nm av [] p.1, p.2)
theorem res_eq (d : Nat) (bad : Bool) (l : List UInt8) : (if bad then none else elemL d l) = resOf d (l.takeWhile nameC) (atOf bad l) := by
  cases bad with
  | true => rfl
  | false =>
    rw [elemL_eq]
    unfold elemC atOf
    cases hg : goodName (l.takeWhile nameC) with
    | false => simp [resOf]
    | true =>
      simp only [Bool.false_eq_true, if_false, Bool.not_true, Bool.true_eq_false, or_self]
      cases attrF (l.length + 1) (l.dropWhile nameC) with
      | none => rfl
      | some x =>
        obtain ⟨av, em, r⟩ := x
        cases em <;> rfl
/-- Where the attributes' reading stands: behind al, at place k. -/
def AtR (s : ByteArray) (AT : Option (List AttrS × Bool × List UInt8)) (al : List AttrS) (k : Nat) (bd : Bool) : Prop :=
  (bd = false → ∃ f, (s.data.toList.drop k).length < f ∧ AT = (attrF f (s.data.toList.drop k)).map fun p => (al ++ p.1, p.2)) ∧ (bd = true → AT = none)
theorem AtR.start (s : ByteArray) (i : Nat) (bad : Bool) : AtR s (atOf bad (s.data.toList.drop i)) [] (runEnd nameC s i) (bad || !goodName (sub s i (runEnd nameC s i))) := by
  rw [sub_run]
  unfold atOf
  cases bad with
  | true => exact ⟨fun h => by simp at h, fun _ => by simp⟩
  | false =>
    cases hg : goodName ((s.data.toList.drop i).takeWhile nameC) with
    | false => exact ⟨fun h => by simp at h, fun _ => by simp⟩
    | true =>
      refine ⟨fun _ => ⟨(s.data.toList.drop i).length + 1, ?_, ?_⟩, fun h => by simp at h⟩
      · rw [drop_run]
        have : ((s.data.toList.drop i).dropWhile nameC).length ≤ (s.data.toList.drop i).length := (List.dropWhile_suffix nameC).length_le
        omega
      · rw [drop_run]
        simp only [Bool.false_eq_true, Bool.true_eq_false, or_self, if_false]
        cases attrF ((s.data.toList.drop i).length + 1) ((s.data.toList.drop i).dropWhile nameC) <;> simp

theorem good_ne {na : List UInt8} (h : goodName na = true) : na ≠ [] := by
  rintro rfl
  exact absurd h (by decide)
/-- A good name's last byte is no '='. -/
theorem last_name {s : ByteArray} {k p : Nat} {na : List UInt8} (hna : (s.data.toList.drop k).takeWhile nameC = na) (hp : p = k + na.length) (hg : goodName na = true) (hp1 : p - 1 < s.size) (h61 : s[p - 1] = 61) : False := by
  have hne := good_ne hg
  have hl : 0 < na.length := List.length_pos_iff.2 hne
  obtain ⟨m, hm⟩ : ∃ m, na.length = m + 1 := ⟨na.length - 1, by omega⟩
  have hpre : na <+: s.data.toList.drop k := by rw [← hna]; exact List.takeWhile_prefix _
  obtain ⟨t, ht⟩ := hpre
  have hpk : p - 1 = k + m := by omega
  have hlt : k + m < s.size := by omega
  have h1 := get_of_drop ht.symm (k := m) (by rw [List.length_append]; omega) hlt
  rw [List.getElem_append_left (by omega)] at h1
  have h2 : nameC na[m] = true := by
    have := List.all_takeWhile (p := nameC) (l := s.data.toList.drop k)
    rw [hna, List.all_eq_true] at this
    exact this _ (List.getElem_mem _)
  have h3 : s[p - 1] = s[k + m] := by simp only [hpk]
  rw [← h1, ← h3, h61] at h2
  exact absurd h2 (by decide)

def valOf (q : UInt8) (g0 : Nat) (l : List UInt8) (n1 n2 : ByteArray) : Option (List AttrS × Bool × List UInt8) :=
  match txtF q q (l.length + 1) l with
  | some (v, _ :: r2) => (attrF g0 r2).map fun p => (⟨n1, n2, bst v⟩ :: p.1, p.2)
  | _ => none
theorem attrF_valOf (g : Nat) (l r : List UInt8) (q : UInt8) (hq : q = 34 ∨ q = 39) (h1 : isPre [47, 62] (l.dropWhile blankB) = false) (h2 : isPre [62] (l.dropWhile blankB) = false) (h3 : goodName ((l.dropWhile blankB).takeWhile nameC) = true) (h4 : (l.dropWhile blankB).length ≠ l.length)
    (h5 : (l.dropWhile blankB).dropWhile nameC = 61 :: q :: r) : attrF (g + 1) l = valOf q g r (bst (halvesL ((l.dropWhile blankB).takeWhile nameC)).1) (bst (halvesL ((l.dropWhile blankB).takeWhile nameC)).2) := by
  rw [attrF_val g l r q hq h1 h2 h3 h4 h5]
  unfold valOf
  cases txtF q q (r.length + 1) r with
  | none => rfl
  | some y =>
    obtain ⟨v, r2⟩ := y
    cases r2 <;> rfl
/-- What an attribute's value, read up to a quote q from place P on, makes of the whole. -/
structure ValR (s : ByteArray) (AT : Option (List AttrS × Bool × List UInt8)) (al : List AttrS) (q : UInt8) (P g0 : Nat) (n1 n2 : ByteArray) (bd1 : Bool) : Prop where
  hno : bd1 = true → AT = none
  lt : (s.data.toList.drop P).length < g0
  hso : bd1 = false → AT = (valOf q g0 (s.data.toList.drop P) n1 n2).map fun p => (al ++ p.1, p.2)
theorem ValR.yes {s : ByteArray} {AT : Option (List AttrS × Bool × List UInt8)} {al : List AttrS} {q : UInt8} {P g0 j : Nat} {n1 n2 : ByteArray} {bd1 bd2 : Bool} {v : List UInt8} (h : ValR s AT al q P g0 n1 n2 bd1)
    (hm : match (if bd1 then none else txtF q q ((s.data.toList.drop P).length + 1) (s.data.toList.drop P)) with | some p => bd2 = false ∧ v = p.1 ∧ s.data.toList.drop j = p.2 | none => bd2 = true)
    (hd : s.data.toList.drop j = q :: s.data.toList.drop (j + 1)) (hP : P ≤ j) (hj : j + 1 ≤ s.size) : AtR s AT (al ++ [⟨n1, n2, bst v⟩]) (j + 1) bd2 := by
  cases bd1 with
  | true =>
    simp only [if_true] at hm
    subst hm
    exact ⟨(fun h => nomatch h), fun _ => h.hno rfl⟩
  | false =>
    simp only [Bool.false_eq_true, if_false] at hm
    have h1 := h.hso rfl
    unfold valOf at h1
    cases hx : txtF q q ((s.data.toList.drop P).length + 1) (s.data.toList.drop P) with
    | none =>
      rw [hx] at hm h1
      simp only at hm h1
      subst hm
      exact ⟨fun h => (nomatch h), fun _ => h1⟩
    | some y =>
      rw [hx] at hm h1
      obtain ⟨rfl, rfl, h5⟩ := hm
      obtain ⟨v, r⟩ := y
      simp only at h5 h1
      rw [← h5, hd] at h1
      refine ⟨fun _ => ⟨g0, ?_, ?_⟩, fun h => nomatch h⟩
      · have := h.lt
        rw [List.length_drop, list_size] at this ⊢
        omega
      · simp only at h1
        rw [h1]
        cases attrF g0 (s.data.toList.drop (j + 1)) <;> simp
theorem ValR.no {s : ByteArray} {AT : Option (List AttrS × Bool × List UInt8)} {al al2 : List AttrS} {q : UInt8} {P g0 j : Nat} {n1 n2 : ByteArray} {bd1 bd2 : Bool} {v : List UInt8} (h : ValR s AT al q P g0 n1 n2 bd1)
    (hm : match (if bd1 then none else txtF q q ((s.data.toList.drop P).length + 1) (s.data.toList.drop P)) with | some p => bd2 = false ∧ v = p.1 ∧ s.data.toList.drop j = p.2 | none => bd2 = true)
    (hd : ∀ t, s.data.toList.drop j ≠ q :: t) : AtR s AT al2 j true := by
  refine ⟨fun h => (nomatch h), fun _ => ?_⟩
  cases bd1 with
  | true => exact h.hno rfl
  | false =>
    simp only [Bool.false_eq_true, if_false] at hm
    have h1 := h.hso rfl
    unfold valOf at h1
    cases hx : txtF q q ((s.data.toList.drop P).length + 1) (s.data.toList.drop P) with
    | none =>
      rw [hx] at h1
      exact h1
    | some y =>
      rw [hx] at hm h1
      obtain ⟨rfl, rfl, h5⟩ := hm
      obtain ⟨v, r⟩ := y
      rcases txtF_stop q _ _ _ _ hx with h6 | ⟨t, h6⟩
      · simp only at h5 h1
        rw [h6] at h1
        exact h1
      · exact absurd (h5.trans h6) (hd t)

end Go.Proofs.YtlljphipglgjiaaGreatDoor

namespace Go.Proofs.YtlljphipglgjiaaGreatDoor
open Go.RowKit Go.Lib

/-- Where the kids' reading stands: behind ks, at place k. -/
def KidR (s : ByteArray) (d : Nat) (nm : List UInt8) (al : List AttrS) (r0 : Option (XEl × List UInt8)) (ks : List (XEl × Value × Value)) (k : Nat) (bd : Bool) : Prop :=
  (bd = false → (d = 0 ∧ r0 = none) ∨ ∃ d', d = d' + 1 ∧ ∃ f, (s.data.toList.drop k).length < f ∧ r0 = (kidsF (elemL d') nm f (s.data.toList.drop k)).map fun p => (.mk nm al [] (ks.map (·.1) ++ p.1), p.2)) ∧ (bd = true → r0 = none)
theorem KidR.start {s : ByteArray} {d : Nat} {nm : List UInt8} {al : List AttrS} {r0 : Option (XEl × List UInt8)} {k : Nat} {bd : Bool}
    (h1 : bd = false → r0 = (kidsAt d nm (s.data.toList.drop k)).map fun p => (.mk nm al [] p.1, p.2)) (h2 : bd = true → r0 = none) : KidR s d nm al r0 [] k bd := by
  refine ⟨fun h => ?_, h2⟩
  have := h1 h
  cases d with
  | zero => exact .inl ⟨rfl, this⟩
  | succ d' => exact .inr ⟨d', rfl, _, Nat.lt_succ_self _, by simpa [kidsAt] using this⟩

section
variable {el : List UInt8 → Option (XEl × List UInt8)} {nm : List UInt8} {f : Nat} {l : List UInt8}
theorem kidsF_nil : kidsF el nm f [] = none := by cases f <;> simp [kidsF]
theorem kidsF_close (hl : l ≠ []) (h : isPre [60, 47] l = true) : kidsF el nm (f + 1) l =
    if (l.drop 2).takeWhile nameC = nm ∧ goodName ((l.drop 2).takeWhile nameC) = true ∧ isPre [62] (((l.drop 2).dropWhile nameC).dropWhile blankB) = true then some ([], (((l.drop 2).dropWhile nameC).dropWhile blankB).drop 1) else none := by
  rw [kidsF, if_neg hl, if_pos h]
def kidItem (el : List UInt8 → Option (XEl × List UInt8)) (l : List UInt8) : Option (XEl × List UInt8) :=
  if isPre [60, 33, 45, 45] l then (commentL (l.drop 4)).map fun p => (.mk [33] [] p.1 [], p.2)
  else if isPre [60] l then el (l.drop 1)
  else (txtF 60 60 (l.length + 1) l).map fun p => (.mk [] [] p.1 [], p.2)
theorem kidsF_item (hl : l ≠ []) (h : isPre [60, 47] l = false) : kidsF el nm (f + 1) l = match kidItem el l with
    | none => none
    | some p => (kidsF el nm f p.2).map fun q => (p.1 :: q.1, q.2) := by
  rw [kidsF, if_neg hl, if_neg (by rw [h]; exact Bool.false_ne_true)]
  unfold kidItem
  by_cases h1 : isPre [60, 33, 45, 45] l = true
  · rw [if_pos h1, if_pos h1]
    cases commentL (l.drop 4) <;> rfl
  · rw [if_neg h1, if_neg h1]
    by_cases h2 : isPre [60] l = true
    · rw [if_pos h2, if_pos h2]
      cases el (l.drop 1) <;> rfl
    · rw [if_neg h2, if_neg h2]
      cases txtF 60 60 (l.length + 1) l <;> rfl
end

/-- What an item that was read says. -/
def ItemSays (s : ByteArray) (x : Option (XEl × List UInt8)) (el : XEl) (j : Nat) (bd : Bool) : Prop :=
  match x with | some p => bd = false ∧ el = p.1 ∧ s.data.toList.drop j = p.2 | none => bd = true
theorem KidR.step {s : ByteArray} {d' : Nat} {nm : List UInt8} {al : List AttrS} {r0 : Option (XEl × List UInt8)} {ks : List (XEl × Value × Value)} {k j : Nat} {bd : Bool} {e : XEl} {av kv : Value}
    (h : KidR s (d' + 1) nm al r0 ks k false) (hk : k < s.size) (hc : isPre [60, 47] (s.data.toList.drop k) = false) (hi : ItemSays s (kidItem (elemL d') (s.data.toList.drop k)) e j bd) (hj : bd = false → k < j) : KidR s (d' + 1) nm al r0 (ks ++ [(e, av, kv)]) j bd := by
  rcases h.1 rfl with ⟨h0, _⟩ | ⟨d2, hd, f, hf, hr⟩
  · omega
  obtain rfl : d2 = d' := by omega
  obtain ⟨g, rfl⟩ : ∃ g, f = g + 1 := ⟨f - 1, by omega⟩
  have hlen : ∀ x, (s.data.toList.drop x).length = s.size - x := fun x => by rw [List.length_drop, list_size]
  have hne : s.data.toList.drop k ≠ [] := by
    intro e
    have := congrArg List.length e
    rw [hlen] at this
    simp at this
    omega
  rw [kidsF_item hne hc] at hr
  rw [hlen] at hf
  cases hx : kidItem (elemL d2) (s.data.toList.drop k) with
  | none =>
    rw [hx] at hi hr
    obtain rfl : bd = true := hi
    exact ⟨fun h => (nomatch h), fun _ => hr⟩
  | some p =>
    rw [hx] at hi hr
    obtain ⟨rfl, rfl, h3⟩ := hi
    have := hj rfl
    refine ⟨fun _ => .inr ⟨d2, rfl, g, by rw [hlen]; omega, ?_⟩, fun h => nomatch h⟩
    rw [hr, h3]
    simp only
    cases kidsF (elemL d2) nm g p.2 <;> simp

theorem cutL_lt {c : UInt8} {l a r : List UInt8} (h : cutL c l = some (a, r)) : r.length < l.length := by
  unfold cutL at h
  split at h
  · rename_i hm
    simp only [Option.some.injEq, Prod.mk.injEq] at h
    obtain ⟨-, rfl⟩ := h
    rw [List.length_drop]
    have : 0 < l.length := List.length_pos_of_mem hm
    omega
  · cases h
theorem txtF_le (a b : UInt8) : ∀ (f : Nat) (l v r : List UInt8), txtF a b f l = some (v, r) → r.length ≤ l.length
  | 0, _, _, _, h => by simp [txtF] at h
  | f + 1, [], v, r, h => by
    simp only [txtF, Option.some.injEq, Prod.mk.injEq] at h
    rw [← h.2]; exact Nat.le_refl _
  | f + 1, c :: t, v, r, h => by
    simp only [txtF] at h
    split at h
    · simp only [Option.some.injEq, Prod.mk.injEq] at h
      rw [← h.2]; exact Nat.le_refl _
    · split at h
      · split at h
        · cases h
        · rename_i p hp
          cases hx : txtF a b f p.2 with
          | none => rw [hx] at h; cases h
          | some y =>
            rw [hx] at h
            simp only [Option.map_some, Option.some.injEq, Prod.mk.injEq] at h
            obtain ⟨-, rfl⟩ := h
            have h1 := txtF_le a b f _ y.1 y.2 hx
            have h2 : p.2.length < t.length := by
              unfold refL at hp
              split at hp
              · cases hp
              · rename_i q hq
                cases he : entL q.1 with
                | none => rw [he] at hp; cases hp
                | some o =>
                  rw [he] at hp
                  simp only [Option.map_some, Option.some.injEq] at hp
                  rw [← hp]
                  exact cutL_lt (a := q.1) hq
            simp only [List.length_cons]
            omega
      · split at h
        · cases h
        · cases hx : txtF a b f ((c :: t).drop (decodeL (c :: t)).2) with
          | none => rw [hx] at h; cases h
          | some y =>
            rw [hx] at h
            simp only [Option.map_some, Option.some.injEq, Prod.mk.injEq] at h
            obtain ⟨-, rfl⟩ := h
            have h1 := txtF_le a b f _ y.1 y.2 hx
            rw [List.length_drop] at h1
            omega
theorem txtF_lt {a b : UInt8} {f : Nat} {c : UInt8} {t v r : List UInt8} (h : txtF a b f (c :: t) = some (v, r)) (hc : c ≠ a ∧ c ≠ b) : r.length < (c :: t).length := by
  cases f with
  | zero => simp [txtF] at h
  | succ f =>
    simp only [txtF] at h
    rw [if_neg (by rintro (e | e); exact hc.1 e; exact hc.2 e)] at h
    split at h
    · split at h
      · cases h
      · rename_i p hp
        cases hx : txtF a b f p.2 with
        | none => rw [hx] at h; cases h
        | some y =>
          rw [hx] at h
          simp only [Option.map_some, Option.some.injEq, Prod.mk.injEq] at h
          obtain ⟨-, rfl⟩ := h
          have h1 := txtF_le a b f _ y.1 y.2 hx
          have h2 : p.2.length < t.length := by
            unfold refL at hp
            split at hp
            · cases hp
            · rename_i q hq
              cases he : entL q.1 with
              | none => rw [he] at hp; cases hp
              | some o =>
                rw [he] at hp
                simp only [Option.map_some, Option.some.injEq] at hp
                rw [← hp]
                exact cutL_lt (a := q.1) hq
          simp only [List.length_cons]
          omega
    · split at h
      · cases h
      · cases hx : txtF a b f ((c :: t).drop (decodeL (c :: t)).2) with
        | none => rw [hx] at h; cases h
        | some y =>
          rw [hx] at h
          simp only [Option.map_some, Option.some.injEq, Prod.mk.injEq] at h
          obtain ⟨-, rfl⟩ := h
          have h1 := txtF_le a b f _ y.1 y.2 hx
          have hw := decodeL_width (c :: t)
          rw [List.length_drop] at h1
          simp only [List.length_cons] at h1 ⊢
          omega

theorem slice_own {w : World} {T : TypeId} {v : Value} {n : Nat} {cs : List Value} (h : w.ownsRow 0 T 4 v n cs) : ∃ p a b, v = .slice p a b := by
  obtain ⟨_, ⟨rfl, _⟩ | ⟨g, cap, cur, rfl, _⟩⟩ := h
  · exact ⟨_, _, _, rfl⟩
  · exact ⟨_, _, _, rfl⟩
theorem slice_own' {w : World} {T : TypeId} {v : Value} {l : List AttrS} (h : AttrsT T w v l) : ∃ p a b, v = .slice p a b := by
  obtain ⟨_, ⟨rfl, _⟩ | ⟨g, cap, cur, rfl, _⟩⟩ := h
  · exact ⟨_, _, _, rfl⟩
  · exact ⟨_, _, _, rfl⟩
theorem ElM.slices {TA TE : TypeId} {w : World} {D : Nat → Prop} {av kv : Value} {e : XEl} (h : ElM TA TE w D av kv e) : (∃ ap an ac, av = .slice ap an ac) ∧ ∃ kp kn kc, kv = .slice kp kn kc := by
  induction h with
  | mk D n t l ks av kv h1 h2 h3 h4 _ ih =>
    exact ⟨slice_own' h1, slice_own h3⟩

end Go.Proofs.YtlljphipglgjiaaGreatDoor
