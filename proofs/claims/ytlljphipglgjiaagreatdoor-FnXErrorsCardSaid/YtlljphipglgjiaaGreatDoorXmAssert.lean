/-
  Tokens: what their type assertions give.
  zxml's Decoder.Token: texts, comments, instructions; ends.
  The decoder with its stack and its name spaces, and blocks known beside it.
-/
import Derived.Test.YtlljphipglgjiaaGreatDoorXmBase
import Derived.Test.YtlljphipglgjiaaGreatDoorXmRaw
import Derived.Deep.RegionHeld3
import Derived.Test.YtlljphipglgjiaaGreatDoorXmSans
namespace Go.Proofs.YtlljphipglgjiaaGreatDoor
open Go.RowKit

def zStart : Value := .agg #[.string ⟨#[]⟩, .string ⟨#[]⟩, .slice none 0 0]
def zEnd : Value := .agg #[.string ⟨#[]⟩, .string ⟨#[]⟩]
theorem ta62_135 (v : Value) (w : World) : (Instr.typeAssert (.iface 135 v) 124 62 true).run Tryz.prog w = .ok (.tuple #[.agg #[.string ⟨#[]⟩, .string ⟨#[]⟩, .slice none 0 0], .bool false]) w := by kernel_rfl
theorem ta62_259 (v : Value) (w : World) : (Instr.typeAssert (.iface 259 v) 124 62 true).run Tryz.prog w = .ok (.tuple #[.agg #[.string ⟨#[]⟩, .string ⟨#[]⟩, .slice none 0 0], .bool false]) w := by kernel_rfl
theorem ta62_258 (v : Value) (w : World) : (Instr.typeAssert (.iface 258 v) 124 62 true).run Tryz.prog w = .ok (.tuple #[.agg #[.string ⟨#[]⟩, .string ⟨#[]⟩, .slice none 0 0], .bool false]) w := by kernel_rfl
theorem ta62_128 (v : Value) (w : World) : (Instr.typeAssert (.iface 128 v) 124 62 true).run Tryz.prog w = .ok (.tuple #[.agg #[.string ⟨#[]⟩, .string ⟨#[]⟩, .slice none 0 0], .bool false]) w := by kernel_rfl
theorem ta62_62 (v : Value) (w : World) : (Instr.typeAssert (.iface 62 v) 124 62 true).run Tryz.prog w = .ok (.tuple #[v, .bool true]) w := by kernel_rfl
theorem ta128_135 (v : Value) (w : World) : (Instr.typeAssert (.iface 135 v) 124 128 true).run Tryz.prog w = .ok (.tuple #[.agg #[.string ⟨#[]⟩, .string ⟨#[]⟩], .bool false]) w := by kernel_rfl
theorem ta128_259 (v : Value) (w : World) : (Instr.typeAssert (.iface 259 v) 124 128 true).run Tryz.prog w = .ok (.tuple #[.agg #[.string ⟨#[]⟩, .string ⟨#[]⟩], .bool false]) w := by kernel_rfl
theorem ta128_258 (v : Value) (w : World) : (Instr.typeAssert (.iface 258 v) 124 128 true).run Tryz.prog w = .ok (.tuple #[.agg #[.string ⟨#[]⟩, .string ⟨#[]⟩], .bool false]) w := by kernel_rfl
theorem ta128_62 (v : Value) (w : World) : (Instr.typeAssert (.iface 62 v) 124 128 true).run Tryz.prog w = .ok (.tuple #[.agg #[.string ⟨#[]⟩, .string ⟨#[]⟩], .bool false]) w := by kernel_rfl
theorem ta128_128 (v : Value) (w : World) : (Instr.typeAssert (.iface 128 v) 124 128 true).run Tryz.prog w = .ok (.tuple #[v, .bool true]) w := by kernel_rfl
end Go.Proofs.YtlljphipglgjiaaGreatDoor

namespace Go.Proofs.YtlljphipglgjiaaGreatDoor
open Go.RowKit Go.Lib

/-- What Token asks ahead of rawToken. -/
structure TokAt (w : World) (P : Nat) (a : Option Addr) : Prop where
  c5 : w.cell? ⟨P, 5, none⟩ = some (.pointer a)
  top : a = none ∨ ∃ b, a = some ⟨b, 0, none⟩ ∧ w.cell? ⟨b, 1, none⟩ = some (.int .i64 0)
  c8 : w.cell? ⟨P, 8, none⟩ = some .nilIface
theorem DecM.tokAt {M : Nat → Prop} {w : World} {L : LS} {s : ByteArray} {i : Nat} {f : Bool} {bs : List UInt8} {st fl : List (Nat × SRec)} {F : NsF} {fr : List (ByteArray × ByteArray × NsF)} (h : DecM M w L s i f bs st fl) (hf : Frames st F fr) : TokAt w L.p L.stk := by
  obtain ⟨⟨_, _, _, _, _, buf, ⟨lr, nb, ri, pr, line, ls, off, q1, _⟩, _⟩, hc, _⟩ := h
  refine ⟨q1.cell 5, ?_, q1.cell 8⟩
  cases fr with
  | nil =>
    rw [show st = [] from hf] at hc
    exact .inl hc
  | cons p t =>
    obtain ⟨b, ok, st', rfl, _⟩ := hf
    obtain ⟨h1, nxt, h2, _⟩ := hc
    exact .inr ⟨b, h1, h2.cell 1⟩

set_option maxRecDepth 100000 in
set_option maxHeartbeats 4000000 in
/-- What is neither a start nor an end is handed on. -/
theorem token_plain (w : World) (P : Nat) (a : Option Addr) (T : TypeId) (hT : T = 135 ∨ T = 259 ∨ T = 258) (R : Value → World → Prop) (h : TokAt w P a)
    (hr : Calls Tryz.prog 117 #[.pointer (some ⟨P, 0, none⟩)] w fun e w' => ∃ v, e = .returned (.tuple #[.iface T v, .nilIface]) ∧ R v w' ∧ w'.cell? ⟨P, 0, none⟩ = some (.bool true)) :
    Calls Tryz.prog 70 #[.pointer (some ⟨P, 0, none⟩)] w fun e w' => ∃ v, e = .returned (.tuple #[.iface T v, .nilIface]) ∧ R v w' := by
  obtain ⟨post, hpost⟩ : ∃ post : Ending → World → Prop, (fun e w' => ∃ v, e = .returned (.tuple #[.iface T v, .nilIface]) ∧ R v w') = post := ⟨_, rfl⟩
  have hfin : ∀ (v : Value) (w' : World), R v w' → post (.returned (.tuple #[.iface T v, .nilIface])) w' := by
    intro v w' h1
    rw [← hpost]
    exact ⟨v, rfl, h1⟩
  rw [hpost]
  have HFIN := Lib.hid hfin
  have HR := Lib.hid hr
  obtain ⟨c5, htop, c8⟩ := h
  have a1 := ta62_135
  have a2 := ta62_259
  have a3 := ta62_258
  have a4 := ta128_135
  have a5 := ta128_259
  have a6 := ta128_258
  clear hr hfin hpost
  rcases htop with rfl | ⟨b, rfl, d1⟩
  all_goals rcases hT with rfl | rfl | rfl
  all_goals
    go_enter Tryz.func70, Tryz.ntmps70
    go_wp2_with fail
    refine HR.out.mono ?_
    rintro e w1 ⟨v, rfl, hv, c0⟩
    have HP := Lib.hid (HFIN.out v w1 hv)
    clear hv
    go_wp2_with fail
    exact HP.out

/-- Behind an end: its element's name spaces are undone. -/
def EndPost (M : Nat → Prop) (w : World) (L : LS) (s : ByteArray) (j : Nat) (f : Bool) (bs : List UInt8) (st' : List (Nat × SRec)) (m n : Nat) (F : NsF) (sp lo : ByteArray) (e : Ending) (w' : World) : Prop :=
  e = .returned (.tuple #[.iface 128 (.agg #[.string (xlate F true sp lo), .string lo]), .nilIface]) ∧ ∃ (fl' : List (Nat × SRec)) (stk free : Option Addr) (n' : Nat), DecM M w' { L with stk := stk, free := free } s j f bs (dropNs st') fl' ∧ NsM w' m n' (undoNs st' F) ∧ n' + (dropNs st').length ≤ n + st'.length ∧
    Fr (fun y => M y ∨ y = m) w w'

set_option maxRecDepth 100000 in
set_option maxHeartbeats 4000000 in
theorem token_pop (M : Nat → Prop) (w : World) (P : Nat) (a : Option Addr) (s : ByteArray) (L : LS) (j : Nat) (f : Bool) (bs : List UInt8) (b : Nat) (st' fl : List (Nat × SRec)) (m n : Nat) (F : NsF) (sp lo : ByteArray) (ok : Bool) (h : TokAt w P a) (_hN : New M w) (hp : L.p = P)
    (hm : L.nsb = m) (hmM : ¬ M m) (hsp : sp.size ≤ maxLen) (hst : StOk st') (hnl : n + st'.length < maxLen)
    (hr : Calls Tryz.prog 117 #[.pointer (some ⟨P, 0, none⟩)] w fun e w1 => e = .returned (.tuple #[.iface 128 (.agg #[.string sp, .string lo]), .nilIface]) ∧ DecM M w1 L s j f bs ((b, ⟨0, sp, lo, ok⟩) :: st') fl ∧ NsM w1 m n F ∧ Fr M w w1) :
    Calls Tryz.prog 70 #[.pointer (some ⟨P, 0, none⟩)] w (EndPost M w L s j f bs st' m n F sp lo) := by
  obtain ⟨post, hpost⟩ : ∃ post, EndPost M w L s j f bs st' m n F sp lo = post := ⟨_, rfl⟩
  have hfin : ∀ (x : ByteArray) (w' : World) (fl' : List (Nat × SRec)) (stk free : Option Addr) (n' : Nat), xlate F true sp lo = x → DecM M w' { L with stk := stk, free := free } s j f bs (dropNs st') fl' → NsM w' m n' (undoNs st' F) → n' + (dropNs st').length ≤ n + st'.length → Fr (fun y => M y ∨ y = m) w w' →
      post (.returned (.tuple #[.iface 128 (.agg #[.string x, .string lo]), .nilIface])) w' := by
    intro x w' fl' stk free n' h0 h1 h2 h3 h4
    rw [← hpost]
    exact ⟨by rw [h0], fl', stk, free, n', h1, h2, h3, h4⟩
  rw [hpost]
  have HFIN := Lib.hid hfin
  have HR := Lib.hid hr
  have HST := Lib.hid hst
  have HMM := Lib.hid hmM
  obtain ⟨c5, htop, c8⟩ := h
  have a1 := ta62_128
  have a2 := ta128_128
  clear hr hfin hpost hst hmM
  rcases htop with rfl | ⟨b0, rfl, d1⟩
  all_goals
    go_enter Tryz.func70, Tryz.ntmps70
    go_wp2_with fail
    refine HR.out.mono ?_
    rintro e w1 ⟨rfl, hd, hns, hf⟩
    obtain ⟨_, _, _, _, _, buf, ⟨lr, nbx, ri, pr, line, ls, off, q1, _⟩, _⟩ := hd.1
    have c0 := q1.cell 0
    rw [hp] at c0
    unfold lcells at c0
    have hb0 : Below w1.heap.size w1 (w1.alloc (.cells #[.string sp, .string lo] 128)) := (Below.refl _ _).alloc (Nat.le_refl _) _
    have hd2 := hd.out hb0
    have hlm := hns.lt
    have hns2 : NsM (w1.alloc (.cells #[.string sp, .string lo] 128)) m n F := hns.fr (Fr.below hb0 (Nat.le_refl _) (fun _ h => h) : Fr (fun x => w1.heap.size ≤ x) w1 _) (Nat.not_le.2 hlm)
    have hnbk : Blk (w1.alloc (.cells #[.string sp, .string lo] 128)) w1.heap.size 128 #[.string sp, .string lo] := Blk.new _ _ _
    have hpop := popElement_any b w1.heap.size m n F sp lo ok hd2 hm hns2 hsp hnbk (not_Out (Nat.le_refl _) (by simp)) (fun h => HMM.out h.1) HST.out hnl
    have HF := Lib.hid (hf.trans (Fr.below hb0 (Nat.le_refl _) hd.1.parts.2.2.1))
    have HND := Lib.hid hd.1.parts.2.2.1
    rw [hp] at hpop
    have HPOP := Lib.hid hpop
    clear hd hns hf q1 hd2 hns2 hnbk hpop hb0
    go_wp2_with fail
    refine HPOP.out.mono ?_
    rintro e w2 ⟨rfl, fl', stk, free, n', g1, g2, g3, g4, g5⟩
    have k0 := g4.cell 0
    have k1 := g4.cell 1
    obtain ⟨x, hx⟩ : ∃ x, xlate F true sp lo = x := ⟨_, rfl⟩
    rw [hx] at k0
    have HP := Lib.hid (HFIN.out x w2 fl' stk free n' hx (g1.mono fun k hk => hk.sub) g2 g3 ((HF.out.mono fun y hy => .inl hy).trans (g5.mono fun y hy => by
      rcases hy with hy | hy | hy
      · exact .inl hy.sub
      · exact .inr hy
      · exact .inl (HND.out y (by rw [hy]; exact Nat.le_refl _)))))
    clear g1 g2 g3 g4 g5 hx
    go_wp2_with fail
    exact HP.out
end Go.Proofs.YtlljphipglgjiaaGreatDoor

namespace Go.Proofs.YtlljphipglgjiaaGreatDoor
open Go.RowKit Go.Lib

def KnownD (X : Known) (w : World) : Prop := ∀ x ∈ X, Blk w x.1 x.2.1 x.2.2 ∧ x.2.1 ≠ 197 ∧ x.2.1 ≠ 190 ∧ x.2.1 ≠ 5 ∧ x.2.1 ≠ 200
/-- The decoder, its stack, its name spaces (block m), blocks beside it; since w only M and m have turned. -/
structure StD (M : Nat → Prop) (w wr : World) (L : LS) (s : ByteArray) (p : Nat) (f : Bool) (bs : List UInt8) (st fl : List (Nat × SRec)) (m n : Nat) (F : NsF) (X : Known) : Prop where
  dec : DecM M wr L s p f bs st fl
  ns : NsM wr m n F
  fr : Fr (fun y => M y ∨ y = m) w wr
  ok : KnownD X wr
  hm : ¬ M m
section
variable {M : Nat → Prop} {w wr w2 : World} {L L2 : LS} {s : ByteArray} {p p2 : Nat} {f f2 : Bool} {bs bs2 : List UInt8} {st fl st2 fl2 : List (Nat × SRec)} {m n n2 : Nat} {F F2 : NsF} {X : Known}
theorem KnownD.ok (h : KnownD X wr) : X.ok wr := fun x hx => ⟨(h x hx).1, (h x hx).2.1, (h x hx).2.2.1, (h x hx).2.2.2.1⟩
theorem KnownD.fr {M' : Nat → Prop} (h : KnownD X wr) (hf : Fr M' wr w2) (hn : ∀ x ∈ X.map (·.1), ¬ M' x) : KnownD X w2 :=
  fun x hx => ⟨(h x hx).1.fr hf (hn _ (List.mem_map.2 ⟨x, hx, rfl⟩)), (h x hx).2⟩
theorem DecM.sansD (h : DecM M wr L s p f bs st fl) (hX : KnownD X wr) : DecM (Sans M (X.map (·.1))) wr L s p f bs st fl := by
  obtain ⟨h1, h2, h3, h4, h5⟩ := h
  refine ⟨h1.sans _ (Known.alien hX.ok), h2, h3, h4, fun b hb => ⟨⟨(h5 b hb).1, fun hm => ?_⟩, (h5 b hb).2⟩⟩
  obtain ⟨y, hy, rfl⟩ := List.mem_map.1 hm
  obtain ⟨k1, k2⟩ := hX y hy
  have hc : ∃ cs, Blk wr y.1 200 cs := by
    rcases List.mem_append.1 hb with hb | hb
    · exact h2.blk _ hb
    · exact h3.blk _ hb
  obtain ⟨cs, hc⟩ := hc
  exact k1.ne hc k2.2.2.2 rfl
theorem StD.decS (h : StD M w wr L s p f bs st fl m n F X) : DecM (Sans M (X.map (·.1))) wr L s p f bs st fl := h.dec.sansD h.ok
theorem StD.lt (h : StD M w wr L s p f bs st fl m n F X) : ∀ x ∈ X.map (·.1), x < wr.heap.size := by
  intro x hx
  obtain ⟨y, hy, rfl⟩ := List.mem_map.1 hx
  exact (h.ok y hy).1.lt
theorem StD.new (h : StD M w wr L s p f bs st fl m n F X) : New M wr := h.dec.1.parts.2.2.1
theorem StD.ne (h : StD M w wr L s p f bs st fl m n F X) : ∀ x ∈ X.map (·.1), m ≠ x := by
  intro x hx
  obtain ⟨y, hy, rfl⟩ := List.mem_map.1 hx
  exact h.ns.not_blk (h.ok y hy).1
/-- Behind a callee that works on the decoder. -/
theorem StD.after (h : StD M w wr L s p f bs st fl m n F X) (h2 : DecM (Sans M (X.map (·.1))) w2 L2 s p2 f2 bs2 st2 fl2) (hf : Fr (Sans M (X.map (·.1))) wr w2) : StD M w w2 L2 s p2 f2 bs2 st2 fl2 m n F X :=
  ⟨h2.mono fun _ hx => hx.1, h.ns.fr hf fun hx => h.hm hx.1, h.fr.trans (hf.mono fun _ hx => .inl hx.1), h.ok.fr hf fun _ hx => not_Sans hx, h.hm⟩
/-- Behind new blocks alone. -/
theorem StD.wid (h : StD M w wr L s p f bs st fl m n F X) (hb : Below wr.heap.size wr w2) : StD M w w2 L s p f bs st fl m n F X := by
  have hf : Fr (fun x => wr.heap.size ≤ x) wr w2 := Fr.below hb (Nat.le_refl _) fun _ h => h
  exact ⟨h.dec.other hf fun x _ hx => Nat.not_le.2 hx, h.ns.fr hf (Nat.not_le.2 h.ns.lt), h.fr.trans (hf.mono fun x hx => .inl (h.new x hx)), h.ok.fr hf fun x hx => Nat.not_le.2 (h.lt x hx), h.hm⟩
theorem StD.alloc (h : StD M w wr L s p f bs st fl m n F X) (T : TypeId) (cs : Array Value) (hT : T ≠ 197 ∧ T ≠ 190 ∧ T ≠ 5 ∧ T ≠ 200) : StD M w (wr.alloc (.cells cs T)) L s p f bs st fl m n F ((wr.heap.size, T, cs) :: X) := by
  have h2 := h.wid ((Below.refl wr.heap.size wr).alloc (Nat.le_refl _) (.cells cs T))
  exact ⟨h2.dec, h2.ns, h2.fr, fun x hx => by
    rcases List.mem_cons.1 hx with rfl | hx
    · exact ⟨Blk.new wr T cs, hT⟩
    · exact h2.ok x hx, h.hm⟩
theorem StD.tail {x : Nat × TypeId × Array Value} (h : StD M w wr L s p f bs st fl m n F (x :: X)) : StD M w wr L s p f bs st fl m n F X := ⟨h.dec, h.ns, h.fr, fun y hy => h.ok y (by simp [hy]), h.hm⟩
/-- Behind a change of the map. -/
theorem StD.map (h : StD M w wr L s p f bs st fl m n F X) (h2 : NsM w2 m n2 F2) (hg : wr.grownBy w2 (some m)) : StD M w w2 L s p f bs st fl m n2 F2 X := by
  have hf := grown_fr hg
  exact ⟨h.dec.other hf (fun x hx hlt e => by rcases e with e | e; omega; exact h.hm (e ▸ hx)), h2, h.fr.trans (hf.mono fun x hx => by rcases hx with hx | hx; exact .inl (h.new x hx); exact .inr hx),
    h.ok.fr hf (fun x hx e => by rcases e with e | e; (have := h.lt x hx; omega); exact h.ne x hx e.symm), h.hm⟩
/-- Behind a change of the head block. -/
theorem StD.head {b : Nat} {T : TypeId} {cs cs2 : Array Value} (h : StD M w wr L s p f bs st fl m n F ((b, T, cs) :: X)) (hb : b ∉ X.map (·.1)) (hw : M b) (hf : Fr (fun x => x = b) wr w2) (h2 : Blk w2 b T cs2) : StD M w w2 L s p f bs st fl m n F ((b, T, cs2) :: X) :=
  ⟨(h.decS.other hf fun x hx _ e => hx.2 (by simp [e])).mono fun _ hx => hx.1, h.ns.fr hf (h.ne b (by simp)), h.fr.trans (hf.mono fun x hx => .inl (hx ▸ hw)), fun x hx => by
    rcases List.mem_cons.1 hx with rfl | hx
    · exact ⟨h2, (h.ok (b, T, cs) (by simp)).2⟩
    · exact ⟨(h.ok x (by simp [hx])).1.fr hf fun e => hb (List.mem_map.2 ⟨x, hx, e⟩), (h.ok x (by simp [hx])).2⟩, h.hm⟩
theorem StD.swap {x y : Nat × TypeId × Array Value} (h : StD M w wr L s p f bs st fl m n F (x :: y :: X)) : StD M w wr L s p f bs st fl m n F (y :: x :: X) :=
  ⟨h.dec, h.ns, h.fr, fun z hz => h.ok z (by simp only [List.mem_cons] at hz ⊢; rcases hz with h | h | h; exact .inr (.inl h); exact .inl h; exact .inr (.inr h)), h.hm⟩
theorem StD.drew (h : StD M w wr L s p f bs st fl m n F X) (k : Nat) : StD M w (wr.drewN k) L s p f bs st fl m n F X := h.wid ⟨rfl, rfl, rfl, Nat.le_refl _, fun _ _ => rfl⟩
end
end Go.Proofs.YtlljphipglgjiaaGreatDoor
