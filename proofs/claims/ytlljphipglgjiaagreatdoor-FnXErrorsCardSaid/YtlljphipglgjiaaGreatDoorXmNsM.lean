/-
  A decoder's name spaces: a map of strings, F what stands in it: look-ups, sets, deletes.
  zxml's Decoder: pop and push on its stack of records.
  zxml's Decoder with its stack of records and what is free.
  zxml's Decoder: pushElement, pushNs.
  zxml's Decoder.translate: what the name's space becomes.
  zxml's Decoder.popElement on the good road.
-/
import Derived.Test.YtlljphipglgjiaaGreatDoorXmBase
import Derived.Maps.Own
import Derived.Maps.Views
import Derived.Maps.StringElems
import Derived.Laws.IdiomMaps
import Derived.Test.YtlljphipglgjiaaGreatDoorXmStr
import Derived.Deep.RegionHeld3
import Derived.StillTailTactics
import Derived.Deep.LoopGhost
namespace Go.Proofs.YtlljphipglgjiaaGreatDoor
open Go.RowKit Go.Lib Go.WideMaps Go.WideElems Go.WideShapes Go.ChangeMaps Go.MapKept

/-- What stands at each key. -/
abbrev NsF := ByteArray → Option ByteArray
def NsF.put (F : NsF) (key : ByteArray) (v : Option ByteArray) : NsF := fun k => if k = key then v else F k
def nsVal : Option ByteArray → DataW Unit
  | none => .nil
  | some v => .lit (.string v.data.toList)
/-- Block m is a map of at most n strings; F says what stands in it. -/
def NsM (w : World) (m n : Nat) (F : NsF) : Prop := ∃ D : DataW Unit, w.ownsMap Tryz.prog 9 (plainElem Tryz.prog 9) m n D ∧ ∀ key : ByteArray, D.atKey (.string key.data.toList) .nil = nsVal (F key)
theorem strKey : KeyLaw Tryz.prog 9 := string_law Tryz.underlying9
theorem ba_of_list {a b : ByteArray} (h : a.data.toList = b.data.toList) : a = b := ByteArray.ext (Array.toList_inj.1 h)

theorem NsM.look {w : World} {m n : Nat} {F : NsF} (h : NsM w m n F) (key : ByteArray) (hk : key.size ≤ maxLen) :
    (Instr.lookup 191 (.map (some m)) (.string key) true).run Tryz.prog w = .ok (.tuple #[.string ((F key).getD ⟨#[]⟩), .bool (F key).isSome]) w ∧ ((F key).getD ⟨#[]⟩).size ≤ maxLen := by
  obtain ⟨D, ⟨es, clock, hb, Ft, _, rfl⟩, hF⟩ := h
  have zero : (zeroValue 9).run Tryz.prog w = .ok (.string ⟨#[]⟩) w := Tryz.zeroValue9 w
  have hFk := hF key
  rcases fit_lookup_ok (w := w) strKey Tryz.underlying191 zero hb Ft (keyOf_string_mk (s := key) Tryz.underlying9 hk) with ⟨hrun, hat⟩ | ⟨v, y, hrun, hRv, hat, _⟩
  · rw [hat] at hFk
    cases hv : F key with
    | none => exact ⟨hrun, by decide⟩
    | some v => rw [hv] at hFk; cases hFk
  · obtain ⟨s, rfl, rfl, hs⟩ := plainElem_string_inv Tryz.underlying9 hRv
    rw [hat] at hFk
    cases hv : F key with
    | none => rw [hv] at hFk; cases hFk
    | some v =>
      rw [hv] at hFk
      unfold nsVal at hFk
      injection hFk with h1
      injection h1 with h1
      obtain rfl : s = v := ba_of_list h1
      exact ⟨hrun, hs⟩

theorem keyOf_str (key : ByteArray) (hk : key.size ≤ maxLen) : keyOf Tryz.prog 9 (.string key) = some (.string key.data.toList) := keyOf_string_mk (s := key) Tryz.underlying9 hk
theorem lit_ne {a b : ByteArray} (h : a ≠ b) : (Lit.string a.data.toList) ≠ .string b.data.toList := fun e => h (ba_of_list (Lit.string.inj e))
/-- Behind a set; nothing else has turned. -/
theorem NsM.set {w : World} {m n : Nat} {F : NsF} (h : NsM w m n F) (hn : n < maxLen) (key v : ByteArray) (hk : key.size ≤ maxLen) (hv : v.size ≤ maxLen) :
    ∃ w', (Instr.mapUpdate 191 (.map (some m)) (.string key) (.string v)).run Tryz.prog w = .ok () w' ∧ NsM w' m (n + 1) (F.put key (some v)) ∧ w.grownBy w' (some m) := by
  obtain ⟨D, hD, hF⟩ := h
  have hmap : Maps.IsMap D := by
    obtain ⟨es, clock, _, _, _, rfl⟩ := hD
    exact ⟨_, rfl⟩
  obtain ⟨w', h1, h2, h3⟩ := hD.update (Maps.string_keyed Tryz.underlying9) Tryz.underlying191 hn (keyOf_str key hk) (plainElem_string Tryz.underlying9 hv)
  refine ⟨w', h1, ⟨_, h2, fun k => ?_⟩, h3⟩
  unfold NsF.put
  split
  · rename_i e
    subst e
    exact Maps.atKey_put_same (k := .string k.data.toList) hmap (show WideAt.IsKeyLit (.string k.data.toList) from trivial) _ _
  · rename_i e
    rw [Maps.atKey_put_other (lit_ne e)]
    exact hF k
/-- Behind a delete. -/
theorem NsM.del {w : World} {m n : Nat} {F : NsF} (h : NsM w m n F) (key : ByteArray) (hk : key.size ≤ maxLen) (ty : TypeId) :
    ∃ w', (Builtin.delete_ #[191, 9] ty #[.map (some m), .string key]).run Tryz.prog w = .ok (.tuple #[]) w' ∧ NsM w' m n (F.put key none) ∧ w.grownBy w' (some m) := by
  obtain ⟨D, ⟨es, clock, hb, Ft, hs, rfl⟩, hF⟩ := h
  obtain ⟨es', hrun, F', hle, hdel, _⟩ := Maps.fit_drop (Maps.string_keyed Tryz.underlying9) Tryz.underlying191 hb Ft (keyOf_str key hk) (ty := ty)
  refine ⟨_, hrun, ⟨_, ⟨es', clock, heap_setBlock_same hb _, F', Nat.le_trans hle hs, rfl⟩, fun k => ?_⟩, ⟨rfl, rfl, rfl, by simp [setBlock], fun i _ hi => heap_setBlock_other hb _ (fun e => hi (by rw [e]))⟩⟩
  rw [hdel]
  have e : (DataW.map (delKey (.string key.data.toList) ((es.toList.map (rg Tryz.prog 9 (plainElem Tryz.prog 9))).foldr DataW.insert [])) : DataW Unit) = (DataW.map ((es.toList.map (rg Tryz.prog 9 (plainElem Tryz.prog 9))).foldr DataW.insert [])).del (.string key.data.toList) := rfl
  rw [e]
  unfold NsF.put
  split
  · rename_i e
    subst e
    exact Maps.atKey_del_same _
  · rename_i e
    rw [Maps.atKey_del_other (lit_ne e)]
    exact hF k
theorem NsM.mono {w : World} {m n n' : Nat} {F : NsF} (h : NsM w m n F) (hn : n ≤ n') : NsM w m n' F := by
  obtain ⟨D, hD, hF⟩ := h
  exact ⟨D, hD.mono hn, hF⟩
theorem NsM.lt {w : World} {m n : Nat} {F : NsF} (h : NsM w m n F) : m < w.heap.size := by
  obtain ⟨D, hD, hF⟩ := h
  exact hD.lt
theorem NsM.not_blk {w : World} {m n : Nat} {F : NsF} (h : NsM w m n F) {b : Nat} {T : TypeId} {cs : Array Value} (hb : w.heap[b]? = some (.cells cs T (0, 0))) : m ≠ b := by
  rintro rfl
  obtain ⟨D, ⟨es, clock, h1, _⟩, _⟩ := h
  rw [hb] at h1
  cases h1
end Go.Proofs.YtlljphipglgjiaaGreatDoor

namespace Go.Proofs.YtlljphipglgjiaaGreatDoor
open Go.RowKit Go.Lib

def stCells (next : Option Addr) (kind : Int) (sp lo : ByteArray) (ok : Bool) : Array Value := #[.pointer next, .int .i64 kind, .string sp, .string lo, .bool ok]
theorem Tryz.info200 : (Tryz.prog.info? 200).map (fun i => (i.zero, i.size, i.bytes)) = some (some (.agg #[.pointer none, .int .i64 0, .string ⟨#[]⟩, .string ⟨#[]⟩, .bool false]), 5, 56) := by kernel_rfl

section
variable {M : Nat → Prop} {w : World} {L : LS} {s : ByteArray} {i : Nat} {f : Bool} {bs : List UInt8}
/-- A change of the decoder's own fields and of blocks that are neither the reader's nor the buffer's. -/
theorem LowB.turn {L' : LS} {w' : World} (h : LowB M w L s i f bs) (hp : L'.p = L.p) (hr : L'.rb = L.rb) (hb : ∀ buf lr nb line ls off, Blk w L.p 197 (lcells L buf lr nb line ls off) → Blk w' L.p 197 (lcells L' buf lr nb line ls off))
    (hf : Fr M w w') (ho : ∀ (g : Nat) (T : TypeId) (cs : Array Value), w.heap[g]? = some (Obj.cells cs T (0, 0)) → (T = 190 ∨ T = 5) → w'.heap[g]? = some (Obj.cells cs T (0, 0))) : LowB M w' L' s i f bs := by
  obtain ⟨h1, h2, h3, h4, h5, buf, ⟨lr, nb, ri, pr, line, ls, off, q1, q2, q3⟩, hB, hM⟩ := h
  refine ⟨by rw [hp]; exact h1, by rw [hr]; exact h2, h3.fr hf, h4, h5, buf, ⟨lr, nb, ri, pr, line, ls, off, by rw [hp]; exact hb _ _ _ _ _ _ q1, by rw [hr]; exact ho _ _ _ q2 (.inl rfl), q3⟩, ?_, by rw [hp]; exact hM⟩
  exact hB.keep fun g _ cur hc => ho _ _ _ hc (.inr rfl)
end

set_option maxHeartbeats 400000 in
theorem pop_any (M : Nat → Prop) (w : World) (L : LS) (s : ByteArray) (i : Nat) (f : Bool) (bs : List UInt8) (b : Nat) (nxt : Option Addr) (kind : Int) (sp lo : ByteArray) (ok : Bool)
    (h : LowB M w L s i f bs) (hst : L.stk = some ⟨b, 0, none⟩) (hb : Blk w b 200 (stCells nxt kind sp lo ok)) (hMb : M b) :
    Calls Tryz.prog 167 #[.pointer (some ⟨L.p, 0, none⟩)] w fun e w' => e = .returned (.pointer (some ⟨b, 0, none⟩)) ∧ LowB M w' { L with stk := nxt, free := some ⟨b, 0, none⟩ } s i f bs ∧ Blk w' b 200 (stCells L.free kind sp lo ok) ∧ Fr (fun x => x = L.p ∨ x = b) w w' := by
  have H := Lib.hid h
  have HB := Lib.hid hb
  have HMB := Lib.hid hMb
  have HST := Lib.hid hst
  obtain ⟨hMp, _, _, _, _, buf, ⟨lr, nb, ri, pr, line, ls, off, q1, q2, q3⟩, _, _⟩ := h
  have hne : L.p ≠ b := q1.ne hb (by decide)
  have c5 := q1.cell 5
  have c6 := q1.cell 6
  have fz := q1.frozen
  have d0 := hb.cell 0
  have fb := hb.frozen
  unfold lcells at c5 c6
  unfold stCells at d0
  rw [hst] at c5
  clear hb hMb hst q2 q3
  have Q1 := Lib.hid q1
  clear q1
  go_enter Tryz.func167, Tryz.ntmps167
  go_wp2_with fail
  go_ret
  refine ⟨rfl, ?_, ?_, (((Fr.refl _ _).setCell (.inl rfl) _).setCell (.inr rfl) _).setCell (.inl rfl) _⟩
  · refine H.out.turn (L' := { L with stk := nxt, free := some ⟨b, 0, none⟩ }) rfl rfl (fun buf lr nb line ls off q => (((q.set 5 _).far hne _).set 6 _).eq rfl) ((((Fr.refl _ _).setCell hMp _).setCell HMB.out _).setCell hMp _) ?_
    intro g T cs hg hT
    have hgp : L.p ≠ g := Q1.out.ne (t' := T) (cs' := cs) hg (by rcases hT with rfl | rfl <;> decide)
    have hgb : b ≠ g := HB.out.ne (t' := T) (cs' := cs) hg (by rcases hT with rfl | rfl <;> decide)
    rw [Below.heap_setCell _ _ _ _ (Ne.symm hgp), Below.heap_setCell _ _ _ _ (Ne.symm hgb), Below.heap_setCell _ _ _ _ (Ne.symm hgp)]
    exact hg
  · exact (((HB.out.far (Ne.symm hne) _).set 0 _).far (Ne.symm hne) _).eq rfl

/-- push onto a stack while nothing is free: a new record. -/
theorem push_new (M : Nat → Prop) (w : World) (L : LS) (s : ByteArray) (i : Nat) (f : Bool) (bs : List UInt8) (kind : Int) (h : LowB M w L s i f bs) (hfr : L.free = none) :
    Calls Tryz.prog 166 #[.pointer (some ⟨L.p, 0, none⟩), .int .i64 kind] w fun e w' => e = .returned (.pointer (some ⟨w.heap.size, 0, none⟩)) ∧ LowB M w' { L with stk := some ⟨w.heap.size, 0, none⟩ } s i f bs ∧
      Blk w' w.heap.size 200 (stCells L.stk kind ⟨#[]⟩ ⟨#[]⟩ false) ∧ Fr (fun x => x = L.p ∨ w.heap.size ≤ x) w w' := by
  obtain ⟨i200, hi200, hz200a, hz200b, hz200c⟩ := info_parts Tryz.info200
  have H := Lib.hid h
  have HFR := Lib.hid hfr
  obtain ⟨hMp, _, hN, _, _, buf, ⟨lr, nb, ri, pr, line, ls, off, q1, q2, q3⟩, _, _⟩ := h
  have hlt := q1.lt
  have c5 := q1.cell 5
  have c6 := q1.cell 6
  have fz := q1.frozen
  unfold lcells at c5 c6
  rw [hfr] at c6
  clear hfr q2 q3
  have Q1 := Lib.hid q1
  have HNW := Lib.hid hN
  clear q1 hN
  go_enter Tryz.func166, Tryz.ntmps166
  go_wp2_with fail
  go_ret
  have h1 : LowB M (w.setCell ⟨L.p, 5, none⟩ (.pointer (some ⟨w.heap.size, 0, none⟩))) { L with stk := some ⟨w.heap.size, 0, none⟩ } s i f bs := by
    refine H.out.turn (L' := { L with stk := some ⟨w.heap.size, 0, none⟩ }) rfl rfl (fun buf lr nb line ls off q => (q.set 5 _).eq rfl) ((Fr.refl _ _).setCell hMp _) ?_
    intro g T cs hg hT
    have hgp : L.p ≠ g := Q1.out.ne (t' := T) (cs' := cs) hg (by rcases hT with rfl | rfl <;> decide)
    rw [Below.heap_setCell _ _ _ _ (Ne.symm hgp)]
    exact hg
  refine ⟨rfl, h1.below ((Below.refl _ _).alloc (Nat.le_refl _) _), ?_, ((Fr.refl (fun x => x = L.p ∨ w.heap.size ≤ x) w).setCell (.inl rfl) _).alloc (fun k hk => .inr hk) _⟩
  have := Blk.new (w.setCell ⟨L.p, 5, none⟩ (.pointer (some ⟨w.heap.size, 0, none⟩))) 200 (stCells L.stk kind ⟨#[]⟩ ⟨#[]⟩ false)
  simpa [stCells] using this

/-- push onto a stack while a record is free: that record. -/
theorem push_free (M : Nat → Prop) (w : World) (L : LS) (s : ByteArray) (i : Nat) (f : Bool) (bs : List UInt8) (kind k0 : Int) (b : Nat) (nxt : Option Addr) (sp lo : ByteArray) (ok : Bool) (h : LowB M w L s i f bs) (hfr : L.free = some ⟨b, 0, none⟩)
    (hb : Blk w b 200 (stCells nxt k0 sp lo ok)) (hMb : M b) :
    Calls Tryz.prog 166 #[.pointer (some ⟨L.p, 0, none⟩), .int .i64 kind] w fun e w' => e = .returned (.pointer (some ⟨b, 0, none⟩)) ∧ LowB M w' { L with stk := some ⟨b, 0, none⟩, free := nxt } s i f bs ∧
      Blk w' b 200 (stCells L.stk kind sp lo ok) ∧ Fr (fun x => x = L.p ∨ x = b) w w' := by
  have H := Lib.hid h
  have HFR := Lib.hid hfr
  have HB := Lib.hid hb
  have HMB := Lib.hid hMb
  obtain ⟨hMp, _, _, _, _, buf, ⟨lr, nb, ri, pr, line, ls, off, q1, q2, q3⟩, _, _⟩ := h
  have hne : L.p ≠ b := q1.ne hb (by decide)
  have c5 := q1.cell 5
  have c6 := q1.cell 6
  have fz := q1.frozen
  have d0 := hb.cell 0
  have d1 := hb.cell 1
  have fb := hb.frozen
  unfold lcells at c5 c6
  unfold stCells at d0 d1
  rw [hfr] at c6
  clear hfr q2 q3 hb hMb
  have Q1 := Lib.hid q1
  clear q1
  go_enter Tryz.func166, Tryz.ntmps166
  go_wp2_with fail
  go_ret
  refine ⟨rfl, ?_, ?_, ((((Fr.refl _ _).setCell (.inl rfl) _).setCell (.inr rfl) _).setCell (.inr rfl) _).setCell (.inl rfl) _⟩
  · refine H.out.turn (L' := { L with stk := some ⟨b, 0, none⟩, free := nxt }) rfl rfl (fun buf lr nb line ls off q => ((((q.set 6 _).far hne _).far hne _).set 5 _).eq rfl) (((((Fr.refl _ _).setCell hMp _).setCell HMB.out _).setCell HMB.out _).setCell hMp _) ?_
    intro g T cs hg hT
    have hgp : L.p ≠ g := Q1.out.ne (t' := T) (cs' := cs) hg (by rcases hT with rfl | rfl <;> decide)
    have hgb : b ≠ g := HB.out.ne (t' := T) (cs' := cs) hg (by rcases hT with rfl | rfl <;> decide)
    rw [Below.heap_setCell _ _ _ _ (Ne.symm hgp), Below.heap_setCell _ _ _ _ (Ne.symm hgb), Below.heap_setCell _ _ _ _ (Ne.symm hgb), Below.heap_setCell _ _ _ _ (Ne.symm hgp)]
    exact hg
  · exact ((((HB.out.far (Ne.symm hne) _).set 0 _).set 1 _).far (Ne.symm hne) _).eq rfl
end Go.Proofs.YtlljphipglgjiaaGreatDoor

namespace Go.Proofs.YtlljphipglgjiaaGreatDoor
open Go.RowKit Go.Lib

/-- A record of the stack: its kind, the two names, whether there was one. -/
structure SRec where
  kind : Int
  sp : ByteArray
  lo : ByteArray
  ok : Bool
/-- From a on lie these records, one behind the other. -/
def ChainM (w : World) : Option Addr → List (Nat × SRec) → Prop
  | a, [] => a = none
  | a, p :: t => a = some ⟨p.1, 0, none⟩ ∧ ∃ nxt, Blk w p.1 200 (stCells nxt p.2.kind p.2.sp p.2.lo p.2.ok) ∧ ChainM w nxt t
theorem ChainM.fr {M : Nat → Prop} {w w' : World} (f : Fr M w w') : ∀ {a : Option Addr} {l : List (Nat × SRec)}, ChainM w a l → (∀ b ∈ l.map (·.1), ¬ M b) → ChainM w' a l
  | _, [], h, _ => h
  | _, p :: t, ⟨h1, nxt, h2, h3⟩, hM => ⟨h1, nxt, h2.fr f (hM _ (by simp)), h3.fr f fun b hb => hM b (by simp at hb ⊢; exact .inr hb)⟩
theorem ChainM.lt {w : World} : ∀ {a : Option Addr} {l : List (Nat × SRec)}, ChainM w a l → ∀ b ∈ l.map (·.1), b < w.heap.size
  | _, [], _, b, hb => by simp at hb
  | _, p :: t, ⟨_, nxt, h2, h3⟩, b, hb => by
    simp only [List.map_cons, List.mem_cons] at hb
    rcases hb with rfl | hb
    · exact h2.lt
    · exact h3.lt b hb

/-- The decoder, its stack st, its free records fl. -/
def DecM (M : Nat → Prop) (w : World) (L : LS) (s : ByteArray) (i : Nat) (f : Bool) (bs : List UInt8) (st fl : List (Nat × SRec)) : Prop :=
  LowB M w L s i f bs ∧ ChainM w L.stk st ∧ ChainM w L.free fl ∧ (st.map (·.1) ++ fl.map (·.1)).Nodup ∧ (∀ b ∈ st.map (·.1) ++ fl.map (·.1), M b ∧ b ≠ L.p)

section
variable {M : Nat → Prop} {w : World} {L : LS} {s : ByteArray} {i : Nat} {f : Bool} {bs : List UInt8} {st fl : List (Nat × SRec)}
/-- pop of a stack that has one. -/
theorem pop_dec (p : Nat × SRec) (h : DecM M w L s i f bs (p :: st) fl) :
    Calls Tryz.prog 167 #[.pointer (some ⟨L.p, 0, none⟩)] w fun e w' => e = .returned (.pointer (some ⟨p.1, 0, none⟩)) ∧ ∃ stk free, DecM M w' { L with stk := stk, free := free } s i f bs st (p :: fl) ∧ Fr M w w' := by
  obtain ⟨h1, ⟨h2, nxt, h3, h4⟩, h5, h6, h7⟩ := h
  have hp := h7 p.1 (by simp)
  refine (pop_any M w L s i f bs p.1 nxt p.2.kind p.2.sp p.2.lo p.2.ok h1 h2 h3 hp.1).mono ?_
  rintro e w' ⟨he, g1, g2, g3⟩
  have h6' := h6
  simp only [List.map_cons, List.cons_append, List.nodup_cons, List.mem_append, not_or] at h6'
  obtain ⟨⟨n1, n2⟩, n3⟩ := h6'
  refine ⟨he, nxt, some ⟨p.1, 0, none⟩, ⟨g1, h4.fr g3 ?_, ⟨rfl, L.free, g2, h5.fr g3 ?_⟩, ?_, ?_⟩, g3.mono fun x hx => by rcases hx with rfl | rfl; exact h1.1; exact hp.1⟩
  · rintro b hb (rfl | rfl)
    · exact (h7 _ (by simp at hb ⊢; exact .inr (.inl hb))).2 rfl
    · exact n1 hb
  · rintro b hb (rfl | rfl)
    · exact (h7 _ (by simp at hb ⊢; exact .inr (.inr hb))).2 rfl
    · exact n2 hb
  · rw [List.map_cons]
    exact List.perm_middle.nodup_iff.2 (by rw [List.nodup_cons, List.mem_append, not_or]; exact ⟨⟨n1, n2⟩, n3⟩)
  · intro b hb
    refine h7 b ?_
    simp only [List.map_cons, List.mem_append, List.mem_cons] at hb ⊢
    rcases hb with h | h | h
    · exact .inl (.inr h)
    · exact .inl (.inl h)
    · exact .inr h
/-- push: a record of this kind, whatever it bears, on the top. -/
theorem push_dec (kind : Int) (h : DecM M w L s i f bs st fl) :
    Calls Tryz.prog 166 #[.pointer (some ⟨L.p, 0, none⟩), .int .i64 kind] w fun e w' => ∃ (p : Nat × SRec) (fl' : List (Nat × SRec)) (stk free : Option Addr), e = .returned (.pointer (some ⟨p.1, 0, none⟩)) ∧ p.2.kind = kind ∧
      DecM M w' { L with stk := stk, free := free } s i f bs (p :: st) fl' ∧ Fr M w w' := by
  obtain ⟨h1, h2, h3, h6, h7⟩ := h
  cases fl with
  | nil =>
    have hf : L.free = none := h3
    refine (push_new M w L s i f bs kind h1 hf).mono ?_
    rintro e w' ⟨he, g1, g2, g3⟩
    have hlt := h2.lt
    refine ⟨(w.heap.size, ⟨kind, ⟨#[]⟩, ⟨#[]⟩, false⟩), [], some ⟨w.heap.size, 0, none⟩, L.free, he, rfl, ⟨g1, ⟨rfl, L.stk, g2, h2.fr g3 ?_⟩, h3, ?_, ?_⟩, g3.mono fun x hx => by rcases hx with rfl | hx; exact h1.1; exact h1.parts.2.2.1 x hx⟩
    · rintro b hb (rfl | hx)
      · exact (h7 _ (by simp at hb ⊢; exact hb)).2 rfl
      · have := hlt b hb; omega
    · simp only [List.map_nil, List.append_nil, List.map_cons, List.nodup_cons] at h6 ⊢
      exact ⟨fun hb => Nat.lt_irrefl _ (hlt _ hb), h6⟩
    · intro b hb
      simp only [List.map_nil, List.append_nil, List.map_cons, List.mem_cons] at hb h7 ⊢
      rcases hb with rfl | hb
      · refine ⟨h1.parts.2.2.1 _ (Nat.le_refl _), fun e => ?_⟩
        obtain ⟨_, _, _, _, _, _, ⟨_, _, _, _, _, _, _, q1, _⟩, _⟩ := h1
        have := q1.lt
        omega
      · exact h7 b hb
  | cons q t =>
    obtain ⟨e1, nxt, e2, e3⟩ := h3
    have hq := h7 q.1 (by simp)
    refine (push_free M w L s i f bs kind q.2.kind q.1 nxt q.2.sp q.2.lo q.2.ok h1 e1 e2 hq.1).mono ?_
    rintro e w' ⟨he, g1, g2, g3⟩
    have h6' := (List.perm_middle.nodup_iff.1 (by simpa using h6) : (q.1 :: (st.map (·.1) ++ t.map (·.1))).Nodup)
    rw [List.nodup_cons, List.mem_append, not_or] at h6'
    obtain ⟨⟨n1, n2⟩, n3⟩ := h6'
    refine ⟨(q.1, ⟨kind, q.2.sp, q.2.lo, q.2.ok⟩), t, some ⟨q.1, 0, none⟩, nxt, he, rfl, ⟨g1, ⟨rfl, L.stk, g2, h2.fr g3 ?_⟩, e3.fr g3 ?_, ?_, ?_⟩, g3.mono fun x hx => by rcases hx with rfl | rfl; exact h1.1; exact hq.1⟩
    · rintro b hb (rfl | rfl)
      · exact (h7 _ (by simp at hb ⊢; exact .inl hb)).2 rfl
      · exact n1 hb
    · rintro b hb (rfl | rfl)
      · exact (h7 _ (by simp at hb ⊢; exact .inr (.inr hb))).2 rfl
      · exact n2 hb
    · simp only [List.map_cons, List.cons_append, List.nodup_cons, List.mem_append, not_or]
      exact ⟨⟨n1, n2⟩, n3⟩
    · intro b hb
      refine h7 b ?_
      simp only [List.map_cons, List.cons_append, List.mem_append, List.mem_cons] at hb ⊢
      rcases hb with h | h | h
      · exact .inr (.inl h)
      · exact .inl h
      · exact .inr (.inr h)
end

end Go.Proofs.YtlljphipglgjiaaGreatDoor

namespace Go.Proofs.YtlljphipglgjiaaGreatDoor
open Go.RowKit Go.Lib

section
variable {M : Nat → Prop} {w w' : World} {L : LS} {s : ByteArray} {i : Nat} {f : Bool} {bs : List UInt8} {st fl : List (Nat × SRec)} {p : Nat × SRec}
/-- The top record is written anew. -/
theorem DecM.top (h : DecM M w L s i f bs (p :: st) fl) (r : SRec) (hf : Fr (fun x => x = p.1) w w') (hb : ∀ nxt, Blk w p.1 200 (stCells nxt p.2.kind p.2.sp p.2.lo p.2.ok) → Blk w' p.1 200 (stCells nxt r.kind r.sp r.lo r.ok)) : DecM M w' L s i f bs ((p.1, r) :: st) fl := by
  obtain ⟨h1, ⟨h2, nxt, h3, h4⟩, h5, h6, h7⟩ := h
  have hp := h7 p.1 (by simp)
  have h6' := h6
  simp only [List.map_cons, List.cons_append, List.nodup_cons, List.mem_append, not_or] at h6'
  obtain ⟨⟨n1, n2⟩, n3⟩ := h6'
  refine ⟨?_, ⟨h2, nxt, hb nxt h3, h4.fr hf fun b hb e => n1 (e ▸ hb)⟩, h5.fr hf fun b hb e => n2 (e ▸ hb), by simpa using h6, by simpa using h7⟩
  refine h1.turn rfl rfl (fun buf lr nb line ls off q => q.fr hf (Ne.symm hp.2)) (hf.mono fun x hx => hx ▸ hp.1) ?_
  intro g T cs hg hT
  have hgb : p.1 ≠ g := h3.ne (t' := T) (cs' := cs) hg (by rcases hT with rfl | rfl <;> decide)
  exact hf.heap hg (Ne.symm hgb)
theorem DecM.topCells (h : DecM M w L s i f bs (p :: st) fl) : ∃ nxt, Blk w p.1 200 (stCells nxt p.2.kind p.2.sp p.2.lo p.2.ok) := by
  obtain ⟨_, ⟨_, nxt, h3, _⟩, _⟩ := h
  exact ⟨nxt, h3⟩

/-- What makes memory alone: the decoder, with the new blocks out of reach. -/
theorem DecM.out (h : DecM M w L s i f bs st fl) (hb : Below w.heap.size w w') : DecM (Out M w.heap.size w'.heap.size) w' L s i f bs st fl := by
  obtain ⟨h1, h2, h3, h4, h5⟩ := h
  have hf : Fr (fun x => w.heap.size ≤ x) w w' := Fr.below hb (Nat.le_refl _) (fun _ h => h)
  have l2 := h2.lt
  have l3 := h3.lt
  refine ⟨h1.out hb, h2.fr hf fun b hb => Nat.not_le.2 (l2 b hb), h3.fr hf fun b hb => Nat.not_le.2 (l3 b hb), h4, fun b hb => ⟨⟨(h5 b hb).1, .inl ?_⟩, (h5 b hb).2⟩⟩
  rcases List.mem_append.1 hb with h | h
  · exact l2 b h
  · exact l3 b h
theorem DecM.mono {M' : Nat → Prop} (h : DecM M w L s i f bs st fl) (hM : ∀ k, M k → M' k) : DecM M' w L s i f bs st fl :=
  ⟨h.1.mono hM, h.2.1, h.2.2.1, h.2.2.2.1, fun b hb => ⟨hM _ (h.2.2.2.2 b hb).1, (h.2.2.2.2 b hb).2⟩⟩

set_option maxHeartbeats 400000 in
theorem pushElement_dec (sp lo : ByteArray) (h : DecM M w L s i f bs st fl) :
    Calls Tryz.prog 121 #[.pointer (some ⟨L.p, 0, none⟩), .agg #[.string sp, .string lo]] w fun e w' => e = .returned (.tuple #[]) ∧ ∃ (b : Nat) (ok : Bool) (fl' : List (Nat × SRec)) (stk free : Option Addr),
      DecM M w' { L with stk := stk, free := free } s i f bs ((b, ⟨0, sp, lo, ok⟩) :: st) fl' ∧ Fr M w w' := by
  have hN := h.1.parts.2.2.1
  have hb0 : Below w.heap.size w (w.alloc (.cells #[.string sp, .string lo] 59)) := (Below.refl _ _).alloc (Nat.le_refl _) _
  have HP := Lib.hid (push_dec 0 (h.out hb0))
  clear h
  go_enter Tryz.func121, Tryz.ntmps121
  go_wp2_with fail
  refine HP.out.mono ?_
  rintro e w1 ⟨p, fl', stk, free, rfl, hk, hd, hf⟩
  obtain ⟨nxt, hb⟩ := hd.topCells
  have hblk : Blk w1 w.heap.size 59 #[.string sp, .string lo] := (Blk.new w 59 _).fr hf (not_Out (Nat.le_refl _) (by simp))
  have k0 := hblk.cell 0
  have k1 := hblk.cell 1
  have d2 := hb.cell 2
  have d3 := hb.cell 3
  have fb := hb.frozen
  unfold stCells at d2 d3
  have HD := Lib.hid (hd.mono fun k hk => hk.sub)
  have HF : Hid (Fr M w w1) := Lib.hid ((Fr.below hb0 (Nat.le_refl _) hN).trans (hf.mono fun k hk => hk.sub))
  have HK := Lib.hid hk
  have hpM := (hd.2.2.2.2 p.1 (by simp)).1.sub
  clear hd hf hb hk hblk
  go_wp2_with fail
  go_end0
  refine ⟨rfl, p.1, p.2.ok, fl', stk, free, HD.out.top ⟨0, sp, lo, p.2.ok⟩ (((Fr.refl (fun x => x = p.1) w1).setCell (p := ⟨p.1, 2, none⟩) rfl _).setCell (p := ⟨p.1, 3, none⟩) rfl _) (fun nxt hb => ?_), (HF.out.setCell hpM _).setCell hpM _⟩
  rw [HK.out] at hb
  exact ((hb.set 2 _).set 3 _).eq rfl

set_option maxHeartbeats 400000 in
theorem pushNs_dec (lo url : ByteArray) (ok : Bool) (h : DecM M w L s i f bs st fl) :
    Calls Tryz.prog 120 #[.pointer (some ⟨L.p, 0, none⟩), .string lo, .string url, .bool ok] w fun e w' => e = .returned (.tuple #[]) ∧ ∃ (b : Nat) (fl' : List (Nat × SRec)) (stk free : Option Addr),
      DecM M w' { L with stk := stk, free := free } s i f bs ((b, ⟨1, url, lo, ok⟩) :: st) fl' ∧ Fr M w w' := by
  have HP := Lib.hid (push_dec 1 h)
  clear h
  go_enter Tryz.func120, Tryz.ntmps120
  go_wp2_with fail
  refine HP.out.mono ?_
  rintro e w1 ⟨p, fl', stk, free, rfl, hk, hd, hf⟩
  obtain ⟨nxt, hb⟩ := hd.topCells
  have d2 := hb.cell 2
  have d3 := hb.cell 3
  have d4 := hb.cell 4
  have fb := hb.frozen
  unfold stCells at d2 d3 d4
  have HD := Lib.hid hd
  have HF := Lib.hid hf
  have HK := Lib.hid hk
  have hpM := hd.2.2.2.2 p.1 (by simp)
  clear hd hf hb hk
  go_wp2_with fail
  go_end0
  refine ⟨rfl, p.1, fl', stk, free, HD.out.top ⟨1, url, lo, ok⟩ ((((Fr.refl (fun x => x = p.1) w1).setCell (p := ⟨p.1, 3, none⟩) rfl _).setCell (p := ⟨p.1, 2, none⟩) rfl _).setCell (p := ⟨p.1, 4, none⟩) rfl _) (fun nxt hb => ?_), ((HF.out.setCell hpM.1 _).setCell hpM.1 _).setCell hpM.1 _⟩
  rw [HK.out] at hb
  exact (((hb.set 3 _).set 2 _).set 4 _).eq rfl
end

end Go.Proofs.YtlljphipglgjiaaGreatDoor

namespace Go.Proofs.YtlljphipglgjiaaGreatDoor
open Go.RowKit Go.Lib

def xmlUrl : ByteArray := ⟨#[104, 116, 116, 112, 58, 47, 47, 119, 119, 119, 46, 119, 51, 46, 111, 114, 103, 47, 88, 77, 76, 47, 49, 57, 57, 56, 47, 110, 97, 109, 101, 115, 112, 97, 99, 101]⟩
/-- What a name's space is behind translate. -/
def xlate (F : NsF) (el : Bool) (sp lo : ByteArray) : ByteArray :=
  if sp.toList = [120, 109, 108, 110, 115] then sp
  else if sp.toList = [] ∧ el = false then sp
  else if sp.toList = [120, 109, 108] then (F xmlUrl).getD xmlUrl
  else if sp.toList = [] ∧ lo.toList = [120, 109, 108, 110, 115] then sp
  else (F sp).getD sp
def TrlEnd (w w' : World) (nb no : Nat) (sp X : ByteArray) : Prop :=
  ∃ k, (w.drewN k = w' ∧ X = sp) ∨ (w.setCell ⟨nb, no, none⟩ (.string X)).drewN k = w' ∨ ∃ y, ((w.setCell ⟨nb, no, none⟩ (.string y)).setCell ⟨nb, no, none⟩ (.string X)).drewN k = w'
theorem TrlEnd.a {w : World} {nb no : Nat} {sp X : ByteArray} (k : Nat) (h : X = sp) : TrlEnd w (w.drewN k) nb no sp X := ⟨k, .inl ⟨rfl, h⟩⟩
theorem TrlEnd.b {w : World} {nb no : Nat} {sp X v : ByteArray} (k : Nat) (h : X = v) : TrlEnd w ((w.setCell ⟨nb, no, none⟩ (.string v)).drewN k) nb no sp X := ⟨k, .inr (.inl (by rw [h]))⟩
theorem TrlEnd.c {w : World} {nb no : Nat} {sp X v y : ByteArray} (k : Nat) (h : X = v) : TrlEnd w (((w.setCell ⟨nb, no, none⟩ (.string y)).setCell ⟨nb, no, none⟩ (.string v)).drewN k) nb no sp X := ⟨k, .inr (.inr ⟨y, by rw [h]⟩)⟩
theorem nil_of_toList {s : ByteArray} (h : s.toList = []) : s = ⟨#[]⟩ := ba_of_list (by rw [← Lib.toList_data, h])
section
variable {F : NsF} {el : Bool} {sp lo : ByteArray}
theorem xl1 (h : (sp.toList == [120, 109, 108, 110, 115]) = true) : xlate F el sp lo = sp := by unfold xlate; rw [if_pos (by simpa using h)]
theorem xl2 (h1 : (sp.toList == [120, 109, 108, 110, 115]) = false) (h2 : sp.toList = []) (h3 : (!el) = true) : xlate F el sp lo = sp := by
  unfold xlate; rw [if_neg (by simpa using h1), if_pos ⟨h2, by simpa using h3⟩]
theorem xl3 (h1 : (sp.toList == [120, 109, 108, 110, 115]) = false) (h2 : sp.toList = []) (h3 : (!el) = false) (h4 : (lo.toList == [120, 109, 108, 110, 115]) = true) : xlate F el sp lo = sp := by
  unfold xlate; rw [if_neg (by simpa using h1), if_neg (fun h => by rw [h.2] at h3; cases h3), if_neg (by rw [h2]; decide), if_pos ⟨h2, by simpa using h4⟩]
theorem xl4 (h1 : (sp.toList == [120, 109, 108, 110, 115]) = false) (h2 : sp.toList = []) (h3 : (!el) = false) (h4 : (lo.toList == [120, 109, 108, 110, 115]) = false) : xlate F el sp lo = (F sp).getD sp := by
  unfold xlate; rw [if_neg (by simpa using h1), if_neg (fun h => by rw [h.2] at h3; cases h3), if_neg (by rw [h2]; decide), if_neg (fun h => by rw [h.2] at h4; cases h4)]
theorem xl5 (h1 : (sp.toList == [120, 109, 108, 110, 115]) = false) (h2 : ¬ sp.toList = []) (h3 : (sp.toList == [120, 109, 108]) = true) : xlate F el sp lo = (F xmlUrl).getD xmlUrl := by
  unfold xlate; rw [if_neg (by simpa using h1), if_neg (fun h => h2 h.1), if_pos (by simpa using h3)]
theorem xl6 (h1 : (sp.toList == [120, 109, 108, 110, 115]) = false) (h2 : ¬ sp.toList = []) (h3 : (sp.toList == [120, 109, 108]) = false) : xlate F el sp lo = (F sp).getD sp := by
  unfold xlate; rw [if_neg (by simpa using h1), if_neg (fun h => h2 h.1), if_neg (by simpa using h3), if_neg (fun h => h2 h.1)]
end
set_option maxRecDepth 100000 in
set_option maxHeartbeats 4000000 in
theorem translate_any (w : World) (L : LS) (buf : Value) (lr nbx line ls off : Int) (m n nb no : Nat) (F : NsF) (sp lo : ByteArray) (el : Bool) (hq : Blk w L.p 197 (lcells L buf lr nbx line ls off)) (hm : L.nsb = m) (hns : NsM w m n F) (hsp : sp.size ≤ maxLen)
    (hc0 : w.cell? ⟨nb, no, none⟩ = some (.string sp)) (hc1 : w.cell? ⟨nb, no + 1, none⟩ = some (.string lo)) (hfz : w.frozen? ⟨nb, no, none⟩ = false) (hne : L.p ≠ nb) :
    Calls Tryz.prog 122 #[.pointer (some ⟨L.p, 0, none⟩), .pointer (some ⟨nb, no, none⟩), .bool el] w fun e w' => e = .returned (.tuple #[]) ∧ TrlEnd w w' nb no sp (xlate F el sp lo) := by
  have HNM : Hid (∀ es clock, w.heap[nb]? ≠ some (.map es clock)) := Lib.hid (fun es clock e => by simp [World.cell?, e] at hc0)
  have d4 := hq.cell 4
  have d7 := hq.cell 7
  unfold lcells at d4 d7
  rw [hm] at d7
  have hlu : (Instr.lookup 191 (.map (some m)) (.string xmlUrl) true).run Tryz.prog (w.setCell ⟨nb, no, none⟩ (.string xmlUrl)).drew = .ok (.tuple #[.string ((F xmlUrl).getD ⟨#[]⟩), .bool (F xmlUrl).isSome]) (w.setCell ⟨nb, no, none⟩ (.string xmlUrl)).drew := by
    obtain ⟨D, hD, hF⟩ := hns
    have hD2 : (w.setCell ⟨nb, no, none⟩ (.string xmlUrl)).drew.ownsMap Tryz.prog 9 (plainElem Tryz.prog 9) m n D := by
      obtain ⟨es, clock, hb, F, r⟩ := hD
      refine ⟨es, clock, ?_, F, r⟩
      show (w.setCell ⟨nb, no, none⟩ (.string xmlUrl)).heap[m]? = _
      rw [Below.heap_setCell _ _ _ _ (by rintro rfl; exact HNM.out _ _ hb)]
      exact hb
    exact (NsM.look ⟨D, hD2, hF⟩ xmlUrl (by decide)).1
  have HLU := Lib.hid hlu
  have hl : ∀ j, (Instr.lookup 191 (.map (some m)) (.string sp) true).run Tryz.prog (w.drewN j) = .ok (.tuple #[.string ((F sp).getD ⟨#[]⟩), .bool (F sp).isSome]) (w.drewN j) := fun j => by
    obtain ⟨D, hD, hF⟩ := hns
    exact (NsM.look (w := w.drewN j) ⟨D, hD, hF⟩ sp hsp).1
  have HL := Lib.hid hl
  have d7u := ((hq.far (p := ⟨nb, no, none⟩) hne (.string xmlUrl)).drew).cell 7
  unfold lcells at d7u
  rw [hm] at d7u
  unfold xmlUrl at d7u
  clear hq hns hm hl hlu
  go_enter Tryz.func122, Tryz.ntmps122
  go_wp2_with fail
  · refine bodyPost_ret (results_none rfl _ _ _) rfl ⟨rfl, TrlEnd.a 0 (xl1 ‹(sp.toList == [120, 109, 108, 110, 115]) = true›)⟩
  · refine bodyPost_ret (results_none rfl _ _ _) rfl ⟨rfl, TrlEnd.a 0 (xl2 ‹(sp.toList == [120, 109, 108, 110, 115]) = false› ‹sp.toList = []› ‹(!el) = true›)⟩
  · refine bodyPost_ret (results_none rfl _ _ _) rfl ⟨rfl, TrlEnd.a 0 (xl3 ‹(sp.toList == [120, 109, 108, 110, 115]) = false› ‹sp.toList = []› ‹(!el) = false› ‹(lo.toList == [120, 109, 108, 110, 115]) = true›)⟩
  · have hx := (xl4 (F := F) ‹(sp.toList == [120, 109, 108, 110, 115]) = false› ‹sp.toList = []› ‹(!el) = false› ‹(lo.toList == [120, 109, 108, 110, 115]) = false›)
    have hrun := HL.out 1
    change (Instr.lookup 191 (.map (some m)) (.string sp) true).run Tryz.prog w.drew = .ok (.tuple #[.string ((F sp).getD ⟨#[]⟩), .bool (F sp).isSome]) w.drew at hrun
    have HX := Lib.hid hx
    clear hx
    cases hFs : F sp with
    | none =>
      rw [hFs] at hrun
      dsimp only [Option.getD_none, Option.isSome_none] at hrun
      have HX2 : Hid (xlate F el sp lo = sp) := Lib.hid (by rw [HX.out, hFs]; rfl)
      clear HX hFs
      go_region
      go_wp2_with fail
      first | refine bodyPost_ret (results_none rfl _ _ _) rfl ⟨rfl, ?_⟩ | (go_end0; refine ⟨rfl, ?_⟩) | refine ⟨rfl, ?_⟩
      exact TrlEnd.b 1 (HX2.out.trans (nil_of_toList ‹sp.toList = []›))
    | some v =>
      rw [hFs] at hrun
      dsimp only [Option.getD_some, Option.isSome_some] at hrun
      have HX2 : Hid (xlate F el sp lo = v) := Lib.hid (by rw [HX.out, hFs]; rfl)
      clear HX hFs
      go_region
      go_wp2_with fail
      first | refine bodyPost_ret (results_none rfl _ _ _) rfl ⟨rfl, ?_⟩ | (go_end0; refine ⟨rfl, ?_⟩) | refine ⟨rfl, ?_⟩
      exact TrlEnd.b 1 HX2.out
  · have hx := (xl5 (F := F) (el := el) (lo := lo) ‹(sp.toList == [120, 109, 108, 110, 115]) = false› ‹¬ sp.toList = []› ‹(sp.toList == [120, 109, 108]) = true›)
    have hrun := HLU.out
    have HX := Lib.hid hx
    clear hx
    cases hFs : F xmlUrl with
    | none =>
      rw [hFs] at hrun
      dsimp only [Option.getD_none, Option.isSome_none] at hrun
      have HX2 : Hid (xlate F el sp lo = xmlUrl) := Lib.hid (by rw [HX.out, hFs]; rfl)
      clear HX hFs
      unfold xmlUrl at hrun
      go_region
      go_wp2_with fail
      first | refine bodyPost_ret (results_none rfl _ _ _) rfl ⟨rfl, ?_⟩ | (go_end0; refine ⟨rfl, ?_⟩) | refine ⟨rfl, ?_⟩
      exact TrlEnd.b 1 HX2.out
    | some v =>
      rw [hFs] at hrun
      dsimp only [Option.getD_some, Option.isSome_some] at hrun
      have HX2 : Hid (xlate F el sp lo = v) := Lib.hid (by rw [HX.out, hFs]; rfl)
      clear HX hFs
      unfold xmlUrl at hrun
      go_region
      go_wp2_with fail
      first | refine bodyPost_ret (results_none rfl _ _ _) rfl ⟨rfl, ?_⟩ | (go_end0; refine ⟨rfl, ?_⟩) | refine ⟨rfl, ?_⟩
      exact TrlEnd.c 1 HX2.out
  · have hx := (xl6 (F := F) (el := el) (lo := lo) ‹(sp.toList == [120, 109, 108, 110, 115]) = false› ‹¬ sp.toList = []› ‹(sp.toList == [120, 109, 108]) = false›)
    have hrun := HL.out 1
    change (Instr.lookup 191 (.map (some m)) (.string sp) true).run Tryz.prog w.drew = .ok (.tuple #[.string ((F sp).getD ⟨#[]⟩), .bool (F sp).isSome]) w.drew at hrun
    have HX := Lib.hid hx
    clear hx
    cases hFs : F sp with
    | none =>
      rw [hFs] at hrun
      dsimp only [Option.getD_none, Option.isSome_none] at hrun
      have HX2 : Hid (xlate F el sp lo = sp) := Lib.hid (by rw [HX.out, hFs]; rfl)
      clear HX hFs
      go_region
      go_wp2_with fail
      all_goals first
        | (exact absurd ‹sp.toList = []› ‹¬ sp.toList = []›)
        | (exact absurd (List.isEmpty_iff.1 ‹sp.toList.isEmpty = true›) ‹¬ sp.toList = []›)
        | (refine bodyPost_ret (results_none rfl _ _ _) rfl ⟨rfl, ?_⟩; exact TrlEnd.a 1 HX2.out)
        | (go_end0; refine ⟨rfl, ?_⟩; exact TrlEnd.a 1 HX2.out)
        | (refine ⟨rfl, ?_⟩; exact TrlEnd.a 1 HX2.out)
    | some v =>
      rw [hFs] at hrun
      dsimp only [Option.getD_some, Option.isSome_some] at hrun
      have HX2 : Hid (xlate F el sp lo = v) := Lib.hid (by rw [HX.out, hFs]; rfl)
      clear HX hFs
      go_region
      go_wp2_with fail
      first | refine bodyPost_ret (results_none rfl _ _ _) rfl ⟨rfl, ?_⟩ | (go_end0; refine ⟨rfl, ?_⟩) | refine ⟨rfl, ?_⟩
      exact TrlEnd.b 1 HX2.out

/-- What a caller needs of it. -/
theorem translate_use {w w' : World} {nb no : Nat} {sp X : ByteArray} (h : TrlEnd w w' nb no sp X) :
    Fr (fun x => x = nb) w w' ∧ ∀ (T : TypeId) (cs : Array Value), Blk w nb T cs → cs[no]? = some (.string sp) → Blk w' nb T (cs.setIfInBounds no (.string X)) := by
  obtain ⟨k, ⟨rfl, rfl⟩ | rfl | ⟨y, rfl⟩⟩ := h
  · refine ⟨(Fr.refl _ _).drewN k, fun T cs hb hc => (hb.drewN k).eq ?_⟩
    apply Array.ext_getElem?
    intro j
    by_cases hj : no = j
    · subst hj
      have hlt : no < cs.size := by
        rcases Nat.lt_or_ge no cs.size with h | h
        · exact h
        · rw [Array.getElem?_eq_none h] at hc; cases hc
      rw [Array.getElem?_setIfInBounds_self_of_lt hlt, hc]
    · rw [Array.getElem?_setIfInBounds_ne hj]
  · exact ⟨((Fr.refl (fun x => x = nb) w).setCell (p := ⟨nb, no, none⟩) rfl _).drewN k, fun T cs hb _ => (hb.set no _).drewN k⟩
  · exact ⟨(((Fr.refl (fun x => x = nb) w).setCell (p := ⟨nb, no, none⟩) rfl _).setCell (p := ⟨nb, no, none⟩) rfl _).drewN k, fun T cs hb _ => (((hb.set no _).set no _).drewN k).eq (by
      apply Array.ext_getElem?
      intro j
      simp only [Array.getElem?_setIfInBounds, Array.size_setIfInBounds]
      split <;> rfl)⟩

end Go.Proofs.YtlljphipglgjiaaGreatDoor

namespace Go.Proofs.YtlljphipglgjiaaGreatDoor
open Go.RowKit Go.Lib

theorem NsM.fr {M' : Nat → Prop} {w w' : World} {m n : Nat} {F : NsF} (h : NsM w m n F) (hf : Fr M' w w') (hm : ¬ M' m) : NsM w' m n F := by
  obtain ⟨D, ⟨es, clock, hb, r⟩, hF⟩ := h
  exact ⟨D, ⟨es, clock, (hf.block m hm).trans hb, r⟩, hF⟩
theorem grown_fr {w w' : World} {m : Nat} (hg : w.grownBy w' (some m)) : Fr (fun x => w.heap.size ≤ x ∨ x = m) w w' :=
  ⟨hg.os, hg.tape, hg.output, hg.size, fun k hk => by
    rcases Nat.lt_or_ge k w.heap.size with h1 | h1
    · exact hg.block k h1 fun e => hk (.inr (Option.some.inj e))
    · exact absurd (.inl h1) hk⟩
section
variable {M M' : Nat → Prop} {w w' : World} {L : LS} {s : ByteArray} {i : Nat} {f : Bool} {bs : List UInt8} {st fl : List (Nat × SRec)}
/-- What turns other blocks leaves the decoder as it is. -/
theorem LowB.other (h : LowB M w L s i f bs) (hf : Fr M' w w') (hd : ∀ x, M x → x < w.heap.size → ¬ M' x) : LowB M w' L s i f bs := by
  obtain ⟨h1, h2, h3, h4, h5, buf, ⟨lr, nb, ri, pr, line, ls, off, q1, q2, q3⟩, hB, hM⟩ := h
  exact ⟨h1, h2, fun k hk => h3 k (Nat.le_trans hf.size hk), h4, h5, buf, ⟨lr, nb, ri, pr, line, ls, off, q1.fr hf (hd _ h1 q1.lt), q2.fr hf (hd _ h2 q2.lt), q3⟩,
    hB.keep fun g hg cur hc => hf.heap hc (hd g (hM g hg).1 (Blk.lt (t := 5) (cs := cur) hc)), hM⟩
theorem DecM.other (h : DecM M w L s i f bs st fl) (hf : Fr M' w w') (hd : ∀ x, M x → x < w.heap.size → ¬ M' x) : DecM M w' L s i f bs st fl := by
  obtain ⟨h1, h2, h3, h4, h5⟩ := h
  have l2 := h2.lt
  have l3 := h3.lt
  exact ⟨h1.other hf hd, h2.fr hf fun b hb => hd b (h5 b (List.mem_append_left _ hb)).1 (l2 b hb), h3.fr hf fun b hb => hd b (h5 b (List.mem_append_right _ hb)).1 (l3 b hb), h4, h5⟩
end

/-- Behind the records of name spaces on the top. -/
def dropNs (st : List (Nat × SRec)) : List (Nat × SRec) := st.dropWhile fun p => p.2.kind == 1
/-- The records of a stack: elements and name spaces, their names within Go's bounds. -/
def StOk (st : List (Nat × SRec)) : Prop := ∀ p ∈ st, (p.2.kind = 0 ∨ p.2.kind = 1) ∧ p.2.sp.size ≤ maxLen ∧ p.2.lo.size ≤ maxLen
/-- A record of name spaces is undone. -/
def undo1 (r : SRec) (F : NsF) : NsF := F.put r.lo (if r.ok then some r.sp else none)
/-- The records of name spaces on the top are undone. -/
def undoNs : List (Nat × SRec) → NsF → NsF
  | [], F => F
  | p :: t, F => if p.2.kind == 1 then undoNs t (undo1 p.2 F) else F
def PopPost (M : Nat → Prop) (w : World) (L : LS) (s : ByteArray) (i : Nat) (f : Bool) (bs : List UInt8) (st : List (Nat × SRec)) (nb m n : Nat) (F : NsF) (sp lo : ByteArray) (e : Ending) (w' : World) : Prop :=
  e = .returned (.bool true) ∧ ∃ (fl' : List (Nat × SRec)) (stk free : Option Addr) (n' : Nat), DecM M w' { L with stk := stk, free := free } s i f bs (dropNs st) fl' ∧ NsM w' m n' (undoNs st F) ∧ n' + (dropNs st).length ≤ n + st.length ∧
    Blk w' nb 128 #[.string (xlate F true sp lo), .string lo] ∧ Fr (fun y => M y ∨ y = m ∨ y = nb) w w'
set_option maxRecDepth 100000 in
set_option maxHeartbeats 4000000 in
theorem popElement_any {M : Nat → Prop} {w : World} {L : LS} {s : ByteArray} {i : Nat} {f : Bool} {bs : List UInt8} {st fl : List (Nat × SRec)} (b nb m n : Nat) (F : NsF) (sp lo : ByteArray) (ok : Bool)
    (h : DecM M w L s i f bs ((b, ⟨0, sp, lo, ok⟩) :: st) fl) (hm : L.nsb = m) (hns : NsM w m n F) (hsp : sp.size ≤ maxLen) (hnb : Blk w nb 128 #[.string sp, .string lo]) (hnM : ¬ M nb) (hmM : ¬ M m) (hst : StOk st) (hnl : n + st.length < maxLen) :
    Calls Tryz.prog 123 #[.pointer (some ⟨L.p, 0, none⟩), .pointer (some ⟨nb, 0, none⟩)] w (PopPost M w L s i f bs st nb m n F sp lo) := by
  obtain ⟨post, hpost⟩ : ∃ post, PopPost M w L s i f bs st nb m n F sp lo = post := ⟨_, rfl⟩
  have hfin : ∀ (w' : World) (st' fl' : List (Nat × SRec)) (stk free : Option Addr) (n' : Nat), DecM M w' { L with stk := stk, free := free } s i f bs st' fl' → dropNs st = st' → NsM w' m n' (undoNs st F) → n' + st'.length ≤ n + st.length → Blk w' nb 128 #[.string (xlate F true sp lo), .string lo] →
      Fr (fun y => M y ∨ y = m ∨ y = nb) w w' → post (.returned (.bool true)) w' := by
    intro w' st' fl' stk free n' h1 h2 h3 h4 h5 h6
    rw [← hpost]
    subst h2
    exact ⟨rfl, fl', stk, free, n', h1, h3, h4, h5, h6⟩
  rw [hpost]
  have HFIN := Lib.hid hfin
  have HSTK := Lib.hid hst
  have HNL := Lib.hid hnl
  have HLM := Lib.hid hm
  clear hpost hfin hst hnl
  have hb0 : Below w.heap.size w (w.alloc (.cells #[.string sp, .string lo] 59)) := (Below.refl _ _).alloc (Nat.le_refl _) _
  have HP := Lib.hid (pop_dec _ h)
  have H := Lib.hid h
  have HNB := Lib.hid hnb
  have HNM := Lib.hid hnM
  have HNS := Lib.hid hns
  have HMM := Lib.hid hmM
  have hmn : m ≠ nb := hns.not_blk hnb
  have hlm : m < w.heap.size := hns.lt
  clear h hnb hnM hns hmM
  go_enter Tryz.func123, Tryz.ntmps123
  go_wp2_with fail
  refine HP.out.mono ?_
  rintro e w1 ⟨rfl, stk, free, hd, hf⟩
  have hblk : Blk w1 nb 128 #[.string sp, .string lo] := HNB.out.fr hf HNM.out
  have k0 := hblk.cell 0
  have k1 := hblk.cell 1
  have HD := Lib.hid hd
  have HF := Lib.hid hf
  obtain ⟨_, _, ⟨_, nxt, hr, _⟩, _⟩ := hd
  have hr2 := hr.alloc (.cells #[.string sp, .string lo] 59)
  have r1 := hr2.cell 1
  have r2 := hr2.cell 2
  have r3 := hr2.cell 3
  unfold stCells at r1 r2 r3
  have l1 := hr.lt
  have s1 : ((0 : Int) != 0) = false := rfl
  clear hf hblk hr hr2
  have hn := Blk.new w1 59 #[.string sp, .string lo]
  have n0 := hn.cell 0
  have n1 := hn.cell 1
  have x1 : (lo.toList != lo.toList) = false := bne_self_eq_false _
  have x2 : (sp.toList != sp.toList) = false := bne_self_eq_false _
  clear hn
  go_wp2_with fail
  go_region
  go_wp2_with fail
  go_region
  go_wp2_with fail
  obtain ⟨W, hW⟩ : ∃ W, (w1.alloc (.cells #[.string sp, .string lo] 59)).drew.drew = W := ⟨_, rfl⟩
  have hbW : Below w1.heap.size w1 W := by rw [← hW]; exact ((Below.refl _ _).alloc (Nat.le_refl _) _).trans ⟨rfl, rfl, rfl, Nat.le_refl _, fun _ _ => rfl⟩
  have hfW : Fr (fun x => w1.heap.size ≤ x) w1 W := Fr.below hbW (Nat.le_refl _) (fun _ h => h)
  have hdW := HD.out.other hfW (fun x _ hx => Nat.not_le.2 hx)
  have hnW : Blk W nb 128 #[.string sp, .string lo] := (HNB.out.fr HF.out HNM.out).fr hfW (Nat.not_le.2 (HNB.out.fr HF.out HNM.out).lt)
  have hmW : NsM W m n F := (HNS.out.fr HF.out HMM.out).fr hfW (Nat.not_le.2 (Nat.lt_of_lt_of_le hlm HF.out.size))
  obtain ⟨q0, _, _, _, _, buf, ⟨lr, nbx, ri, pr, line, ls, off, q1, _⟩, _⟩ := hdW.1
  have hpn : L.p ≠ nb := by rintro rfl; exact HNM.out q0
  have HT := Lib.hid (translate_any W { L with stk := stk, free := free } buf lr nbx line ls off m n nb 0 F sp lo true q1 hm hmW hsp (hnW.cell 0) (hnW.cell 1) (hnW.frozen 0) hpn)
  have HDW := Lib.hid hdW
  have HNW := Lib.hid hnW
  have HMW := Lib.hid hmW
  have HFW := Lib.hid hfW
  clear hbW hfW hdW hnW hmW q0 q1
  rw [hW]
  refine HT.out.mono ?_
  rintro e w4 ⟨rfl, htr⟩
  obtain ⟨hf4, hx4⟩ := translate_use htr
  obtain ⟨x, hxx⟩ : ∃ x, xlate F true sp lo = x := ⟨_, rfl⟩
  rw [hxx] at hx4 HFIN
  have HD4 := Lib.hid (HDW.out.other hf4 (fun y hy _ e => HNM.out (e ▸ hy)))
  have HM4 := Lib.hid (HMW.out.fr hf4 hmn)
  have HF4 := Lib.hid hf4
  have HX4 := Lib.hid (hx4 128 _ HNW.out rfl)
  clear htr hf4 hx4
  have HB4 : Hid (Blk w4 nb 128 #[.string x, .string lo]) := Lib.hid (HX4.out.eq rfl)
  have HFF : Hid (Fr (fun y => M y ∨ y = m ∨ y = nb) w w4) := Lib.hid (((HF.out.mono fun y hy => .inl hy).trans (HFW.out.mono fun y hy => .inl (HD.out.1.parts.2.2.1 y hy))).trans (HF4.out.mono fun y hy => .inr (.inr hy)))
  have HMNB := Lib.hid hmn
  clear k0 k1 r1 r2 r3 l1 s1 n0 n1 x1 x2 hmn hlm hpn hm hW
  go_wp2_with fail
  go_loopg [] st.length (fun g wr => ∃ (st' fl' : List (Nat × SRec)) (stk' free' : Option Addr) (n' : Nat) (F' : NsF), g = st'.length ∧ DecM M wr { L with stk := stk', free := free' } s i f bs st' fl' ∧ NsM wr m n' F' ∧ n' + st'.length ≤ n + st.length ∧
    Fr (fun y => M y ∨ y = m ∨ y = nb) w wr ∧ Blk wr nb 128 #[.string x, .string lo] ∧ Hid (StOk st' ∧ dropNs st = dropNs st' ∧ undoNs st F = undoNs st' F'))
  case atStart => exact ⟨st, _, stk, free, n, F, rfl, HD4.out, HM4.out, Nat.le_refl _, HFF.out, HB4.out, Lib.hid ⟨HSTK.out, rfl, rfl⟩⟩
  case round =>
    obtain ⟨st', fl', stk', free', n', F', hg, hd, hmr, hle, hf, hb, HQ⟩ := hrel
    have HG := Lib.hid hg
    have HDR := Lib.hid hd
    have HMR := Lib.hid hmr
    have HLE := Lib.hid hle
    have HFR := Lib.hid hf
    have HBR := Lib.hid hb
    obtain ⟨_, _, _, _, _, buf2, ⟨lr2, nbx2, ri2, pr2, line2, ls2, off2, q1, _⟩, _⟩ := hd.1
    have c5 := q1.cell 5
    unfold lcells at c5
    have hch := hd.2.1
    clear q1 hg hmr hle hf hb
    cases st' with
    | nil =>
      have hs : stk' = none := hch
      rw [hs] at c5
      clear hd hch hs
      go_wp2_with fail
      exact HFIN.out _ [] _ _ _ _ HDR.out HQ.out.2.1 (by rw [HQ.out.2.2]; exact HMR.out) HLE.out HBR.out HFR.out
    | cons p t =>
      obtain ⟨hs, nxt, hblk, _⟩ := hch
      have hs' : stk' = some ⟨p.1, 0, none⟩ := hs
      rw [hs'] at c5
      have r1 := hblk.cell 1
      unfold stCells at r1
      have hk := (HQ.out.1 p (by simp)).1
      clear hd hs hs' hblk
      rcases hk with hk | hk
      · rw [hk] at r1
        have HK := Lib.hid hk
        clear hk
        go_wp2_with fail
        exact HFIN.out _ (p :: t) _ _ _ _ HDR.out (HQ.out.2.1.trans (by unfold dropNs; rw [List.dropWhile_cons, HK.out]; rfl)) (by rw [HQ.out.2.2, undoNs, HK.out]; exact HMR.out) HLE.out HBR.out HFR.out
      · rw [hk] at r1
        have HK := Lib.hid hk
        have HPD := Lib.hid (pop_dec p HDR.out)
        clear hk
        go_wp2_with fail
        refine HPD.out.mono ?_
        rintro e w5 ⟨rfl, stk2, free2, hd5, hf5⟩
        obtain ⟨_, nxt5, hb5, _⟩ := hd5.2.2.1
        have p2 := hb5.cell 2
        have p3 := hb5.cell 3
        have p4 := hb5.cell 4
        unfold stCells at p2 p3 p4
        obtain ⟨_, _, _, _, _, buf3, ⟨lr3, nbx3, ri3, pr3, line3, ls3, off3, q1, _⟩, _⟩ := hd5.1
        have c7 := q1.cell 7
        unfold lcells at c7
        have hm7 : ({ L with stk := stk2, free := free2 } : LS).nsb = m := HLM.out
        rw [show ({ L with stk := stk2, free := free2 } : LS).nsb = m from HLM.out] at c7
        have HD5 := Lib.hid hd5
        have HM5 := Lib.hid (HMR.out.fr hf5 HMM.out)
        have HF5 := Lib.hid (HFR.out.trans (hf5.mono fun y hy => .inl hy))
        have HB5 := Lib.hid (HBR.out.fr hf5 HNM.out)
        clear hd5 hf5 hb5 q1 hm7 c5 r1 HPD HDR HMR HFR HBR
        go_wp2_with fail
        · obtain ⟨w6, hrun, hns6, hgrow⟩ := NsM.set (w := w5.drew) (show NsM w5.drew m n' F' from HM5.out) (by have := HLE.out; have := HNL.out; simp only [List.length_cons] at *; omega) p.2.lo p.2.sp (HQ.out.1 p (by simp)).2.2 (HQ.out.1 p (by simp)).2.1
          have hf6 : Fr (fun y => w5.heap.size ≤ y ∨ y = m) w5 w6 := ((Fr.refl _ w5).drewN 1).trans (grown_fr hgrow)
          have HD6 := Lib.hid (HD5.out.other hf6 (fun y hy hlt e => by rcases e with e | e; exact absurd hlt (Nat.not_lt.2 e); exact HMM.out (e ▸ hy)))
          have HM6 := Lib.hid hns6
          have HF6 := Lib.hid (HF5.out.trans (hf6.mono fun y hy => by rcases hy with h | h; exact .inl (HD5.out.1.parts.2.2.1 y h); exact .inr (.inl h)))
          have HB6 := Lib.hid (HB5.out.fr hf6 (fun e => by rcases e with e | e; exact absurd HB5.out.lt (Nat.not_lt.2 e); exact HMNB.out e.symm))
          clear hns6 hgrow hf6
          go_region
          go_wp2_with fail
          go_roundg t.length
          case rel => exact ⟨t, _, stk2, free2, n' + 1, _, rfl, HD6.out, HM6.out, by have := HLE.out; simp only [List.length_cons] at this; omega, HF6.out, HB6.out, Lib.hid ⟨fun q hq => HQ.out.1 q (by simp [hq]), HQ.out.2.1.trans (by unfold dropNs; rw [List.dropWhile_cons, HK.out]; rfl), HQ.out.2.2.trans (by rw [undoNs, HK.out]; unfold undo1; simp [*])⟩⟩
          case measure => have := HG.out; simp only [List.length_cons] at this; omega
        · obtain ⟨w6, hrun, hns6, hgrow⟩ := NsM.del (w := w5.drew) (show NsM w5.drew m n' F' from HM5.out) p.2.lo (HQ.out.1 p (by simp)).2.2 0
          have hf6 : Fr (fun y => w5.heap.size ≤ y ∨ y = m) w5 w6 := ((Fr.refl _ w5).drewN 1).trans (grown_fr hgrow)
          have HD6 := Lib.hid (HD5.out.other hf6 (fun y hy hlt e => by rcases e with e | e; exact absurd hlt (Nat.not_lt.2 e); exact HMM.out (e ▸ hy)))
          have HM6 := Lib.hid hns6
          have HF6 := Lib.hid (HF5.out.trans (hf6.mono fun y hy => by rcases hy with h | h; exact .inl (HD5.out.1.parts.2.2.1 y h); exact .inr (.inl h)))
          have HB6 := Lib.hid (HB5.out.fr hf6 (fun e => by rcases e with e | e; exact absurd HB5.out.lt (Nat.not_lt.2 e); exact HMNB.out e.symm))
          clear hns6 hgrow hf6
          go_region
          go_wp2_with fail
          go_roundg t.length
          case rel => exact ⟨t, _, stk2, free2, n', _, rfl, HD6.out, HM6.out, by have := HLE.out; simp only [List.length_cons] at this; omega, HF6.out, HB6.out, Lib.hid ⟨fun q hq => HQ.out.1 q (by simp [hq]), HQ.out.2.1.trans (by unfold dropNs; rw [List.dropWhile_cons, HK.out]; rfl), HQ.out.2.2.trans (by rw [undoNs, HK.out]; unfold undo1; simp [*])⟩⟩
          case measure => have := HG.out; simp only [List.length_cons] at this; omega
end Go.Proofs.YtlljphipglgjiaaGreatDoor
