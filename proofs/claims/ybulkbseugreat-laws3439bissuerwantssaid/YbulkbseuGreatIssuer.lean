import Derived.Test.YbulkbseuGreatWant
namespace Go.Proofs.YbulkbseuGreat.AM
open Go Go.MapKept Go.RowKit Go.MuLone
set_option linter.unusedVariables false

/-- What 'want' leaves: the target's mark is set; the channel holds n; nothing else has turned but the lock's block. -/
structure Issued (w w' : World) (sb cb : Nat) (tgt : Option Nat) (n : Nat) : Prop where
  tg : ∀ b, tgt = some b → Src w' b true
  ch : ChanIs w' cb n
  fr : Fr (fun i => i = sb ∨ tgt = some i ∨ i = cb) w w'

/-- how many the channel holds behind it -/
def woken (tgt : Option Nat) (x : Bool) (n : Nat) : Nat := if tgt.isSome && !x then 1 else n

theorem want_all (sb mb cb n : Nat) (tgt : Option Nat) (x : Bool) (r nm : ByteArray) (L : List ((ByteArray × ByteArray) × Value)) (w : World)
    (c0 : w.cell? ⟨sb, 24, none⟩ = some (.int .i32 0)) (f0 : w.frozen? ⟨sb, 24, none⟩ = false) (c2 : w.cell? ⟨sb, 26, none⟩ = some (.map (some mb)))
    (hch : w.cell? ⟨sb, 27, none⟩ = some (.chan (some cb))) (hcb : ChanIs w cb n) (hn : n ≤ 1)
    (hb : ∀ b, tgt = some b → Src w b x ∧ b ≠ sb)
    (hm : MapAt enc w mb L) (hg : get L (r, nm) = tgt.map fun b => .pointer (some ⟨b, 0, none⟩)) :
    Calls Ybaz.prog 9 #[.pointer (some ⟨sb, 24, none⟩), .agg #[.string r, .string nm]] w fun e w' => e = .returned (.tuple #[]) ∧ Issued w w' sb cb tgt (woken tgt x n) := by
  obtain ⟨buf, s, r0, hc, hs⟩ := hcb
  cases tgt with
  | none =>
    refine (want_none sb mb r nm L w c0 f0 c2 hm hg).mono ?_
    rintro e w' ⟨he, hF⟩
    refine ⟨he, ⟨fun b h => (by cases h), ⟨buf, s, r0, ?_, by simpa [woken] using hs⟩, hF.mono fun i _ h => .inl h⟩⟩
    exact (hF.block cb (Array.getElem?_eq_some_iff.1 hc).1 (fun e => by rw [e] at hc; simp [World.cell?, hc] at c0)).trans hc
  | some b =>
    obtain ⟨h1, h3⟩ := hb b rfl
    refine (want_some sb mb b cb x buf s r0 r nm L w c0 f0 c2 hch hc (by omega) h1 h3 hm hg).mono ?_
    rintro e w' ⟨he, ht, hC, hF⟩
    refine ⟨he, ⟨fun b' h => (by cases h; exact ht), ?_, hF.mono fun i _ h => ?_⟩⟩
    case refine_2 =>
      rcases h with h | h | h
      · exact .inl h
      · exact .inr (.inl (by rw [h]))
      · exact .inr (.inr h)
    have e1 : woken (some b) x n = if x then buf.size else 1 := by
      cases x <;> simp [woken, hs]
    rw [e1]; exact hC

theorem unknown_issuer (sb mb cb ob n : Nat) (tgt : Option Nat) (x : Bool) (r nm : ByteArray) (L : List ((ByteArray × ByteArray) × Value)) (w : World)
    (hz : w.cell? ⟨sb, 21, none⟩ = some (.pointer none)) (o0 : w.cell? ⟨ob, 0, none⟩ = some (.string nm)) (o1 : w.cell? ⟨ob, 1, none⟩ = some (.string r))
    (c0 : w.cell? ⟨sb, 24, none⟩ = some (.int .i32 0)) (f0 : w.frozen? ⟨sb, 24, none⟩ = false) (c2 : w.cell? ⟨sb, 26, none⟩ = some (.map (some mb)))
    (hch : w.cell? ⟨sb, 27, none⟩ = some (.chan (some cb))) (hcb : ChanIs w cb n) (hn : n ≤ 1)
    (hb : ∀ b, tgt = some b → Src w b x ∧ b ≠ sb)
    (hm : MapAt enc w mb L) (hg : get L (r, nm) = tgt.map fun b => .pointer (some ⟨b, 0, none⟩)) :
    Calls Ybaz.prog 5 #[.pointer (some ⟨sb, 0, none⟩), .pointer (some ⟨ob, 0, none⟩)] w fun e w' => e = .returned (.tuple #[]) ∧ Issued w w' sb cb tgt (woken tgt x n) := by
  have hob : ob < w.heap.size := World.block_lt_of_cell? _ _ o0
  have hsb : sb < w.heap.size := World.block_lt_of_cell? _ _ hz
  go_enter Ybaz.func5, Ybaz.ntmps5
  go_wp2_with fail
  go_region
  go_wp2_with fail
  obtain ⟨W1, hW1⟩ : ∃ W1, W1 = (w.alloc (.cells #[.string r, .string nm] 52)).drew := ⟨_, rfl⟩
  rw [← hW1]
  have hF1 : Fr (fun _ => False) w W1 := by rw [hW1]; exact ((Fr.refl _ _).alloc _).drew
  have ka : W1.cell? ⟨w.heap.size, 0, none⟩ = some (.string r) := by rw [hW1]; exact World.cell?_alloc_new _ _ _ _
  have kb : W1.cell? ⟨w.heap.size, 1, none⟩ = some (.string nm) := by rw [hW1]; exact World.cell?_alloc_new _ _ _ _
  have hcall := want_all sb mb cb n tgt x r nm L W1.drew ((hF1.cell (p := ⟨sb, 24, none⟩) hsb (fun h => h)).trans c0) ((hF1.frozen (p := ⟨sb, 24, none⟩) hsb (fun h => h)).trans f0) ((hF1.cell (p := ⟨sb, 26, none⟩) hsb (fun h => h)).trans c2) ((hF1.cell (p := ⟨sb, 27, none⟩) hsb (fun h => h)).trans hch)
    (by obtain ⟨buf, s, r0, hc, hs⟩ := hcb; exact ⟨buf, s, r0, (hF1.block cb (Array.getElem?_eq_some_iff.1 hc).1 (fun h => h)).trans hc, hs⟩) hn
    (fun b h => by obtain ⟨h1, h3⟩ := hb b h; exact ⟨h1.of_heap (hF1.block b h1.lt (fun x => x)), h3⟩)
    (hm.of_heap (hF1.block mb hm.lt (fun h => h))) hg
  have Hcall := Lib.hid hcall
  have HW := Lib.hid (And.intro hW1 hF1)
  clear hcall hW1 hF1 hb hcb hm hg
  go_region_with (go_at_call 9; refine (Hcall.out).mono ?_; rintro e w' ⟨rfl, hw⟩)
  all_goals (go_wp2_with fail)
  all_goals
    go_end0
    exact ⟨rfl, hw.tg, hw.ch, (HW.out.2.drew.mono (fun _ _ h => h.elim)).trans hw.fr (fun _ _ h => h)⟩
end Go.Proofs.YbulkbseuGreat.AM
