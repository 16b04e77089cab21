/- Frame.Append, Stream.Write. -/
import Derived.Test.YtpegafbcfpedoaaH10
namespace Go.Proofs.Ytpegafbcfpedoaa
open Go.RowKit Go.Maps
set_option linter.unusedVariables false
set_option maxRecDepth 100000

def FAppPost (w0 : World) (base : Nat) (bs : List UInt8) (e : Ending) (w' : World) : Prop :=
  ∃ v', e = .returned (.tuple #[v', .bool true]) ∧ w'.ownsRow base 5 1 v' bs.length (bcells bs) ∧ Below base w0 w'

set_option maxHeartbeats 4000000 in
theorem frame_append (mx : Int) (dat ext : Bool) (mo : Option Nat) (v : Value) (ps : List (Nat × Nat)) (bs : List UInt8) (base : Nat) (w : World) (hm : MapIs w (.map mo) ps) (hrow : w.ownsRow base 5 1 v bs.length (bcells bs)) (hbase : base ≤ w.heap.size)
    (hnm : ∀ b, mo = some b → v.ownBlock ≠ some b)
    (hmx : mx < 4611686018427387904) (hmn : -1 ≤ mx) (ha : Asc ps) (hl : ps.length ≤ 5) (hv : ∀ p ∈ ps, p.1 < 4611686018427387904 ∧ p.2 < 4611686018427387904) (hb : bs.length ≤ 64) :
    Calls Try.prog 17 #[hframeV mx dat ext (.map mo), v] w (FAppPost w base (bs ++ vnEnc 4 ++ vnEnc (setBody mx dat ext ps).length ++ setBody mx dat ext ps)) := by
  obtain ⟨T, hT⟩ : ∃ T, bs ++ vnEnc 4 ++ vnEnc (setBody mx dat ext ps).length ++ setBody mx dat ext ps = T := ⟨_, rfl⟩
  have hk : Wst ((w.alloc (.cells (hcells mx dat ext (.map mo)).toArray 58)).alloc (.cells #[.int .i64 mx, .bool dat, .bool ext, .map mo] 79)) ((w.alloc (.cells (hcells mx dat ext (.map mo)).toArray 58)).alloc (.cells #[.int .i64 mx, .bool dat, .bool ext, .map mo] 79)) (w.heap.size + 1) base [.int .i64 mx, .bool dat, .bool ext, .map mo] (.map mo) ps v bs := {
    p := by
      have := Blk.new (w.alloc (.cells (hcells mx dat ext (.map mo)).toArray 58)) #[.int .i64 mx, .bool dat, .bool ext, .map mo] 79
      rw [show (w.alloc (.cells (hcells mx dat ext (.map mo)).toArray 58)).heap.size = w.heap.size + 1 by simp] at this
      exact this
    m := (hm.below (below_new _ _)).below (below_new _ _)
    row := (hrow.alloc _).alloc _
    np := fun e => by have := (hrow.lt _ e).2; omega
    nm := fun b e => hnm b (by injection e)
    lb := by simp; omega
    bel := Below.refl _ _ }
  have hK := settings_append mx dat ext mo v ps bs (w.heap.size + 1) base _ hk hmx hmn ha hl hv hb
  rw [hT] at hK ⊢
  have hbel : Below base w ((w.alloc (.cells (hcells mx dat ext (.map mo)).toArray 58)).alloc (.cells #[.int .i64 mx, .bool dat, .bool ext, .map mo] 79)) := (((Below.refl w.heap.size w).alloc (Nat.le_refl _) _).alloc (by simp) _).mono hbase
  have HK := hK
  clear hk hT ha hv hm hrow
  go_enter Try.func17, Try.ntmps17
  unfold hframeV hcells
  unfold hcells at HK hbel
  go_wp2_with (go_at_call 21; refine HK.mono ?_; rintro e w9 ⟨v9, rfl, hW9⟩)
  go_ret2
  exact ⟨v9, rfl, hW9.row, hbel.trans hW9.bel⟩

def WrPost (w : World) (S base : Nat) (bs : List UInt8) (e : Ending) (w' : World) : Prop :=
  ∃ v', e = .returned (.tuple #[.int .i64 (bs.length : Int), .nilIface]) ∧ w'.cell? ⟨S, 4, none⟩ = some v' ∧ w'.ownsRow base 5 1 v' bs.length (bcells bs) ∧ w.grownBy w' (some S)

set_option maxHeartbeats 4000000 in
theorem write_at (S B : Nat) (A : Option Addr) (c : Nat) (bs : List UInt8) (w : World) (h8 : w.cell? ⟨S, 8, none⟩ = some (.bool false)) (h5 : w.cell? ⟨S, 5, none⟩ = some (.bool false)) (h4 : w.cell? ⟨S, 4, none⟩ = some (.slice none 0 0)) (z4 : w.frozen? ⟨S, 4, none⟩ = false)
    (hS : S < w.heap.size) (hR : Reads w B 1 A bs.length (bcells bs)) (hb : bs.length ≤ 4096) (hpos : 0 < bs.length) :
    Calls Try.prog 18 #[.pointer (some ⟨S, 0, none⟩), .slice A bs.length c] w (WrPost w S w.heap.size bs) := by
  have hR' := hR.2 hpos
  obtain ⟨ad, rfl, hadB, hcs⟩ := hR'
  have HCS := Lib.hid hcs
  clear hR hcs
  have hown : w.ownsRow w.heap.size 5 1 (.slice none 0 0) 0 [] := ⟨rfl, .inl ⟨rfl, rfl⟩⟩
  obtain ⟨i9, hi9, hy0, hy1, hy2⟩ := info_parts info5
  go_enter Try.func18, Try.ntmps18
  go_wp2_with (first
    | (at_builtin; refine wpList_append_own _ rfl (.tmp 30) (.tmp 31) 22 rfl w.heap.size 5 i9 (.int .u8 0) 1 1 Try.underlying22 hi9 hy0 hy1 hy2 rfl (by decide) _ _ _ rfl hown ad bs.length c (bcells bs) rfl (by rw [bcells_length, Nat.mul_one]) ?c1 ?c2 ?c3 ?c4 ?c5 ?_)
    | fail)
  case c1 => exact HCS.out
  case c2 => exact fun u hu => by obtain ⟨b, _, rfl⟩ := List.mem_map.1 hu; rfl
  case c3 => unfold maxLen; omega
  case c4 => omega
  case c5 => omega
  intro v' w9 hown' hgrow _
  obtain ⟨A9, c9v, rfl⟩ := row_form hown'
  have d4 := (hgrow.cell h4 (by simp [Value.ownBlock]))
  have f4 := (hgrow.frozen_far ⟨S, 4, none⟩ hS (by simp [Value.ownBlock])).trans z4
  go_wp2_with fail
  go_ret2
  refine ⟨_, rfl, World.cell?_setCell_same _ _ _ d4, ?_, (hgrow.but (some S)).trans (grown_set _ _ _ _)⟩
  have := hown'.kept (grown_set w9 S 4 (.slice A9 (0 + bs.length) c9v)) (.inr (fun e => by have := (hown'.lt _ e).1; omega))
  simpa using this
end Go.Proofs.Ytpegafbcfpedoaa
