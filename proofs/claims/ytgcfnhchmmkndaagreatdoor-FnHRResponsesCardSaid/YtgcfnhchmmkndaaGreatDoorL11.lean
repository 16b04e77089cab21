/- What the two readings ask of a list that the maker has made, and that they say the same. -/
import Derived.Test.YtgcfnhchmmkndaaGreatDoorL8
import Derived.Test.YtgcfnhchmmkndaaGreatDoorRow2
import Derived.Test.YtgcfnhchmmkndaaGreatDoorJ
namespace Go.Proofs.YtgcfnhchmmkndaaGreatDoor
open Go.RowKit Go.Maps
set_option linter.unusedVariables false
set_option maxRecDepth 100000

/-- what is known of the world beside Env -/
def GW (W : World) : Prop := ErrC W ∧ CaseC W
theorem GW.below {w w' : World} (h : GW w) (k : Below w.heap.size w w') : GW w' := ⟨h.1.cut k, h.2.below k⟩
def rqL (l : List (BS × BS)) : Option RQ := (psAll true vOkQ l).bind fun x => rqOf x.1 x.2
def hqLs (l : List (BS × BS)) : Option HQ := (hrRead true l).bind hqOf
theorem pin_of {l : List (BS × BS)} (hf : ∀ q ∈ l, fldQ q) (hn : l.length ≤ 100) (p : Addr) (W : World) (o : Obj) (hG : GW W) : PIn (W.alloc o) p W.heap.size vOkQ l where
  size := by have := trsize_of hf; omega
  scheme := fun q hq e => (hf q hq).scheme e
  val := fun q hq W' hE hg => validate_fld q (hf q hq) W' (hG.2.grown hg)
theorem reqOk_l {l : List (BS × BS)} (hf : ∀ q ∈ l, fldQ q) (hn : l.length ≤ 100) (p : Addr) : ReqOkG GW p l (l.length + 2) (rqL l) :=
  reqOkG_of GW (fun W h => h.1) p l vOkQ (fun W o hG => pin_of hf hn p W o hG) (fun s cl e => rin_of hf hn e) (fun s e => by have := cls_of hf e; omega)
theorem same_l {l : List (BS × BS)} (h : MkL l) : SameQ (rqL l) (hqLs l) := by
  unfold rqL hqLs
  rcases both_read (req := true) (vOk := vOkQ) l (fun p hp => rfl) with ⟨h1, h2⟩ | ⟨s, cl, x, h1, h2, r⟩
  · rw [h1, h2]
    exact .inl ⟨rfl, rfl⟩
  · rw [h1, h2]
    exact both_requests r (sane_of h.made h2)
theorem hs_l {l : List (BS × BS)} (hf : ∀ q ∈ l, fldQ q) (hn : l.length ≤ 100) : ∀ x, hrRead true l = some x → (getP x.pm kAuth).length ≤ 1048576 ∧ (Lib.join (getH x.hd kCookie) [59, 32]).length ≤ 2147483648 := by
  intro x hx
  rcases both_read (req := true) (vOk := vOkQ) l (fun p hp => rfl) with ⟨h1, h2⟩ | ⟨s, cl, x', h1, h2, r⟩
  · rw [h2] at hx; cases hx
  · rw [h2] at hx
    injection hx with hx
    subst hx
    have h := pb_all hf h1
    refine ⟨by rw [← r.auth]; have := h.auth; omega, ?_⟩
    rw [← r.hd, getH_heads (dropPs_nodup r.nd), getH_dropPs r.nd ⟨by decide, by decide, by decide, by decide⟩]
    have hg : SmallV (l.length + 1) (getH s.H kCookie) := getH_all h.items ⟨by simp, fun v hv => by cases hv⟩ _
    have hj := join_len _ hg.2
    have := hg.1
    omega
theorem items_eq {es es' : List Ent} {m : Nat} (h : absE es = absE es') (hi : ∀ e ∈ es', e.items.length ≤ m) : ∀ e ∈ es, e.items.length ≤ m := fun e he => by
  have hm : (e.key, e.items) ∈ absE es := List.mem_map_of_mem (f := fun e : Ent => (e.key, e.items)) he
  rw [h] at hm
  obtain ⟨e', he', e2⟩ := List.mem_map.1 hm
  have := hi e' he'
  injection e2 with _ e3
  rw [e3] at this
  exact this
end Go.Proofs.YtgcfnhchmmkndaaGreatDoor
