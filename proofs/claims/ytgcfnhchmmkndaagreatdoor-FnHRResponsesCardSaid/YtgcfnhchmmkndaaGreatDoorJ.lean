/- the reading of hrAwake's request, joined. -/
import Derived.Test.YtgcfnhchmmkndaaGreatDoorC7
import Derived.Test.YtgcfnhchmmkndaaGreatDoorD3
import Derived.Test.YtgcfnhchmmkndaaGreatDoorE1
import Derived.Test.YtgcfnhchmmkndaaGreatDoorX1
namespace Go.Proofs.YtgcfnhchmmkndaaGreatDoor
open Go.RowKit Go.Maps
set_option maxRecDepth 100000

def vOkF (q : BS × BS) : Bool := fieldOk q.1 q.2
/-- the reading of a list of fields as a request -/
theorem reqOk_of (p : Addr) (l : List (BS × BS)) (vOk : BS × BS → Bool) (hi : ∀ W Bx, PIn W p Bx vOk l) (hI : ∀ s cl, psAll true vOk l = some (s, cl) → RIn (l.length + 1) s)
    (hPU : ∀ s, psFold true vOk {} l = some s → s.cls ≠ [] → ∀ W, Calls Tryz.prog 76 #[str s.cls, .int .i64 10, .int .i64 63] W (CLPost W s.cls)) :
    ReqOk p l (l.length + 2) ((psAll true vOk l).bind fun x => rqOf x.1 x.2) := by
  intro W A c hR hc hE
  have hb := below_new W (.cells #[.slice A l.length c] 66)
  have KH := headers_at true vOk l W.heap.size p (W.alloc (.cells #[.slice A l.length c] 66)) (hi _ _) (Feed.made W A c l hR hc) (hE.cut hb hE.ge) hE.ge (fun s h1 h2 W _ => hPU s h1 h2 W)
  exact reqof_at A c (l.length + 2) l _ W (request_at (.func (.func 67) #[] #[.pointer (some ⟨W.heap.size, 0, none⟩)]) (psAll true vOk l) p (W.alloc (.cells #[.slice A l.length c] 66)) W.heap.size (l.length + 1) (KH.mono fun e w' h => h) (hE.cut hb hE.ge) (by simp) hE.ge hI)
def awS : PS := { path := [47], meth := [71, 69, 84], auth := [104], scheme := [104, 116, 116, 112, 115], H := [(kScheme, []), (kAuth, []), (kPath, []), ([88, 45, 65], [[98]])], reg := true, hasM := true }
theorem aw_fold : psFold true vOkF {} awL = some awS := by kernel_rfl
theorem aw_all : psAll true vOkF awL = some (awS, -1) := by
  unfold psAll
  rw [aw_fold]
  rfl
theorem aw_rq : rqOf awS (-1) = some awQ := by
  have h1 : nameOk awS.meth = true := by decide
  have h2 : hasAt (authOf awS) = false := by decide
  have h3 : (awS.meth == kConnect) = false := by decide
  have h4 : uriOk awS.path = true := by decide
  have h5 : pathOk awS = true := by decide
  have h6 : hasKey awS.H kProto = false := by decide
  have h7 : (authOf awS == []) = false := by decide
  have h8 : (awS.path == []) = false := by decide
  have h9 : authOf awS = awS.auth := by decide
  have h10 : cookH (dropPs awS.H) = [([88, 45, 65], [[98]])] := by decide
  unfold rqOf
  simp only [h1, h3, h4, h5, h6, h8, h9, h10]
  rfl
theorem aw_ok (p : Addr) : ReqOk p awL 7 (some awQ) := by
  have h := reqOk_of p awL vOkF (fun W Bx => ⟨by decide, by decide, fun q hq W hE _ => ?_⟩) (fun s cl hs => ?_) (fun s hs hc => ?_)
  · rw [aw_all] at h
    have e : (some (awS, (-1 : Int))).bind (fun x => rqOf x.1 x.2) = some awQ := aw_rq
    rw [e] at h
    exact h
  · have hall : awL.all (fun q => decide (q.1.length ≤ 100) && decide (q.2.length ≤ 100) && ascii q.1) = true := by decide
    have := List.all_eq_true.1 hall q hq
    simp only [Bool.and_eq_true, decide_eq_true_eq] at this
    exact validate_at q.1 q.2 W (by omega) (by omega) this.2
  · rw [aw_all] at hs
    injection hs with hs
    injection hs with hs _
    subst hs
    exact ⟨by decide, by decide, by decide, by decide, by decide, by decide, by decide, by decide⟩
  · rw [aw_fold] at hs
    injection hs with hs
    subst hs
    exact absurd rfl hc

theorem ErrC.lt {w : World} (h : ErrC w) : 5 ≤ w.heap.size := by
  obtain ⟨_, ⟨e2, h3, _⟩⟩ := h
  have := World.block_lt_of_cell? w ⟨4, 0, none⟩ h3
  exact this
theorem ErrC.cut {w w' : World} (h : ErrC w) (k : Below w.heap.size w w') : ErrC w' := h.below k h.lt
theorem ErrC.grown {w w' : World} {r : Nat} (h : ErrC w) (g : w.grownBy w' (some r)) (hr : 5 ≤ r) : ErrC w' := by
  have hl := h.lt
  obtain ⟨⟨e1, h1, h2⟩, ⟨e2, h3, h4⟩⟩ := h
  exact ⟨⟨e1, (g.cell_far ⟨3, 0, none⟩ (by show 3 < _; omega) (by simp; omega)).trans h1, h2⟩, ⟨e2, (g.cell_far ⟨4, 0, none⟩ (by show 4 < _; omega) (by simp; omega)).trans h3, h4⟩⟩
theorem reqOkG_of (G : World → Prop) (hGE : ∀ W, G W → ErrC W) (p : Addr) (l : List (BS × BS)) (vOk : BS × BS → Bool) (hi : ∀ W o, G W → PIn (W.alloc o) p W.heap.size vOk l) (hI : ∀ s cl, psAll true vOk l = some (s, cl) → RIn (l.length + 1) s)
    (hcl : ∀ s, psFold true vOk {} l = some s → s.cls.length ≤ 1000000) :
    ReqOkG G p l (l.length + 2) ((psAll true vOk l).bind fun x => rqOf x.1 x.2) := by
  intro W A c hR hc hE hG
  have hEr := hGE W hG
  have hb := below_new W (.cells #[.slice A l.length c] 66)
  have KH := headers_at true vOk l W.heap.size p (W.alloc (.cells #[.slice A l.length c] 66)) (hi W _ hG) (Feed.made W A c l hR hc) (hE.cut hb hE.ge) hE.ge (fun s h1 h2 W' hg => by
    have h3 := (hEr.cut hb).grown hg hEr.lt
    exact pu76_at s.cls h2 (hcl s h1) W' h3 h3.lt)
  exact reqof_at A c (l.length + 2) l _ W (request_at (.func (.func 67) #[] #[.pointer (some ⟨W.heap.size, 0, none⟩)]) (psAll true vOk l) p (W.alloc (.cells #[.slice A l.length c] 66)) W.heap.size (l.length + 1) (KH.mono fun e w' h => h) (hE.cut hb hE.ge) (by simp) hE.ge hI)
end Go.Proofs.YtgcfnhchmmkndaaGreatDoor
