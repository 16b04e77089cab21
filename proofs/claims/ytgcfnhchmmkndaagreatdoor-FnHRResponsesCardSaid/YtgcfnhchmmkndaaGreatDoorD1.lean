/- zzContains of "@". -/
import Derived.Test.YtgcfnhchmmkndaaGreatDoorC8
import Derived.Deep.DeepCutAuto
namespace Go.Proofs.YtgcfnhchmmkndaaGreatDoor
open Go.RowKit Go.Maps
set_option linter.unusedVariables false
set_option maxRecDepth 100000

def hasAt (l : BS) : Bool := l.any fun c => c == 64
theorem slice_one (l : BS) (k : Nat) (h : k < l.length) : (l.take (k + 1)).drop k = [l[k]] := by
  rw [List.take_succ_eq_append_getElem h, List.drop_append_of_le_length (by simp; omega), List.drop_eq_nil_of_le (by simp; omega)]
  rfl

set_option maxHeartbeats 4000000 in
theorem index_at (l : BS) (w : World) (hs : l.length ≤ 2147483648) : Calls Tryz.prog 79 #[str l, .string ⟨#[64]⟩] w fun e w' => (∃ i : Int, e = .returned (.int .i64 i) ∧ decide (i ≥ 0) = hasAt l ∧ -1 ≤ i ∧ i ≤ 2147483648) ∧ w' = w := by
  go_enter Tryz.func79, Tryz.ntmps79
  go_wp2_with fail
  go_loopw [5] (fun s5 wx => ∃ (k : Nat), k ≤ l.length ∧ s5 = .int .i64 (k : Int) ∧ wx = w ∧ hasAt (l.take k) = false) (fun s5 _ => l.length - (intOf s5).toNat)
  case atStart => exact ⟨0, by omega, rfl, rfl, rfl⟩
  case round =>
    obtain ⟨k, hk, rfl, rfl, hno⟩ := hrel
    have HNO := Lib.hid hno
    clear hno
    rcases Nat.lt_or_ge k l.length with hkl | hkl
    · have f0 : decide ((k : Int) + 1 ≤ (l.length : Int)) = true := by simp; omega
      have hsz : (⟨l.toArray⟩ : ByteArray).size = l.length := by show l.toArray.size = _; simp
      have hsl := run_slice_string (P := Tryz.prog) (w := wr) 9 ⟨l.toArray⟩ .i64 .i64 (k : Int) ((k : Int) + 1) Tryz.underlying9 (by omega) (by omega) (by rw [hsz]; omega)
      obtain ⟨c, hc⟩ : ∃ c, l[k] = c := ⟨_, rfl⟩
      have hex : (⟨l.toArray⟩ : ByteArray).extract ((k : Int)).toNat ((k : Int) + 1).toNat = ⟨[c].toArray⟩ := by
        rw [ByteArray.extract_mk, show ((k : Int)).toNat = k by simp, show ((k : Int) + 1).toNat = k + 1 by omega, show k + 1 - k = 1 by omega, List.drop_eq_getElem_cons hkl, hc]
        rfl
      rw [hex] at hsl
      have htk : hasAt (l.take (k + 1)) = (c == 64) := by
        rw [List.take_succ_eq_append_getElem hkl, hc]
        unfold hasAt at *
        rw [List.any_append, HNO.out]
        simp
      have HTK := Lib.hid htk
      have HC := Lib.hid hc
      clear hex htk hc
      cases h64 : (c == 64)
      · have f1 : (([c] : List UInt8) == [64]) = false := by simpa using h64
        have HN := Lib.hid (HTK.out.trans h64)
        go_wp2_with fail
        exact ⟨⟨k + 1, hkl, by go_num, trivial, HN.out⟩, by simp [intOf]; omega⟩
      · have f1 : (([c] : List UInt8) == [64]) = true := by simpa using h64
        have hall : hasAt l = true := by
          unfold hasAt
          rw [List.any_eq_true]
          exact ⟨c, HC.out ▸ List.getElem_mem hkl, h64⟩
        have HA := Lib.hid hall
        clear hall
        go_wp2_with fail
        go_ret
        exact ⟨⟨k, rfl, by rw [HA.out]; simp, by omega, by omega⟩, rfl⟩
    · have e : k = l.length := by omega
      subst e
      have f0 : decide ((l.length : Int) + 1 ≤ (l.length : Int)) = false := by simp; omega
      go_wp2_with fail
      go_ret
      exact ⟨⟨-1, rfl, by have := HNO.out; rw [List.take_length] at this; rw [this]; rfl, by omega, by omega⟩, rfl⟩

theorem contains_at (l : BS) (w : World) (hs : l.length ≤ 2147483648) : Calls Tryz.prog 60 #[str l, .string ⟨#[64]⟩] w fun e w' => e = .returned (.bool (hasAt l)) ∧ w' = w := by
  have K := index_at l w hs
  go_enter Tryz.func60, Tryz.ntmps60
  go_wp2_with (go_at_call 79; refine K.mono ?_; rintro e w2 ⟨⟨i, rfl, h1, h2, h3⟩, rfl⟩)
  go_ret
  exact ⟨by rw [← h1]; rfl, rfl⟩

abbrev kConnect : BS := [67, 79, 78, 78, 69, 67, 84]
abbrev kHost : BS := [72, 111, 115, 116]
abbrev kHttp : BS := [104, 116, 116, 112]
abbrev kHttps : BS := [104, 116, 116, 112, 115]
abbrev kCookie : BS := [67, 111, 111, 107, 105, 101]
abbrev kOptions : BS := [79, 80, 84, 73, 79, 78, 83]
abbrev kProto3 : BS := [72, 84, 84, 80, 47, 51, 46, 48]

structure RQ where
  meth : BS
  uhost : BS
  utarget : BS
  proto : BS
  host : BS
  uri : BS
  len : Int
  H : AL

def dropPs (H : AL) : AL := delH (delH (delH (delH H kPath) kAuth) kScheme) kProto
def isHttp (s : BS) : Bool := s == kHttp || s == kHttps
def authOf (s : PS) : BS := if s.meth != kConnect && !hasKey s.H kAuth && isHttp s.scheme then [] else s.auth
def cookH (H : AL) : AL := if (getH H kCookie).isEmpty then H else putH H kCookie [Lib.join (getH H kCookie) [59, 32]]
def pathOk (s : PS) : Bool := Lib.hasPrefix s.path [47] || (s.meth == kOptions && s.path == [42])
def rqOf (s : PS) (cl : Int) : Option RQ :=
  let conn := s.meth == kConnect
  let ext := conn && s.proto != []
  let auth := authOf s
  if !nameOk s.meth then none
  else if hasAt auth && isHttp s.scheme then none
  else if (if ext then !nameOk s.proto || s.scheme == [] || s.path == [] || auth == [] else if conn then hasKey s.H kScheme || hasKey s.H kPath || auth == [] else s.path == [] || auth == []) then none
  else if !ext && hasKey s.H kProto then none
  else if (!conn || ext) && !pathOk s then none
  else if conn && !ext then some ⟨s.meth, auth, [], kProto3, auth, auth, cl, cookH (dropPs s.H)⟩
  else if !uriOk s.path then none
  else some ⟨s.meth, [], s.path, if ext then s.proto else kProto3, auth, s.path, cl, cookH (dropPs s.H)⟩

structure RSt (w0 wx : World) (Bx hb m n : Nat) (es : List Ent) (s : PS) (cl : Int) (H : AL) : Prop where
  hdr : Hdr wx (w0.heap.size + 3) (w0.heap.size + 1) n es
  abs : absE es = H
  hn : n ≤ m
  items : ∀ e ∈ es, e.items.length ≤ m
  g : w0.grownBy wx (some Bx)
  ge : w0.heap.size + 3 ≤ hb
  lt : hb < wx.heap.size
  cells : ∀ j v, (hcl s cl (.map (some (w0.heap.size + 1))))[j]? = some v → wx.cell? ⟨hb, j, none⟩ = some v
  fz : ∀ j, wx.frozen? ⟨hb, j, none⟩ = false
  off : ∀ e ∈ es, e.val.ownBlock ≠ some hb

section
variable {w0 wx w' : World} {Bx hb m n : Nat} {es : List Ent} {s : PS} {cl : Int} {H : AL}
theorem RSt.below (h : RSt w0 wx Bx hb m n es s cl H) (k : Below wx.heap.size wx w') : RSt w0 w' Bx hb m n es s cl H where
  hdr := h.hdr.below k
  abs := h.abs
  hn := h.hn
  items := h.items
  g := h.g.trans ((grown_below k).but _)
  ge := h.ge
  lt := Nat.lt_of_lt_of_le h.lt k.size
  cells := fun j v hv => (k.cell (p := ⟨hb, j, none⟩) h.lt).trans (h.cells j v hv)
  fz := fun j => (k.frozen (p := ⟨hb, j, none⟩) h.lt).trans (h.fz j)
  off := h.off
theorem RSt.turn {n' m' : Nat} {es' : List Ent} {H' : AL} (h : RSt w0 wx Bx hb m n es s cl H) (hB : Bx < w0.heap.size) (hh : Hdr w' (w0.heap.size + 3) (w0.heap.size + 1) n' es') (ha : absE es' = H') (hn' : n' ≤ m') (hi' : ∀ e ∈ es', e.items.length ≤ m')
    (k : wx.grownBy w' (some (w0.heap.size + 1))) (ho : ∀ e ∈ es', e.val.ownBlock ≠ some hb) : RSt w0 w' Bx hb m' n' es' s cl H' where
  hdr := hh
  abs := ha
  hn := hn'
  items := hi'
  g := ⟨k.os.trans h.g.os, k.tape.trans h.g.tape, k.output.trans h.g.output, Nat.le_trans h.g.size k.size, fun j hj hne => (k.block j (Nat.lt_of_lt_of_le hj h.g.size) (by simp; omega)).trans (h.g.block j hj hne)⟩
  ge := h.ge
  lt := Nat.lt_of_lt_of_le h.lt k.size
  cells := fun j v hv => (k.cell_far ⟨hb, j, none⟩ h.lt (by have := h.ge; simp; omega)).trans (h.cells j v hv)
  fz := fun j => (k.frozen_far ⟨hb, j, none⟩ h.lt (by have := h.ge; simp; omega)).trans (h.fz j)
  off := ho
theorem RSt.set {s' : PS} {i : Nat} {u : Value} (h : RSt w0 wx Bx hb m n es s cl H) (hi : i < 8) (hs : hcl s' cl (.map (some (w0.heap.size + 1))) = (hcl s cl (.map (some (w0.heap.size + 1)))).set i u) : RSt w0 (wx.setCell ⟨hb, i, none⟩ u) Bx hb m n es s' cl H where
  hdr := h.hdr.kept (grown_set wx hb i u) (by have := h.ge; simp; omega) (fun e he => .inr (h.off e he))
  abs := h.abs
  hn := h.hn
  items := h.items
  g := by
    have k := grown_set wx hb i u
    exact ⟨k.os.trans h.g.os, k.tape.trans h.g.tape, k.output.trans h.g.output, Nat.le_trans h.g.size k.size, fun j hj hne => (k.block j (Nat.lt_of_lt_of_le hj h.g.size) (by have := h.ge; simp; omega)).trans (h.g.block j hj hne)⟩
  ge := h.ge
  lt := by simpa using h.lt
  cells := fun j v hv => by
    rw [hs] at hv
    by_cases e : j = i
    · subst e
      obtain ⟨v0, h0⟩ : ∃ v0, (hcl s cl (.map (some (w0.heap.size + 1))))[j]? = some v0 := ⟨_, List.getElem?_eq_getElem (by simpa [hcl] using hi)⟩
      rw [World.cell?_setCell_same _ _ _ (h.cells j v0 h0)]
      rw [List.getElem?_set_self (by simpa [hcl] using hi)] at hv
      exact hv
    · rw [World.cell?_setCell_other _ _ _ _ (by simp)]
      rw [List.getElem?_set_ne (by omega)] at hv
      exact h.cells j v hv
  fz := fun j => by simpa using h.fz j
  off := h.off
end

theorem Hdr.look_any {w : World} {base b n : Nat} {es : List Ent} (h : Hdr w base b n es) (k : BS) (hk : k.length ≤ 2147483648) :
    ∃ v, (Instr.lookup 78 (.map (some b)) (str k) true).run Tryz.prog w = .ok (.tuple #[v, .bool (hasKey (absE es) k)]) w := by
  cases hd : hasKey (absE es) k
  · refine ⟨_, h.look_ok_no k hk ?_⟩
    intro e he e2
    unfold hasKey at hd
    rw [List.any_eq_false] at hd
    exact hd (e.key, e.items) (List.mem_map_of_mem (f := fun e : Ent => (e.key, e.items)) he) (by simpa using e2)
  · unfold hasKey at hd
    obtain ⟨q, hq, hk2⟩ := List.any_eq_true.1 hd
    obtain ⟨e, he, rfl⟩ := List.mem_map.1 hq
    have hk3 : e.key = k := by simpa using hk2
    exact ⟨_, hk3 ▸ h.look_ok e he⟩

theorem wpList_delete_hdr {ops : Array Oper} {rest : List Oper} {o : Oper} {a : Act} {w : World} {Q : Exit → Act → World → Prop} (hgd : o.guard = none) (m x : Operand)
    (hop : o.op = Op.call { callee := Callee.builtin Builtin.delete, args := #[m, x], argTypes := #[78, 9] }) {base b n : Nat} {es : List Ent} (k : BS) (hm : a.eval m = .map (some b)) (hH : Hdr w base b n es) (hx : a.eval x = str k) (hk : k.length ≤ 2147483648)
    (hK : ∀ w', Hdr w' base b n (es.filter fun e => e.key != k) → w.grownBy w' (some b) → wpList Tryz.prog ops Q rest (a.put o.dst (.tuple #[])) w') : wpList Tryz.prog ops Q (o :: rest) a w := by
  refine wpList_plain hgd fun K' hK' => ?_
  obtain ⟨w', hrun, r1, r2⟩ := hH.del k hk o.type
  unfold Oper.wp
  simp [execOp, hop, resolve, invoke, builtin, hm, hx, hrun, Result.andThen]
  exact hK' _ _ (hK w' r1 r2)

def SetPost2 (w : World) (base b n : Nat) (es : List Ent) (k v : BS) (e : Ending) (w' : World) : Prop :=
  ∃ es', e = .returned (.tuple #[]) ∧ Hdr w' base b (n + 1) es' ∧ absE es' = putH (absE es) k [v] ∧ w.grownBy w' (some b) ∧ ∀ e ∈ es', ∀ g, e.val.ownBlock = some g → w.heap.size ≤ g ∨ ∃ e0 ∈ es, e0.val.ownBlock = some g

set_option maxHeartbeats 4000000 in
theorem set_at2 (key value : BS) (base b n : Nat) (es : List Ent) (w : World) (h : Hdr w base b n es) (hk : key.length ≤ 2147483648) (hn : n < 1000000) (hbase : base ≤ w.heap.size) :
    Calls Tryz.prog 61 #[.map (some b), str key, str value] w (SetPost2 w base b n es (canonL key) value) := by
  have KC := canon_at' key w hk
  have HH := Lib.hid h
  clear h
  go_enter Tryz.func61, Tryz.ntmps61
  go_wp2_with fail
  refine KC.mono ?_
  rintro e w1 ⟨rfl, hb1⟩
  have HH1 := HH.out.below hb1
  have hs1 := hb1.size
  have g := World.grownBy_alloc w1 (.cells #[str value] 9) none
  obtain ⟨w2, hrun2, hH2, hg2⟩ := HH1.put g (by simp) ⟨canonL key, .slice (some ⟨w1.heap.size, 0, none⟩) 1 1, [value]⟩ (fun e _ _ => by cases hv : e.val.ownBlock <;> simp) (row_one w1 value base (by omega)) (.inr (.inr ⟨w1.heap.size, rfl, Nat.le_refl _⟩)) (by rw [canonL_len]; exact hk) hn
  have HP : Hid (SetPost2 w base b n es (canonL key) value (.returned (.tuple #[])) w2) := Lib.hid ⟨_, rfl, hH2, absE_put _ _, (((grown_below hb1).but _).trans (World.grownBy_alloc w1 _ _)).trans hg2, fun e he g hg => by
    rcases putEnt_mem he with rfl | ⟨he, _⟩
    · injection hg with hg
      left
      simp at hg
      omega
    · exact .inr ⟨e, he, hg⟩⟩
  simp only at hrun2
  clear hH2 hg2 g HH1 HH KC hb1
  go_wp2_with fail
  go_end0
  exact HP.out

def HPostR (w : World) (Bx m : Nat) (r : Option (PS × Int)) (e : Ending) (w' : World) : Prop :=
  ∃ v ev, e = .returned (.tuple #[v, ev]) ∧ w.grownBy w' (some Bx) ∧ ErrV r.isSome ev ∧
    (∀ s cl, r = some (s, cl) → ∃ n es, v = .agg (hcl s cl (.map (some (w.heap.size + 1)))).toArray ∧ Hdr w' (w.heap.size + 3) (w.heap.size + 1) n es ∧ absE es = s.H ∧ n ≤ m ∧ (∀ e ∈ es, e.items.length ≤ m) ∧ w.heap.size + 3 ≤ w'.heap.size) ∧
    (r = none → v = .agg (hcl {} 0 (.map none)).toArray)

/-- a request in memory -/
structure ReqAt (w : World) (rb ub b n base m : Nat) (es : List Ent) (q : RQ) : Prop where
  cells : ∀ j v, [str q.meth, .pointer (some ⟨ub, 0, none⟩), str q.proto, .int .i64 3, .int .i64 0, .map (some b), .nilIface, .int .i64 q.len, str q.host, .map none, str q.uri][j]? = some v → w.cell? ⟨rb, j, none⟩ = some v
  url : ∀ j v, [str [], str q.uhost, str q.utarget][j]? = some v → w.cell? ⟨ub, j, none⟩ = some v
  hdr : Hdr w base b n es
  abs : absE es = q.H
  hn : n ≤ m
  items : ∀ e ∈ es, e.items.length ≤ m

def RQPost (w : World) (Bx m : Nat) (r : Option RQ) (e : Ending) (w' : World) : Prop :=
  ∃ v ev, e = .returned (.tuple #[v, ev]) ∧ w.grownBy w' (some Bx) ∧ ErrV r.isSome ev ∧
    (∀ q, r = some q → ∃ rb ub n es, v = .pointer (some ⟨rb, 0, none⟩) ∧ ReqAt w' rb ub (w.heap.size + 1) n (w.heap.size + 3) m es q) ∧ (r = none → v = .pointer none)

structure RIn (m : Nat) (s : PS) : Prop where
  host : hasKey s.H kHost = false
  trailer : hasKey s.H kTrailer = false
  meth : s.meth.length ≤ 2147483648
  auth : s.auth.length ≤ 2147483648
  path : s.path.length ≤ 2147483648
  proto : s.proto.length ≤ 2147483648
  join : (Lib.join (getH s.H kCookie) [59, 32]).length ≤ 2147483648
  m : m ≤ 900000

theorem keys_del {H : AL} {k k2 : BS} (h : hasKey H k = false) : hasKey (delH H k2) k = false := by
  unfold hasKey delH at *
  rw [List.any_eq_false] at *
  intro p hp
  exact h p (List.mem_filter.1 hp).1
theorem keys_put {H : AL} {k k2 : BS} {vs : List BS} (h : hasKey H k = false) (hne : k2 ≠ k) : hasKey (putH H k2 vs) k = false := by
  unfold hasKey putH at *
  rw [List.any_eq_false] at *
  intro p hp
  split at hp
  · obtain ⟨q, hq, rfl⟩ := List.mem_map.1 hp
    split
    · simpa using hne
    · exact h q hq
  · rcases List.mem_append.1 hp with hp | hp
    · exact h p hp
    · rw [List.mem_singleton.1 hp]; simpa using hne
theorem keys_ent {es : List Ent} {H : AL} {k : BS} (ha : absE es = H) (h : hasKey H k = false) : ∀ e ∈ es, e.key ≠ k := by
  intro e he e2
  unfold hasKey at h
  rw [List.any_eq_false] at h
  refine h (e.key, e.items) ?_ (by simpa using e2)
  rw [← ha]
  exact List.mem_map_of_mem (f := fun e : Ent => (e.key, e.items)) he
def delE (es : List Ent) (k : BS) : List Ent := es.filter fun e => e.key != k
theorem wpList_delete_hdr2 {ops : Array Oper} {rest : List Oper} {o : Oper} {a : Act} {w : World} {Q : Exit → Act → World → Prop} (hgd : o.guard = none) (m x : Operand)
    (hop : o.op = Op.call { callee := Callee.builtin Builtin.delete, args := #[m, x], argTypes := #[78, 9] }) {base b n : Nat} {es : List Ent} (k : BS) (hm : a.eval m = .map (some b)) (hH : Hdr w base b n es) (hx : a.eval x = str k) (hk : k.length ≤ 2147483648)
    (hK : ∀ w', Hdr w' base b n (delE es k) → w.grownBy w' (some b) → wpList Tryz.prog ops Q rest (a.put o.dst (.tuple #[])) w') : wpList Tryz.prog ops Q (o :: rest) a w :=
  wpList_delete_hdr hgd m x hop k hm hH hx hk hK
theorem RSt.del {w0 wx w' : World} {Bx hb m n : Nat} {es : List Ent} {s : PS} {cl : Int} {H : AL} (h : RSt w0 wx Bx hb m n es s cl H) (hB : Bx < w0.heap.size) (k : BS) (hh : Hdr w' (w0.heap.size + 3) (w0.heap.size + 1) n (delE es k)) (g : wx.grownBy w' (some (w0.heap.size + 1))) :
    RSt w0 w' Bx hb m n (delE es k) s cl (delH H k) :=
  h.turn hB hh (by unfold delE; rw [absE_del, h.abs]) h.hn (fun e he => h.items e (List.mem_filter.1 he).1) g (fun e he => h.off e (List.mem_filter.1 he).1)
theorem RSt.start {w0 w1 : World} {Bx m n : Nat} {es : List Ent} {s : PS} {cl : Int} (g : w0.grownBy w1 (some Bx)) (hh : Hdr w1 (w0.heap.size + 3) (w0.heap.size + 1) n es) (ha : absE es = s.H) (hn : n ≤ m) (hi : ∀ e ∈ es, e.items.length ≤ m) (hz : w0.heap.size + 3 ≤ w1.heap.size) :
    RSt w0 (w1.alloc (.cells #[str s.path, str s.meth, str s.auth, str s.scheme, str s.status, str s.proto, .int .i64 cl, .map (some (w0.heap.size + 1))] 115)) Bx w1.heap.size m n es s cl s.H where
  hdr := hh.below (below_new w1 _)
  abs := ha
  hn := hn
  items := hi
  g := g.trans (World.grownBy_alloc w1 _ _)
  ge := hz
  lt := by simp
  cells := fun j v hv => by
    have h := cells_new w1 (hcl s cl (.map (some (w0.heap.size + 1)))) 115 j v hv
    rwa [Addr.add_lit, Nat.zero_add] at h
  fz := fun j => World.frozen?_alloc_at _ _ _ _ rfl
  off := fun e he e2 => by have := (hh.above e he _ e2).2; omega

theorem RSt.fail {w0 wx : World} {Bx hb m m' n : Nat} {es : List Ent} {s s0 : PS} {cl cl0 : Int} {H : AL} (h : RSt w0 wx Bx hb m n es s cl H) (hn : rqOf s0 cl0 = none) (q : Addr) : RQPost w0 Bx m' (rqOf s0 cl0) (.returned (.tuple #[.pointer none, .iface 136 (.pointer (some q))])) wx :=
  ⟨_, _, rfl, h.g, by rw [hn]; exact ⟨q, rfl⟩, (fun q hq => by rw [hn] at hq; cases hq), fun _ => rfl⟩
theorem nameOk_ne {l : BS} (h : nameOk l = true) : (l == []) = false := by
  cases l with
  | nil => simp [nameOk] at h
  | cons a t => rfl

theorem join_at (bk o c : Nat) (l : List BS) (w : World) (hg : ∀ j, (hj : j < l.length) → w.cell? ⟨bk, o + j, none⟩ = some (str l[j])) (hbk : bk < w.heap.size) (hN : l.length ≤ 900000) (hcap : l.length ≤ c) (hlen : (Lib.join l [59, 32]).length ≤ 2147483648) :
    Calls Tryz.prog 62 #[.slice (some ⟨bk, o, none⟩) l.length c, .string ⟨#[59, 32]⟩] w fun e w' => e = .returned (str (Lib.join l [59, 32])) ∧ Below w.heap.size w w' := by
  have e1 : (l.map fun s => (⟨s.toArray⟩ : ByteArray)).map (·.data.toList) = l := by
    rw [List.map_map]
    conv => rhs; rw [← List.map_id l]
    rfl
  have h := Tryz.strings_Join bk o c (l.map fun s => (⟨s.toArray⟩ : ByteArray)) ⟨#[59, 32]⟩ w (fun j x hx => by
    rw [List.getElem?_map] at hx
    obtain ⟨y, hy, rfl⟩ := Option.map_eq_some_iff.1 hx
    obtain ⟨hj, rfl⟩ := List.getElem?_eq_some_iff.1 hy
    exact hg j hj) hbk (by rw [List.length_map]; omega) (by rw [List.length_map]; exact hcap) (by rw [e1]; exact Nat.le_trans hlen (by omega))
  rw [e1, List.length_map] at h
  exact h
theorem getH_del (H : AL) (k k2 : BS) (hne : k2 ≠ k) : getH (delH H k2) k = getH H k := by
  unfold getH delH
  rw [List.find?_filter]
  congr 2
  congr 1
  funext p
  by_cases h : p.1 = k
  · subst h
    simp [hne.symm]
  · simp [h]
def cc3 (s : PS) (au : BS) (conn ext hs hp : Bool) : Bool := if ext then !nameOk s.proto || s.scheme == [] || s.path == [] || au == [] else if conn then hs || hp || au == [] else s.path == [] || au == []
theorem rqOf_eq (s : PS) (cl : Int) (au : BS) (conn hs hp hpr : Bool) (hA : authOf s = au) (hc : (s.meth == [67, 79, 78, 78, 69, 67, 84]) = conn) (hk : hasKey s.H kScheme = hs) (hk2 : hasKey s.H kPath = hp) (hk3 : hasKey s.H kProto = hpr) (hnk : nameOk s.meth = true) (H1 : AL) (hH : dropPs s.H = H1) :
    rqOf s cl = if hasAt au && isHttp s.scheme then none else if cc3 s au conn (conn && s.proto != []) hs hp then none else if !(conn && s.proto != []) && hpr then none else if (!conn || (conn && s.proto != [])) && !pathOk s then none
      else if conn && !(conn && s.proto != []) then some ⟨s.meth, au, [], kProto3, au, au, cl, cookH H1⟩ else if !uriOk s.path then none else some ⟨s.meth, [], s.path, if (conn && s.proto != []) then s.proto else kProto3, au, s.path, cl, cookH H1⟩ := by
  unfold rqOf cc3
  subst hA hc hk hk2 hk3 hH
  simp only [hnk, Bool.not_true, Bool.false_eq_true, if_false]
theorem and_fst {a b : Bool} (h : (a && b) = true) : a = true := by
  cases a
  · exact h
  · rfl
theorem Hdr.slot2 {w : World} {base b n : Nat} {es : List Ent} (h : Hdr w base b n es) (k : BS) (hk : k.length ≤ 2147483648) :
    ∃ A c items, (Instr.lookup 78 (.map (some b)) (str k) false).run Tryz.prog w = .ok (.slice A items.length c) w ∧ (Instr.lookup 78 (.map (some b)) (str k) false).run Tryz.prog w.drew = .ok (.slice A items.length c) w.drew ∧ Slot w base b es k (.slice A items.length c) items := by
  obtain ⟨A, c, items, h1, h2⟩ := h.slot k hk
  refine ⟨A, c, items, h1, ?_, h2⟩
  by_cases hx : ∃ e ∈ es, e.key = k
  · obtain ⟨e, he, rfl⟩ := hx
    have h3 := h.look e he
    rw [h1] at h3
    injection h3 with h3
    rw [h3]
    exact h.drew.look e he
  · have hx' : ∀ e ∈ es, e.key ≠ k := fun e he e2 => hx ⟨e, he, e2⟩
    have h3 := h.look_no k hk hx'
    rw [h1] at h3
    injection h3 with h3
    rw [h3]
    exact h.drew.look_no k hk hx'
theorem RSt.drew {w0 wx : World} {Bx hb m n : Nat} {es : List Ent} {s : PS} {cl : Int} {H : AL} (h : RSt w0 wx Bx hb m n es s cl H) : RSt w0 wx.drew Bx hb m n es s cl H :=
  ⟨h.hdr.drew, h.abs, h.hn, h.items, ⟨h.g.os, h.g.tape, h.g.output, h.g.size, h.g.block⟩, h.ge, h.lt, h.cells, h.fz, h.off⟩
theorem RSt.weak {w0 wx : World} {Bx hb m m' n : Nat} {es : List Ent} {s : PS} {cl : Int} {H : AL} (h : RSt w0 wx Bx hb m n es s cl H) (hm : m ≤ m') : RSt w0 wx Bx hb m' n es s cl H :=
  ⟨h.hdr, h.abs, Nat.le_trans h.hn hm, fun e he => Nat.le_trans (h.items e he) hm, h.g, h.ge, h.lt, h.cells, h.fz, h.off⟩
theorem absE_items' {es es' : List Ent} {m : Nat} {k : BS} {vs : List BS} (h : ∀ e ∈ es, e.items.length ≤ m) (hv : vs.length ≤ m) (ha : absE es' = putH (absE es) k vs) : ∀ e ∈ es', e.items.length ≤ m := fun e he => by
  have hm : (e.key, e.items) ∈ absE es' := List.mem_map_of_mem (f := fun e : Ent => (e.key, e.items)) he
  rw [ha] at hm
  refine putH_items (m := m) (fun q hq => ?_) hv _ hm
  obtain ⟨e2, he2, rfl⟩ := List.mem_map.1 hq
  exact h e2 he2
/-- the store of one value -/
theorem RSt.cook {w0 wx w1 w2 : World} {Bx hb m n : Nat} {es : List Ent} {s : PS} {cl : Int} {H : AL} {k v : BS} {e : Ending} (h : RSt w0 wx Bx hb m n es s cl H) (hB : Bx < w0.heap.size) (hb1 : Below wx.heap.size wx w1)
    (P : SetPost2 w1 (w0.heap.size + 3) (w0.heap.size + 1) n es k v e w2) (hk : canonL k = k) : e = .returned (.tuple #[]) ∧ ∃ es', RSt w0 w2 Bx hb (m + 1) (n + 1) es' s cl (putH H k [v]) := by
  obtain ⟨es', rfl, hH, ha, hg, ho⟩ := P
  refine ⟨rfl, es', h.turn (m' := m + 1) hB hH (by rw [ha, h.abs]) (Nat.succ_le_succ h.hn) (absE_items' (fun e he => Nat.le_succ_of_le (h.items e he)) (by simp) ha) (((grown_below hb1).but _).trans hg) fun e he e2 => ?_⟩
  rcases ho e he hb e2 with h1 | ⟨e0, h0, h1⟩
  · have := h.lt; have := hb1.size; omega
  · exact h.off e0 h0 h1
theorem has_put {H : AL} {k k2 : BS} {vs : List BS} (h : hasKey H k = false) (hne : k2 ≠ k) : hasKey (putH H k2 vs) k = false := keys_put h hne
theorem cook_has {H : AL} {k : BS} (h : hasKey H k = false) (hne : kCookie ≠ k) : hasKey (cookH H) k = false := by
  unfold cookH
  split
  · exact h
  · exact keys_put h hne
/-- what the three ways of an address leave -/
def UrlRel (w0 wx : World) (Bx hb m : Nat) (s s' : PS) (cl : Int) (au : BS) (H : AL) (s23 s24 s25 : Value) : Prop :=
  ∃ (ub n : Nat) (es : List Ent) (q : RQ), s23 = .pointer (some ⟨ub, 0, none⟩) ∧ s24 = str q.uri ∧ s25 = str q.proto ∧ rqOf s cl = some q ∧ q.meth = s.meth ∧ q.host = au ∧ q.len = cl ∧ q.H = H ∧ RSt w0 wx Bx hb m n es s' cl H ∧
    (∀ j v, [str [], str q.uhost, str q.utarget][j]? = some v → wx.cell? ⟨ub, j, none⟩ = some v) ∧ ub < wx.heap.size
theorem url_new (w : World) (h t : BS) : ∀ j v, [str [], str h, str t][j]? = some v → (w.alloc (.cells #[str [], str h, str t] 108)).cell? ⟨w.heap.size, j, none⟩ = some v := fun j v hv => by
  have h := cells_new w [str [], str h, str t] 108 j v hv
  rwa [Addr.add_lit, Nat.zero_add] at h
theorem url_keep {w w' : World} {ub : Nat} {h t : BS} (k : Below w.heap.size w w') (hu : ub < w.heap.size) (H : ∀ j v, [str [], str h, str t][j]? = some v → w.cell? ⟨ub, j, none⟩ = some v) : ∀ j v, [str [], str h, str t][j]? = some v → w'.cell? ⟨ub, j, none⟩ = some v := fun j v hv =>
  (k.cell (p := ⟨ub, j, none⟩) hu).trans (H j v hv)
theorem UrlRel.done {w0 wx : World} {Bx hb m n ub : Nat} {es : List Ent} {s s' : PS} {cl : Int} {au : BS} {H : AL} {q : RQ} (hq : rqOf s cl = some q) (q1 : q.meth = s.meth) (q2 : q.host = au) (q3 : q.len = cl) (q4 : q.H = H) (h : RSt w0 wx Bx hb m n es s' cl H)
    (hu : ∀ j v, [str [], str q.uhost, str q.utarget][j]? = some v → wx.cell? ⟨ub, j, none⟩ = some v) (hl : ub < wx.heap.size) :
    RQPost w0 Bx m (rqOf s cl) (.returned (.tuple #[.pointer (some ⟨wx.heap.size, 0, none⟩), .nilIface])) (wx.alloc (.cells #[str s.meth, .pointer (some ⟨ub, 0, none⟩), str q.proto, .int .i64 3, .int .i64 0, .map (some (w0.heap.size + 1)), .nilIface, .int .i64 cl, str au, .map none, str q.uri] 106)) := by
  subst q2 q3 q4
  have hb := below_new wx (.cells #[str s.meth, .pointer (some ⟨ub, 0, none⟩), str q.proto, .int .i64 3, .int .i64 0, .map (some (w0.heap.size + 1)), .nilIface, .int .i64 q.len, str q.host, .map none, str q.uri] 106)
  have R := h.below hb
  refine ⟨_, _, rfl, R.g, by rw [hq]; rfl, fun q' hq' => ?_, fun hn => by rw [hq] at hn; cases hn⟩
  rw [hq] at hq'
  injection hq' with hq'
  subst hq'
  refine ⟨wx.heap.size, ub, n, es, rfl, fun j v hv => ?_, url_keep hb hl hu, R.hdr, R.abs, R.hn, R.items⟩
  rw [q1] at hv
  have h := cells_new wx [str s.meth, .pointer (some ⟨ub, 0, none⟩), str q.proto, .int .i64 3, .int .i64 0, .map (some (w0.heap.size + 1)), .nilIface, .int .i64 q.len, str q.host, .map none, str q.uri] 106 j v hv
  rwa [Addr.add_lit, Nat.zero_add] at h
end Go.Proofs.YtgcfnhchmmkndaaGreatDoor
