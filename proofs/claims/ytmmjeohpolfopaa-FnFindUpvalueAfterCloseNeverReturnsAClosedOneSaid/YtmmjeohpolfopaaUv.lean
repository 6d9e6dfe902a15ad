/- What each function on open upvalues answers, and what it leaves of the state. -/
import Derived.Test.YtmmjeohpolfopaaProg
import Derived.Test.YtmmjeohpolfopaaHp
import Derived.Test.YtmmjeohpolfopaaOr
import Derived.Test.YtmmjeohpolfopaaMath
import Derived.Test.YtmmjeohpolfopaaSt
import Derived.WalkKit
import Derived.WalkSpells
import Derived.WalkLawsBesides
import Derived.Lib.Hide
import Derived.Lib.Builder
import Derived.OpenShut
import Derived.Handy
import Derived.LaidEqlPtr
import Derived.Laws.EntriesVeiled
import Derived.Deep.QuietTactic
import Derived.BigQuiet
import Derived.RegionTactic
import Derived.BigRegion
import Derived.Deep.AppendLies
import Derived.Deep.LoopGhost
namespace Go.Proofs.Ytmmjeohpolfopaa
open Go.RowKit Go.ChangeShapes Go.Deep
section
variable {w0 w : World} {L r g N u : Nat} {us ds : Nodes} {nx : Option Nat} {k : Int} {c : Bool}
theorem uv_index (h : ND w u nx r k c) : Calls Try.prog 14 #[.pointer (some ⟨u, 0, none⟩)] w fun e w' => e = .returned (.int .i64 k) ∧ w = w' := by
  have c2 := World.rowIs.cell h (i := 2) (by omega)
  simp [ndF] at c2
  clear h
  go_enter Try.func14, Try.ntmps14
  go_wp2
  go_ret
  exact ⟨rfl, rfl⟩
theorem uv_closed (h : ND w u nx r k c) : Calls Try.prog 15 #[.pointer (some ⟨u, 0, none⟩)] w fun e w' => e = .returned (.bool c) ∧ w = w' := by
  have c2 := World.rowIs.cell h (i := 4) (by omega)
  simp [ndF] at c2
  clear h
  go_enter Try.func15, Try.ntmps15
  go_wp2
  go_ret
  exact ⟨rfl, rfl⟩
theorem uv_next (h : ND w u nx r k c) : Calls Try.prog 23 #[.pointer (some ⟨u, 0, none⟩)] w fun e w' => e = .returned (.pointer (ad nx)) ∧ w = w' := by
  have c2 := World.rowIs.cell h (i := 0) (by omega)
  simp [ndF] at c2
  clear h
  go_enter Try.func23, Try.ntmps23
  go_wp2
  go_ret
  exact ⟨rfl, rfl⟩
theorem uv_first (h : LS w L r nx) : Calls Try.prog 22 #[.pointer (some ⟨L, 0, none⟩)] w fun e w' => e = .returned (.pointer (ad nx)) ∧ w = w' := by
  obtain ⟨f, hf, _, h2⟩ := h
  have c2 := hf.cell (i := 18) (by omega)
  rw [h2] at c2
  clear hf h2
  go_enter Try.func22, Try.ntmps22
  go_wp2
  go_ret
  exact ⟨rfl, rfl⟩
/-- What is read of an open upvalue that points nowhere but to a register that was never set. -/
theorem uv_value (h : ND w u nx r k false) (hr : RGN w r g N) (ha : w.rowIs g 45 N (fun _ => .nilIface)) (_hN : N ≤ 65536) (hk0 : 0 ≤ k) (hkN : k < N) :
    Calls Try.prog 27 #[.pointer (some ⟨u, 0, none⟩)] w fun e w' => e = .returned .nilIface ∧ ∃ m, w' = w.drewN m := by
  obtain ⟨i, rfl⟩ : ∃ i : Nat, k = (i : Int) := ⟨k.toNat, by omega⟩
  have c1 := World.rowIs.cell h (i := 1) (by omega)
  have c2 := World.rowIs.cell h (i := 2) (by omega)
  have c4 := World.rowIs.cell h (i := 4) (by omega)
  simp [ndF] at c1 c2 c4
  obtain ⟨f, h1, h2⟩ := hr
  have d0 := h1.cell (i := 0) (by omega)
  rw [h2] at d0
  have d1 := ha.cell (i := i) (by omega)
  clear h h1 h2 ha
  go_enter Try.func27, Try.ntmps27
  go_wp2
  go_quiet (fail)
  go_wp2
  go_ret
  exact ⟨rfl, _, rfl⟩
theorem uv_close (h : ND w u nx r k false) (hr : RGN w r g N) (ha : w.rowIs g 45 N (fun _ => .nilIface)) (hN : N ≤ 65536) (hk0 : 0 ≤ k) (hkN : k < N) :
    Calls Try.prog 26 #[.pointer (some ⟨u, 0, none⟩)] w fun e w' => e = .returned (.tuple #[]) ∧ ND w' u nx r k true ∧ Fr (fun x => x = u) w w' := by
  have cv := uv_value h hr ha hN hk0 hkN
  have c3 := World.rowIs.cell h (i := 3) (by omega)
  have c4 := World.rowIs.cell h (i := 4) (by omega)
  have f3 := World.rowIs.frozen h 3
  have f4 := World.rowIs.frozen h 4
  simp [ndF] at c3 c4
  have H := Lib.hid h
  clear h hr ha
  go_enter Try.func26, Try.ntmps26
  go_wp2_with fail
  refine cv.mono ?_
  rintro e w' ⟨rfl, m, rfl⟩
  clear cv
  go_wp2
  go_end0
  refine ⟨rfl, (World.rowIs.set (World.rowIs.set (w := w.drewN m) H.out 4 (.bool true)) 3 .nilIface).congr (fun i hi => ?_), ?_⟩
  · match i, hi with
    | 0, _ => rfl
    | 1, _ => rfl
    | 2, _ => rfl
    | 3, _ => rfl
    | 4, _ => rfl
  · exact Fr.setCell (o := fun x => x = u) (Fr.setCell (o := fun x => x = u) (Fr.drewN (Fr.refl _ w) m) (p := ⟨u, 4, none⟩) (.inl rfl) _) (p := ⟨u, 3, none⟩) (.inl rfl) _
/-- The node ahead of place i. -/
def pv (us : Nodes) (i : Nat) : Option Nat := if i = 0 then none else pt us (i - 1)
def Found (w0 w w' : World) (L r g N : Nat) (us ds : Nodes) (k : Int) (e : Ending) : Prop :=
  ∃ u us', e = .returned (.pointer (some ⟨u, 0, none⟩)) ∧ St w0 w' L r g N us' ds ∧ Fr (Wr L us) w w' ∧
    ((w = w' ∧ us' = us ∧ (u, k) ∈ us) ∨ (∃ i, i ≤ us.length ∧ us' = put us i u k ∧ w.heap.size ≤ u ∧ us'.map Prod.snd = ins k (us.map Prod.snd) ∧ ∀ v, (v, k) ∉ us))
theorem found_put {w' : World} (h : St w0 w L r g N us ds) {i : Nat} (hi : i ≤ us.length) (hlt : ∀ (j : Nat) v k', j < i → us[j]? = some (v, k') → k' < k) (hgt : ∀ (j : Nat) v k', i ≤ j → us[j]? = some (v, k') → k < k')
    (hk0 : 0 ≤ k) (hkN : k < N) (hu : w.heap.size ≤ u) (hnew : ND w' u (pt us i) r k false) (o : Nat → Prop) (hf : Fr o w w')
    (ho : (i = 0 ∧ (∀ x, o x → x = L) ∧ LS w' L r (some u)) ∨ (∃ (j : Nat) (v : Nat) (kv : Int), i = j + 1 ∧ us[j]? = some (v, kv) ∧ (∀ x, o x → x = v) ∧ ND w' v (some u) r kv false)) :
    Found w0 w w' L r g N us ds k (.returned (.pointer (some ⟨u, 0, none⟩))) := by
  refine ⟨u, _, rfl, h.ins hi hlt hgt hk0 hkN hu hnew o hf ho, hf.mono (fun x hx => .inl ?_), .inr ⟨i, hi, rfl, hu, put_snd hi hlt hgt, fun v hv => ?_⟩⟩
  · rcases ho with ⟨_, h1, _⟩ | ⟨j, v, kv, _, hj, h1, _⟩
    · exact .inl (h1 x hx)
    · have := h1 x hx
      subst this
      exact .inr ⟨kv, mem_at hj⟩
  · obtain ⟨j, hj⟩ := at_mem hv
    by_cases h1 : j < i
    · have := hlt j v k h1 hj; omega
    · have := hgt j v k (by omega) hj; omega
theorem new_nd (w : World) (p : Addr) (v : Value) (q : Option Nat) (r : Nat) (k : Int) : ND ((w.setCell p v).alloc (.cells #[.pointer (ad q), .pointer (some ⟨r, 0, none⟩), .int .i64 k, .nilIface, .bool false] 47)) w.heap.size q r k false := by
  have h := World.rowIs_alloc (w.setCell p v) #[.pointer (ad q), .pointer (some ⟨r, 0, none⟩), .int .i64 k, .nilIface, .bool false] 47 (ndF q r k false) (fun i hi => by
    simp at hi
    match i, hi with
    | 0, _ => rfl
    | 1, _ => rfl
    | 2, _ => rfl
    | 3, _ => rfl
    | 4, _ => rfl)
  simpa [ND] using h
theorem found_head (h : St w0 w L r g N us ds) (hgt : ∀ (j : Nat) v k', us[j]? = some (v, k') → k < k') (hk0 : 0 ≤ k) (hkN : k < N) {q : Option Nat} (hq : q = pt us 0) {a : Option Addr} (ha : a = ad q) :
    Found w0 w ((w.setCell ⟨L, 18, none⟩ (.pointer (some ⟨w.heap.size, 0, none⟩))).alloc (.cells #[.pointer a, .pointer (some ⟨r, 0, none⟩), .int .i64 k, .nilIface, .bool false] 47)) L r g N us ds k (.returned (.pointer (some ⟨w.heap.size, 0, none⟩))) := by
  subst ha
  subst hq
  refine found_put h (i := 0) (Nat.zero_le _) (fun j v k' hj => by omega) (fun j v k' _ hj => hgt j v k' hj) hk0 hkN (Nat.le_refl _) (new_nd w _ _ _ r k) (fun x => x = L) ((Fr.setCell (o := fun x => x = L) (Fr.refl _ w) (p := ⟨L, 18, none⟩) (.inl rfl) _).alloc _) (.inl ⟨rfl, fun _ hx => hx, ?_⟩)
  obtain ⟨f, hf, f13, f18⟩ := h.ls
  exact ⟨_, (hf.set 18 _).alloc _, by simpa using f13, by simp [ad]⟩
theorem found_mid (h : St w0 w L r g N us ds) {j v : Nat} {kv : Int} (hj : us[j]? = some (v, kv)) (hkv : kv < k) (hgt : ∀ (i : Nat) v k', j < i → us[i]? = some (v, k') → k < k') (hk0 : 0 ≤ k) (hkN : k < N) {q : Option Nat} (hq : q = pt us (j + 1)) {a : Option Addr} (ha : a = ad q) :
    Found w0 w ((w.setCell ⟨v, 0, none⟩ (.pointer (some ⟨w.heap.size, 0, none⟩))).alloc (.cells #[.pointer a, .pointer (some ⟨r, 0, none⟩), .int .i64 k, .nilIface, .bool false] 47)) L r g N us ds k (.returned (.pointer (some ⟨w.heap.size, 0, none⟩))) := by
  subst ha
  subst hq
  have hlt : j < us.length := (List.getElem?_eq_some_iff.1 hj).1
  refine found_put h (i := j + 1) hlt (fun i v' k' hi hi' => ?_) (fun i v k' hi hi' => hgt i v k' (by omega) hi') hk0 hkN (Nat.le_refl _) (new_nd w _ _ _ r k) (fun x => x = v) ((Fr.setCell (o := fun x => x = v) (Fr.refl _ w) (p := ⟨v, 0, none⟩) (.inl rfl) _).alloc _) (.inr ⟨j, v, kv, rfl, hj, fun _ hx => hx, ?_⟩)
  · by_cases e : i = j
    · subst e
      rw [hj] at hi'
      cases hi'
      exact hkv
    · have := asc_at h.asc hi' hj (by omega); omega
  · refine World.rowIs.alloc ((World.rowIs.set (h.nodes j v kv hj) 0 _).congr (fun i hi => ?_)) _
    match i, hi with
    | 0, _ => rfl
    | 1, _ => rfl
    | 2, _ => rfl
    | 3, _ => rfl
    | 4, _ => rfl
set_option maxHeartbeats 2000000 in
theorem uv_find (h : St w0 w L r g N us ds) (hk0 : 0 ≤ k) (hkN : k < N) :
    Calls Try.prog 24 #[.pointer (some ⟨L, 0, none⟩), .int .i64 k] w fun e w' => Found w0 w w' L r g N us ds k e := by
  obtain ⟨f, hf, f13, f18⟩ := h.ls
  have cL := hf.cell (i := 18) (by omega)
  have cR := hf.cell (i := 13) (by omega)
  have fL := hf.frozen 18
  rw [f18] at cL
  rw [f13] at cR
  have lL := hf.lt
  have H := Lib.hid h
  have HF := Lib.hid (And.intro hf (And.intro f13 f18))
  clear hf h f13 f18
  rcases hus : us[0]? with _ | ⟨v0, k0⟩
  · have e0 : us = [] := by cases us <;> simp_all
    subst e0
    rw [pt_none hus] at cL
    simp only [ad, Option.map_none] at cL
    clear hus
    go_enter Try.func24, Try.ntmps24
    go_wp2
    go_ret
    exact found_head H.out (fun j v k' hj => by simp at hj) hk0 hkN (q := none) (by simp [pt]) rfl
  · have cn := H.out.nodes
    rw [pt_some hus] at cL
    simp only [ad, Option.map_some] at cL
    have HU := Lib.hid hus
    have HN := Lib.hid cn
    clear hus cn
    go_enter Try.func24, Try.ntmps24
    go_wp2
    go_loopg [5, 6, 7] us.length (fun gk p x6 q wr => ∃ i, i + gk = us.length ∧ wr = w ∧ x6 = .pointer none ∧ p = .pointer (ad (pv us i)) ∧ q = .pointer (ad (pt us i)) ∧ Hid (∀ (j : Nat) v k', j < i → us[j]? = some (v, k') → k' < k))
    case atStart => exact ⟨0, by omega, rfl, rfl, rfl, by rw [pt_some HU.out]; rfl, Lib.hid (fun j v k' hj => by omega)⟩
    case round =>
      obtain ⟨i, hi, rfl, rfl, rfl, rfl, hlt⟩ := hrel
      have HLT := Lib.hid hlt.out
      clear hlt
      have hgt : ∀ {m : Nat} {vm : Nat} {km : Int}, us[m]? = some (vm, km) → k < km → ∀ (j : Nat) v k', m ≤ j → us[j]? = some (v, k') → k < k' := by
        intro m vm km hm hkm j v k' hj hj'
        by_cases e : j = m
        · subst e; rw [hm] at hj'; cases hj'; exact hkm
        · have := asc_at H.out.asc hm hj' (by omega); omega
      rcases hx : us[i]? with _ | ⟨u, ku⟩
      · have hil : us.length ≤ i := List.getElem?_eq_none_iff.1 hx
        have h0l : 0 < us.length := (List.getElem?_eq_some_iff.1 HU.out).1
        obtain ⟨j, rfl⟩ : ∃ j, i = j + 1 := ⟨i - 1, by omega⟩
        have hjl : j < us.length := by omega
        rcases hj : us[j]? with _ | ⟨v, kv⟩
        · rw [List.getElem?_eq_none_iff] at hj; omega
        have e1 : pt us (j + 1) = none := pt_none hx
        have e2 : pv us (j + 1) = some v := by simp [pv, pt, hj]
        rw [e1, e2]
        have hkv := HLT.out j v kv (by omega) hj
        have hnd := HN.out j v kv hj
        have n0 := World.rowIs.cell hnd (i := 0) (by omega)
        have n1 := World.rowIs.frozen hnd 0
        simp only [ndF, if_true] at n0
        have lv := World.rowIs.lt hnd
        have FM := Lib.hid (found_mid H.out hj hkv (fun i v k' hi hi' => by have := (List.getElem?_eq_some_iff.1 hi').1; omega) hk0 hkN e1.symm rfl)
        clear hx hj e1 e2 hnd hgt
        simp only [ad, Option.map_some, Option.map_none] at n0 ⊢
        go_wp2
        go_ret
        exact FM.out
      · have e1 : pt us i = some u := pt_some hx
        have hnd := HN.out i u ku hx
        have n0 := World.rowIs.cell hnd (i := 0) (by omega)
        have n2 := World.rowIs.cell hnd (i := 2) (by omega)
        simp only [ndF, if_true] at n0
        simp [ndF] at n2
        rcases Int.lt_trichotomy ku k with hlt | heq | hgt'
        · rw [e1]
          have e3 : (ku == k) = false := beq_eq_false_iff_ne.2 (by omega)
          have H3 := Lib.hid (show pv us (i + 1) = some u by simp [pv, e1])
          have H4 : Hid (∀ (j : Nat) v k', j < i + 1 → us[j]? = some (v, k') → k' < k) := Lib.hid (fun j v k' hj hj' => by
            by_cases e : j = i
            · subst e; rw [hx] at hj'; cases hj'; exact hlt
            · exact HLT.out j v k' (by omega) hj')
          have hil : i < us.length := (List.getElem?_eq_some_iff.1 hx).1
          clear hx e1 hnd hgt
          simp only [ad, Option.map_some] at n0 ⊢
          go_wp2
          go_roundg (us.length - (i + 1))
          case measure => omega
          case rel => exact ⟨i + 1, by omega, rfl, rfl, by rw [H3.out]; rfl, rfl, H4⟩
        · subst heq
          rw [e1]
          have e3 : (ku == ku) = true := by simp
          have HX := Lib.hid hx
          clear hx e1 hnd hgt
          simp only [ad, Option.map_some] at n0 ⊢
          go_wp2
          go_ret
          exact ⟨u, us, rfl, H.out, Fr.refl _ _, .inl ⟨rfl, rfl, mem_at HX.out⟩⟩
        · have e3 : (ku == k) = false := beq_eq_false_iff_ne.2 (by omega)
          rcases Nat.eq_zero_or_pos i with h0 | h0
          · subst h0
            have e2 : pv us 0 = none := rfl
            rw [e1, e2]
            have FM := Lib.hid (found_head H.out (fun j v k' hj => hgt hx hgt' j v k' (Nat.zero_le _) hj) hk0 hkN e1.symm rfl)
            clear hx e1 e2 hnd hgt
            simp only [ad, Option.map_some, Option.map_none] at n0 ⊢
            go_wp2
            go_ret
            exact FM.out
          · obtain ⟨j, rfl⟩ : ∃ j, i = j + 1 := ⟨i - 1, by omega⟩
            have hil := (List.getElem?_eq_some_iff.1 hx).1
            rcases hj : us[j]? with _ | ⟨v, kv⟩
            · rw [List.getElem?_eq_none_iff] at hj; omega
            have e2 : pv us (j + 1) = some v := by simp [pv, pt, hj]
            rw [e1, e2]
            have hkv := HLT.out j v kv (by omega) hj
            have hnd' := HN.out j v kv hj
            have m0 := World.rowIs.cell hnd' (i := 0) (by omega)
            have m1 := World.rowIs.frozen hnd' 0
            simp only [ndF, if_true] at m0
            have lv := World.rowIs.lt hnd'
            have FM := Lib.hid (found_mid H.out hj hkv (fun i v k' hi hi' => hgt hx hgt' i v k' (by omega) hi') hk0 hkN e1.symm rfl)
            clear hx hj e1 e2 hnd hnd' hgt
            simp only [ad, Option.map_some] at n0 m0 ⊢
            go_wp2
            go_ret
            exact FM.out
theorem uv_find13 (h : St w0 w L r g N us ds) (hk0 : 0 ≤ k) (hkN : k < N) :
    Calls Try.prog 13 #[.pointer (some ⟨L, 0, none⟩), .int .i64 k] w fun e w' => Found w0 w w' L r g N us ds k e := by
  have c24 := uv_find h hk0 hkN
  clear h
  go_enter Try.func13, Try.ntmps13
  go_wp2_with fail
  refine c24.mono ?_
  rintro e w' hF
  obtain ⟨u, us', rfl, hF⟩ := hF
  have H := Lib.hid hF
  clear hF c24
  go_wp2
  go_ret
  exact ⟨u, us', rfl, H.out⟩
/-! ### Closing from a mark on -/
def Closed (w0 w w' : World) (L r g N : Nat) (us ds : Nodes) (s : Nat) (e : Ending) : Prop :=
  e = .returned (.tuple #[]) ∧ St w0 w' L r g N (us.take s) (ds ++ us.drop s) ∧ Fr (Wr L us) w w'
/-- Where the loop stands: ahead of the mark nothing is written; behind it the cut is made. -/
def CRel (w0 w : World) (L r g N : Nat) (us ds : Nodes) (s i : Nat) (wr : World) : Prop :=
  (i ≤ s ∧ wr = w) ∨ (s < i ∧ St w0 wr L r g N (us.take s) (ds ++ (us.drop s).take (i - s)) ∧ Tail wr us i r ∧ Fr (Wr L us) w wr)
theorem take_snoc' {us : Nodes} {s i v : Nat} {k : Int} (hs : s ≤ i) (h : us[i]? = some (v, k)) : (us.drop s).take (i + 1 - s) = (us.drop s).take (i - s) ++ [(v, k)] := by
  rw [show i + 1 - s = (i - s) + 1 by omega, List.take_add_one, List.getElem?_drop, show s + (i - s) = i by omega, h]
  rfl
theorem tail_fr {o : Nat → Prop} {w' : World} {i : Nat} (h : Tail w us i r) (hf : Fr o w w') (hn : ∀ (j : Nat) v k, i ≤ j → us[j]? = some (v, k) → ¬ o v) : Tail w' us i r :=
  fun j v k hj hj' => (h j v k hj hj').fr hf (hn j v k hj hj')
theorem tail_uniq (ha : Asc (us.map Prod.snd)) {i : Nat} (h : Tail w us i r) {j j' v : Nat} {k k' : Int} (h1 : i ≤ j) (h2 : i ≤ j') (hj : us[j]? = some (v, k)) (hj' : us[j']? = some (v, k')) : j = j' := by
  obtain ⟨e, _⟩ := (h j v k h1 hj).inj (h j' v k' h2 hj')
  subst e
  exact asc_uniq ha hj hj'
/-- One node behind the cut is closed. -/
theorem crel_close {w' : World} {s i v : Nat} (ha : Asc (us.map Prod.snd)) (hs : s ≤ i) (hlu : ∀ v k, (v, k) ∈ us → w0.heap.size ≤ v)
    (h : St w0 w L r g N (us.take s) (ds ++ (us.drop s).take (i - s))) (ht : Tail w us i r) (hi : us[i]? = some (v, k)) (hnd : ND w' v (pt us (i + 1)) r k true) (hf : Fr (fun x => x = v) w w') :
    St w0 w' L r g N (us.take s) (ds ++ (us.drop s).take (i + 1 - s)) ∧ Tail w' us (i + 1) r := by
  refine ⟨?_, tail_fr (fun j v k hj hj' => ht j v k (by omega) hj') hf (fun j v' k' hj hj' hx => ?_)⟩
  · rw [take_snoc' hs hi, ← List.append_assoc]
    refine h.shut (fun k' hm => ?_) (hlu v k (mem_at hi)) hnd ⟨_, ht i v k (Nat.le_refl _) hi⟩ hf
    obtain ⟨nx, hn⟩ := h.node hm
    obtain ⟨j, hj⟩ := at_mem hm
    obtain ⟨h1, h2⟩ := take_at.1 hj
    have e := (hn.inj (ht i v k (Nat.le_refl _) hi)).1
    subst e
    have := asc_uniq ha h2 hi
    omega
  · subst hx
    have := tail_uniq ha ht (Nat.le_refl _) (show i ≤ j by omega) hi hj'
    omega
end
end Go.Proofs.Ytmmjeohpolfopaa
