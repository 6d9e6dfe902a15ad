/- The flag scanner's makers and small methods, walked. -/
import Derived.Test.YtkmjoliablpmbaaScan
namespace Go.Proofs.Ytkmjoliablpmbaa
open Go.RowKit Go.ChangeShapes Go.Deep
/-- The scanner's state, its buffer's place left open. -/
def SC (w0 w : World) (p : Nat) (fl : UInt8) (st en str : ByteArray) (pos : Nat) (has ch : Bool) (buf : List UInt8) : Prop := ∃ g cap, SX w0 w p fl st en str pos has ch buf g cap
section
variable {w0 w : World} {p : Nat} {fl : UInt8} {st en str : ByteArray} {pos : Nat} {has ch : Bool} {buf : List UInt8}
theorem SC.drewN (h : SC w0 w p fl st en str pos has ch buf) (n : Nat) : SC w0 (w.drewN n) p fl st en str pos has ch buf := by
  obtain ⟨g, cap, h⟩ := h
  exact ⟨g, cap, h.drewN n⟩
theorem SC.setCh (h : SC w0 w p fl st en str pos has ch buf) (b : Bool) : SC w0 (w.setCell ⟨p, 8, none⟩ (.bool b)) p fl st en str pos has b buf := by
  obtain ⟨g, cap, h⟩ := h
  exact ⟨g, cap, h.setCh b⟩
theorem SC.setHas (h : SC w0 w p fl st en str pos has ch buf) (b : Bool) : SC w0 (w.setCell ⟨p, 7, none⟩ (.bool b)) p fl st en str pos b ch buf := by
  obtain ⟨g, cap, h⟩ := h
  exact ⟨g, cap, h.setHas b⟩
theorem SC.setPos (h : SC w0 w p fl st en str pos has ch buf) (q : Nat) : SC w0 (w.setCell ⟨p, 6, none⟩ (.int .i64 q)) p fl st en str q has ch buf := by
  obtain ⟨g, cap, h⟩ := h
  exact ⟨g, cap, h.setPos q⟩
theorem app11 (h : SC w0 w p fl st en str pos has ch buf) (s : ByteArray) (hn : buf.length + s.size ≤ 100000000000000) :
    Calls Try.prog 11 #[.pointer (some ⟨p, 0, none⟩), .string s] w fun e w' => e = .returned (.tuple #[]) ∧ SC w0 w' p fl st en str pos has ch (buf ++ s.data.toList) := by
  obtain ⟨g, cap, h⟩ := h
  have k3 := h.row.cell (i := 3) (by omega)
  have z3 := h.row.frozen 3
  simp only [FX] at k3
  obtain ⟨i0, hi0, hz0, hz1, hz2⟩ := or_parts info5
  have H := Lib.hid h
  have own := h.own
  obtain ⟨n, hN⟩ : ∃ n, buf.length = n := ⟨_, rfl⟩
  rw [hN] at k3 own hn
  have HN := Lib.hid hN
  have hne := h.ne
  clear h hN
  go_enter Try.func11, Try.ntmps11
  go_wp2_with ((at_builtin; refine wpList_app_str _ rfl (.tmp 8) (.tmp 9) 23 9 rfl 5 i0 Try.underlying23 Try.underlying9 hi0 hz0 hz1 hz2 g n cap _ rfl own s rfl (by omega) ?_; intro g1 cap1 w1 own1 gr1 at1; have F : Fr (fun x => x = g) w w1 := Fr.grown (Fr.refl _ _) gr1 (fun k hk => .inl (by injection hk with hk; exact hk.symm)); have r1 := F.row H.out.row (fun e => hne e.symm); have c3 := r1.cell (i := 3) (by omega); have f3 := r1.frozen 3; have e1 : (buf ++ s.data.toList).length = n + s.size := (by rw [List.length_append, HN.out]; rfl); have FIN : Hid (SX w0 (w1.setCell ⟨p, 3, none⟩ (.slice (some ⟨g1, 0, none⟩) (n + s.size) cap1)) p fl st en str pos has ch (buf ++ s.data.toList) g1 cap1) := Lib.hid (by rw [← e1]; exact (H.out.app (more := s.data.toList) gr1 (by rw [List.length_append, bs_app, HN.out]; exact own1) (by rcases at1 with h | h; exact .inl h; right; omega))); clear F r1 own1 gr1 at1 e1))
  go_end0
  exact ⟨rfl, g1, cap1, FIN.out⟩
theorem app12 (h : SC w0 w p fl st en str pos has ch buf) (c : UInt8) (hn : buf.length + 1 ≤ 100000000000000) :
    Calls Try.prog 12 #[.pointer (some ⟨p, 0, none⟩), .int .u8 c.toNat] w fun e w' => e = .returned (.tuple #[]) ∧ SC w0 w' p fl st en str pos has ch (buf ++ [c]) := by
  obtain ⟨g, cap, h⟩ := h
  have k3 := h.row.cell (i := 3) (by omega)
  have z3 := h.row.frozen 3
  simp only [FX] at k3
  obtain ⟨i0, hi0, hz0, hz1, hz2⟩ := or_parts info5
  have H := Lib.hid h
  have own := h.own
  obtain ⟨n, hN⟩ : ∃ n, buf.length = n := ⟨_, rfl⟩
  rw [hN] at k3 own hn
  have HN := Lib.hid hN
  have hne := h.ne
  have hps := h.row.lt
  clear h hN
  go_enter Try.func12, Try.ntmps12
  go_wp2_with ((at_builtin; refine wpList_append_lies _ rfl (.tmp 8) (.tmp 10) 23 rfl 0 5 i0 (.int .u8 0) 1 1 Try.underlying23 hi0 hz0 hz1 hz2 rfl (by decide) _ _ _ rfl (World.ownsRow.alloc own _) ⟨w.heap.size, 0, none⟩ 1 1 [.int .u8 c.toNat] rfl rfl (or_news _ _ _ _ rfl) (by intro u hu; simp at hu; subst hu; rfl) (by omega) (by unfold maxLen; omega) (by omega) (Nat.zero_le _) _ rfl ?_; intro g1 cap1 w1 own1 gr1 at1 lt1; have F : Fr (fun x => x = g) (w.alloc (.cells #[.int .u8 c.toNat] 5)) w1 := Fr.grown (Fr.refl _ _) gr1 (fun k hk => .inl (by injection hk with hk; exact hk.symm)); have H2 : SX w0 (w.alloc (.cells #[.int .u8 c.toNat] 5)) p fl st en str pos has ch buf g cap := ⟨H.out.row.alloc _, World.ownsRow.alloc H.out.own _, H.out.bel.alloc H.out.bel.size _, H.out.lp, H.out.lg⟩; have r1 := F.row H2.row (fun e => hne e.symm); have c3 := r1.cell (i := 3) (by omega); have f3 := r1.frozen 3; have e1 : (buf ++ [c]).length = n + 1 := (by rw [List.length_append, HN.out]; rfl); have FIN : Hid (SX w0 (w1.setCell ⟨p, 3, none⟩ (.slice (some ⟨g1, 0, none⟩) (n + 1) cap1)) p fl st en str pos has ch (buf ++ [c]) g1 cap1) := Lib.hid (by rw [← e1]; exact (H2.app (more := [c]) gr1 (by rw [List.length_append, bs_app, HN.out]; exact own1) (by rcases at1 with h | h; left; injection h with h; exact h.symm; right; rw [h]; exact Nat.le_refl _))); clear F r1 own1 gr1 at1 e1 H2))
  go_end0
  exact ⟨rfl, g1, cap1, FIN.out⟩
theorem str7 (h : SC w0 w p fl st en str pos has ch buf) :
    Calls Try.prog 7 #[.pointer (some ⟨p, 0, none⟩)] w fun e w' => e = .returned (.string ⟨buf.toArray⟩) ∧ w = w' := by
  obtain ⟨g, cap, h⟩ := h
  have k3 := h.row.cell (i := 3) (by omega)
  simp only [FX] at k3
  have hcv := run_convert_bytes_back (P := Try.prog) w 23 9 5 ⟨g, 0, none⟩ cap buf Try.underlying23 Try.underlying5 Try.underlying9 (fun j hj => by
    have := h.own.at_ (i := j) (v := .int .u8 (buf[j].toNat : Int)) hj (by simp [bs, hj])
    simp only [Addr.add]
    split
    · rename_i h0
      subst h0
      exact this
    · simpa using this)
  clear h
  go_enter Try.func7, Try.ntmps7
  go_wp2
  go_ret
  exact ⟨rfl, rfl⟩
end
def NewS (w : World) (fl : UInt8) (st en str : ByteArray) (e : Ending) (w' : World) : Prop := ∃ p, e = .returned (.pointer (some ⟨p, 0, none⟩)) ∧ SC w w' p fl st en str 0 false false []
theorem new10 (w : World) (fl : UInt8) (st en str : ByteArray) (hs : str.size ≤ 100000000) :
    Calls Try.prog 10 #[.int .u8 fl.toNat, .string st, .string en, .string str] w (NewS w fl st en str) := by
  obtain ⟨C, hC, hmk⟩ := or_make (P := Try.prog) 23 5 (.int .u8 0) 1 Try.underlying23 info5 rfl str.size (by omega) (by omega)
  have HC := Lib.hid hC
  clear hC
  go_enter Try.func10, Try.ntmps10
  go_wp2
  go_ret
  refine ⟨w.heap.size + 1, rfl, w.heap.size, str.size, ?_, ?_, ?_, Nat.le_succ _, Nat.le_refl _⟩
  · have := World.rowIs_alloc (w.alloc (.cells C 5)) #[.int .u8 fl.toNat, .string st, .string en, .slice (some ⟨w.heap.size, 0, none⟩) 0 str.size, .string str, .int .i64 str.size, .int .i64 0, .bool false, .bool false] 28 (FX fl st en (.slice (some ⟨w.heap.size, 0, none⟩) 0 str.size) str 0 false false)
      (fun i hi => by simp at hi; match i, hi with | 0, _ | 1, _ | 2, _ | 3, _ | 4, _ | 5, _ | 6, _ | 7, _ | 8, _ => rfl)
    simp only [World.size_alloc] at this
    exact this
  · exact (World.ownsRow_made (base := 0) (size := 1) w C str.size (Nat.zero_le _) (by unfold maxLen; omega) (by rw [HC.out, Nat.mul_one])).alloc _
  · go_grown
end Go.Proofs.Ytkmjoliablpmbaa
