/- What was read, field by field, as the appenders take it. What the texts of reading and writing behind octets import. -/
import Derived.Test.YtjepglidlblmlaaDoorE5
import Derived.Test.YtjepglidlblmlaaDoorC3
import Derived.Test.YtjepglidlblmlaaDoorQ2
import Derived.Test.YtjepglidlblmlaaDoorP1
/-! What was read, field by field, as the appenders take it. -/
set_option linter.unusedVariables false
set_option linter.unusedSimpArgs false
namespace Go.Proofs.YtjepglidlblmlaaDoor.K
open Go
set_option maxHeartbeats 800000

section
variable {tg : Bool} {d : Nat} {wf : WR} {fr to nul tag df of : Int} {sub : List Fd} {cs : List Value} {x : T}
theorem iP {fs : List Fd} {t : T} (h : QPart true d fs wf cs t) : ∃ c1 l u m, cs = c1 ++ [m] ∧ t = .mk 0 [] false l u ∧ QAll (QField true d) wf fs c1 l ∧ TagsR wf.w wf.F m u := by
  obtain ⟨c1, l, u, c2, rfl, rfl, h1, m, rfl, h2⟩ := h
  exact ⟨c1, l, u, m, rfl, rfl, h1, h2⟩
theorem iPf {fs : List Fd} {t : T} (h : QPart false d fs wf cs t) : ∃ l, t = .mk 0 [] false l [] ∧ QAll (QField false d) wf fs cs l := by
  obtain ⟨c1, l, u, c2, rfl, rfl, h1, rfl, rfl⟩ := h
  exact ⟨l, rfl, by rw [List.append_nil]; exact h1⟩
theorem iA {QF : Fd → WR → List Value → T → Prop} {f : Fd} {r : List Fd} {l : List T} (h : QAll QF wf (f :: r) cs l) : ∃ c1 c2 x l2, cs = c1 ++ c2 ∧ l = x :: l2 ∧ QF f wf c1 x ∧ QAll QF wf r c2 l2 := h
theorem iF0 (h : QField tg (d + 1) (.mk 0 fr to nul tag df of sub) wf cs x) : ∃ n : Int, cs = [.bool (decide (n % 2 = 1))] ∧ x = numT n := by
  obtain ⟨b, rfl, rfl⟩ := h
  cases b
  · exact ⟨0, rfl, rfl⟩
  · exact ⟨1, rfl, rfl⟩
theorem iF1 (h : QField tg (d + 1) (.mk 1 fr to nul tag df of sub) wf cs x) : ∃ n : Int, cs = [.int .i8 (IntKind.i8.wrap n)] ∧ x = numT n := by
  obtain ⟨n, hn, rfl, rfl⟩ := h
  have hn : IntKind.i8.wrap n = n := hn
  exact ⟨n, by rw [hn]; rfl, rfl⟩
theorem iF2 (h : QField tg (d + 1) (.mk 2 fr to nul tag df of sub) wf cs x) : ∃ n : Int, cs = [.int .i16 (IntKind.i16.wrap n)] ∧ x = numT n := by
  obtain ⟨n, hn, rfl, rfl⟩ := h
  have hn : IntKind.i16.wrap n = n := hn
  exact ⟨n, by rw [hn]; rfl, rfl⟩
theorem iF3 (h : QField tg (d + 1) (.mk 3 fr to nul tag df of sub) wf cs x) : ∃ n : Int, cs = [.int .i32 (IntKind.i32.wrap n)] ∧ x = numT n := by
  obtain ⟨n, hn, rfl, rfl⟩ := h
  have hn : IntKind.i32.wrap n = n := hn
  exact ⟨n, by rw [hn]; rfl, rfl⟩
theorem iF4 (h : QField tg (d + 1) (.mk 4 fr to nul tag df of sub) wf cs x) : ∃ n : Int, cs = [.int .i64 n] ∧ x = numT n := by
  obtain ⟨n, hn, rfl, rfl⟩ := h
  exact ⟨n, rfl, rfl⟩
theorem iF4w (h : QField tg (d + 1) (.mk 4 fr to nul tag df of sub) wf cs x) : ∃ n : Int, cs = [.int .i64 (IntKind.i64.wrap n)] ∧ x = numT n := by
  obtain ⟨n, hn, rfl, rfl⟩ := h
  have hn : IntKind.i64.wrap n = n := hn
  exact ⟨n, by rw [hn]; rfl, rfl⟩
theorem iF6 (h : QField tg (d + 1) (.mk 6 fr to nul tag df of sub) wf cs x) : ∃ n : Int, cs = [.float .f64 (fb n)] ∧ x = numT n := by
  obtain ⟨n, hn, rfl, rfl⟩ := h
  exact ⟨n, rfl, rfl⟩
theorem iF5 (h : QField tg (d + 1) (.mk 5 fr to nul tag df of sub) wf cs x) : ∃ n : Int, cs = [.int .u16 (IntKind.u16.wrap n)] ∧ x = numT n := by
  obtain ⟨n, hn, rfl, rfl⟩ := h
  have hn : IntKind.u16.wrap n = n := hn
  exact ⟨n, by rw [hn]; rfl, rfl⟩
theorem iF7 (h : QField tg (d + 1) (.mk 7 fr to nul tag df of sub) wf cs x) : ∃ u0 u1 u2 u3 u4 u5 u6 u7 u8 u9 u10 u11 u12 u13 u14 u15, cs = [bcell u0, bcell u1, bcell u2, bcell u3, bcell u4, bcell u5, bcell u6, bcell u7, bcell u8, bcell u9, bcell u10, bcell u11, bcell u12, bcell u13, bcell u14, bcell u15] ∧ x = .mk 0 [u0, u1, u2, u3, u4, u5, u6, u7, u8, u9, u10, u11, u12, u13, u14, u15] false [] [] := by
  obtain ⟨u, hu, rfl, rfl⟩ := h
  match u, hu with
  | [u0, u1, u2, u3, u4, u5, u6, u7, u8, u9, u10, u11, u12, u13, u14, u15], _ => exact ⟨u0, u1, u2, u3, u4, u5, u6, u7, u8, u9, u10, u11, u12, u13, u14, u15, rfl, rfl⟩
theorem iF8 (hn : nul < 0) (h : QField tg (d + 1) (.mk 8 fr to nul tag df of sub) wf cs x) : ∃ u, cs = [str u] ∧ x = .mk 0 u false [] [] := by
  replace h : QV (fun sub wf cs x => QPartW (QField tg d) tg sub wf cs x) 8 sub (decide (0 ≤ nul)) wf cs x := h
  rw [decide_eq_false (by omega)] at h
  exact h
theorem iF8n (hn : 0 ≤ nul) (h : QField tg (d + 1) (.mk 8 fr to nul tag df of sub) wf cs x) : ∃ c, cs = [c] ∧ NTextR wf.w wf.F c x := by
  replace h : QV (fun sub wf cs x => QPartW (QField tg d) tg sub wf cs x) 8 sub (decide (0 ≤ nul)) wf cs x := h
  rw [decide_eq_true hn] at h
  obtain ⟨c, nl, u, rfl, _, rfl, h⟩ := h
  exact ⟨c, rfl, h⟩
theorem iF9 (h : QField tg (d + 1) (.mk 9 fr to nul tag df of sub) wf cs x) : ∃ c, cs = [c] ∧ OctR true wf.w wf.F c x := by
  obtain ⟨c, nl, u, rfl, _, rfl, h⟩ := h
  exact ⟨c, rfl, h⟩
theorem iF11 {sz : Nat} {R : List Value → T → Prop} (hz : elZ tg d of sub = sz) (hR : ∀ c y, elQ tg d of sub wf c y → R c y) (h : QField tg (d + 1) (.mk 11 fr to nul tag df of sub) wf cs x) : ∃ c, cs = [c] ∧ ListR true sz R wf.w wf.F c x := by
  subst hz
  obtain ⟨c, nl, l, rfl, _, rfl, h⟩ := h
  exact ⟨c, rfl, h.mono (fun _ _ h => h) hR⟩
theorem iE8 (c : List Value) (y : T) (h : elQ tg d 8 sub wf c y) : c = [str y.s] := by
  obtain ⟨u, rfl, rfl⟩ := h
  rfl
theorem iE7 (c : List Value) (y : T) (h : elQ tg d 7 sub wf c y) : c = (uuidB y.s).map bcell := by
  obtain ⟨u, hu, rfl, rfl⟩ := h
  have : uuidB u = u := by
    unfold uuidB
    rw [List.take_append_of_le_length (by omega), List.take_of_length_le (by omega)]
  show u.map bcell = (uuidB u).map bcell
  rw [this]
theorem iE4 (c : List Value) (y : T) (h : elQ tg d 4 sub wf c y) : c = [.int .i64 y.n] := by
  obtain ⟨n, hn, rfl, rfl⟩ := h
  rfl
theorem iE3 (c : List Value) (y : T) (h : elQ tg d 3 sub wf c y) : c = [.int .i32 (IntKind.i32.wrap y.n)] := by
  obtain ⟨n, hn, rfl, rfl⟩ := h
  have hn : IntKind.i32.wrap n = n := hn
  show _ = [Value.int .i32 (IntKind.i32.wrap n)]
  rw [hn]
  rfl
theorem iE2 (c : List Value) (y : T) (h : elQ tg d 2 sub wf c y) : c = [.int .i16 (IntKind.i16.wrap y.n)] := by
  obtain ⟨n, hn, rfl, rfl⟩ := h
  have hn : IntKind.i16.wrap n = n := hn
  show _ = [Value.int .i16 (IntKind.i16.wrap n)]
  rw [hn]
  rfl
theorem iE1 (c : List Value) (y : T) (h : elQ tg d 1 sub wf c y) : c = [.int .i8 (IntKind.i8.wrap y.n)] := by
  obtain ⟨n, hn, rfl, rfl⟩ := h
  have hn : IntKind.i8.wrap n = n := hn
  show _ = [Value.int .i8 (IntKind.i8.wrap n)]
  rw [hn]
  rfl
end
end Go.Proofs.YtjepglidlblmlaaDoor.K
/-! What the texts of reading and writing behind octets import. -/
set_option linter.unusedVariables false
namespace Go.Proofs.YtjepglidlblmlaaDoor.K
open Go
end Go.Proofs.YtjepglidlblmlaaDoor.K
