import Derived.Test.Qxb6605612aWindowPos
namespace Go.Proofs.Qxb6605612a
open Go.RowKit

/-- What Counts.in answers. -/
def cin (L C P i lim : Int) : Int := if C = 0 ∨ L < i then 0 else if i = L then C else if i = wrap64 (L - 1) then P else lim

structure Cnt where
  l : Int
  c : Int
  p : Int

@[reducible] def Cnt.val (k : Cnt) : Value := .agg #[.int .i64 k.l, .int .i64 k.c, .int .i64 k.p]

/-- What Counts.add answers. -/
def cadd (k : Cnt) (i n : Int) : Cnt :=
  if n = 0 then k
  else if k.c = 0 ∨ k.l < i then ⟨i, n, cin k.l k.c k.p (wrap64 (i - 1)) 0⟩
  else if i = k.l then ⟨k.l, wrap64 (k.c + n), k.p⟩
  else ⟨k.l, k.c, wrap64 (k.p + n)⟩

def InOut (L C P i lim : Int) (w : World) (e : Ending) (w' : World) : Prop :=
  e = .returned (.int .i64 (cin L C P i lim)) ∧ w.alloc (.cells #[.int .i64 L, .int .i64 C, .int .i64 P] 34) = w'

theorem in24 (L C P i lim : Int) (w : World) :
    Calls Try.prog 24 #[.agg #[.int .i64 L, .int .i64 C, .int .i64 P], .int .i64 i, .int .i64 lim] w (InOut L C P i lim w) := by
  by_cases hc : C = 0
  · subst hc
    have hr : cin L 0 P i lim = 0 := by simp [cin]
    go_enter Try.func24, Try.ntmps24
    go_wp2_with fail
    go_ret
    exact ⟨by rw [hr]; rfl, rfl⟩
  · have hcb : (C == 0) = false := by simpa using hc
    by_cases hl : L < i
    · have hr : cin L C P i lim = 0 := by simp [cin, hl]
      go_enter Try.func24, Try.ntmps24
      go_wp2_with fail
      go_ret
      exact ⟨by rw [hr]; rfl, rfl⟩
    · have hlb : decide (L < i) = false := by simpa using hl
      by_cases he : i = L
      · have hr : cin L C P i lim = C := by simp [cin, hc, he]
        have heb : (i == L) = true := by simpa using he
        subst he
        go_enter Try.func24, Try.ntmps24
        go_wp2_with fail
        go_ret
        exact ⟨by rw [hr]; rfl, rfl⟩
      · have heb : (i == L) = false := by simpa using he
        by_cases hp : i = wrap64 (L - 1)
        · have hr : cin L C P i lim = P := by simp only [cin, hl, hc, or_self, if_false, if_neg he, if_pos hp]
          have hpb : (i == wrap64 (L - 1)) = true := by simpa using hp
          clear hp
          go_enter Try.func24, Try.ntmps24
          go_wp2_with fail
          go_ret
          exact ⟨by rw [hr]; rfl, rfl⟩
        · have hr : cin L C P i lim = lim := by simp only [cin, hl, hc, or_self, if_false, if_neg he, if_neg hp]
          have hpb : (i == wrap64 (L - 1)) = false := by simpa using hp
          go_enter Try.func24, Try.ntmps24
          go_wp2_with fail
          go_ret
          exact ⟨by rw [hr]; rfl, rfl⟩

def AddOut (k : Cnt) (w : World) (e : Ending) (w' : World) : Prop := e = .returned k.val ∧ Below w.heap.size w w'

theorem add25 (L C P i n : Int) (w : World) :
    Calls Try.prog 25 #[.agg #[.int .i64 L, .int .i64 C, .int .i64 P], .int .i64 i, .int .i64 n] w (AddOut (cadd ⟨L, C, P⟩ i n) w) := by
  by_cases hn : n = 0
  · subst hn
    have hr : cadd ⟨L, C, P⟩ i 0 = ⟨L, C, P⟩ := by simp [cadd]
    rw [hr]
    go_enter Try.func25, Try.ntmps25
    go_wp2_with fail
    exact bodyPost_ret (v := .agg #[.int .i64 L, .int .i64 C, .int .i64 P]) (by simp [results, Try.results25, go_sem]) rfl ⟨rfl, by repeat (first | exact (Below.refl _ _) | apply Below.setCell | apply Below.alloc | simp | omega)⟩
  · have hnb : (n == 0) = false := by simpa using hn
    by_cases hc : C = 0
    · subst hc
      have hr : cadd ⟨L, 0, P⟩ i n = ⟨i, n, cin L 0 P (wrap64 (i - 1)) 0⟩ := by simp [cadd, hn]
      rw [hr]
      go_enter Try.func25, Try.ntmps25
      go_wp2_with fail
      refine (in24 L 0 P (wrap64 (i - 1)) 0 _).mono ?_
      rintro e w1 ⟨rfl, hw⟩
      subst hw
      go_wp2_with fail
      exact bodyPost_ret (v := .agg #[.int .i64 i, .int .i64 n, .int .i64 (cin L 0 P (wrap64 (i - 1)) 0)]) (by simp [results, Try.results25, go_sem]) rfl ⟨rfl, by repeat (first | exact (Below.refl _ _) | apply Below.setCell | apply Below.alloc | simp | omega)⟩
    · have hcb : (C == 0) = false := by simpa using hc
      by_cases hl : L < i
      · have hr : cadd ⟨L, C, P⟩ i n = ⟨i, n, cin L C P (wrap64 (i - 1)) 0⟩ := by simp [cadd, hn, hl]
        rw [hr]
        go_enter Try.func25, Try.ntmps25
        go_wp2_with fail
        refine (in24 L C P (wrap64 (i - 1)) 0 _).mono ?_
        rintro e w1 ⟨rfl, hw⟩
        subst hw
        go_wp2_with fail
        exact bodyPost_ret (v := .agg #[.int .i64 i, .int .i64 n, .int .i64 (cin L C P (wrap64 (i - 1)) 0)]) (by simp [results, Try.results25, go_sem]) rfl ⟨rfl, by repeat (first | exact (Below.refl _ _) | apply Below.setCell | apply Below.alloc | simp | omega)⟩
      · have hlb : decide (L < i) = false := by simpa using hl
        by_cases he : i = L
        · have hr : cadd ⟨L, C, P⟩ i n = ⟨L, wrap64 (C + n), P⟩ := by simp [cadd, hn, hc, he]
          have heb : (i == L) = true := by simpa using he
          rw [hr]
          subst he
          go_enter Try.func25, Try.ntmps25
          go_wp2_with fail
          exact bodyPost_ret (v := .agg #[.int .i64 i, .int .i64 (wrap64 (C + n)), .int .i64 P]) (by simp [results, Try.results25, go_sem]) rfl ⟨rfl, by repeat (first | exact (Below.refl _ _) | apply Below.setCell | apply Below.alloc | simp | omega)⟩
        · have heb : (i == L) = false := by simpa using he
          have hr : cadd ⟨L, C, P⟩ i n = ⟨L, C, wrap64 (P + n)⟩ := by simp [cadd, hn, hl, hc, he]
          rw [hr]
          go_enter Try.func25, Try.ntmps25
          go_wp2_with fail
          exact bodyPost_ret (v := .agg #[.int .i64 L, .int .i64 C, .int .i64 (wrap64 (P + n))]) (by simp [results, Try.results25, go_sem]) rfl ⟨rfl, by repeat (first | exact (Below.refl _ _) | apply Below.setCell | apply Below.alloc | simp | omega)⟩

end Go.Proofs.Qxb6605612a
