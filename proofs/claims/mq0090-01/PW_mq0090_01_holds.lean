import PyProof.Rows.All
import Wide.All
import OpenK.AllK
import Wide.FinOn
import Lean
import PySem.Challenge.RW_mq0090_01
set_option Elab.async false
section
open PySem PySem.W PyProof.Rows
namespace Mine
set_option maxRecDepth 100000 in
set_option maxHeartbeats 8000000 in
open_top hd for PySem.Challenge.rw_mq0090_01
end Mine
end
section
namespace Mine
open PySem

/-! The plain functions: what the text reckons, with no program in sight. -/

/-- Python's max | min of three floats -/
def maxF (a b c : UInt64) : UInt64 :=
  let m := if Float64.cmp b a == some Ordering.gt then b else a
  if Float64.cmp c m == some Ordering.gt then c else m
def minF (a b c : UInt64) : UInt64 :=
  let m := if Float64.cmp b a == some Ordering.lt then b else a
  if Float64.cmp c m == some Ordering.lt then c else m
/-- a level's eighth -/
def lev (k : Int) : UInt64 := Float64.ofFrac (decide (k < 0) != decide ((8 : Int) < 0)) k.natAbs (8 : Int).natAbs

def f0 : UInt64 := 0
def f1 : UInt64 := 4607182418800017408
def f2 : UInt64 := 4611686018427387904
def f4 : UInt64 := 4616189618054758400
def f6 : UInt64 := 4618441417868443648
def fHalf : UInt64 := 4602678819172646912

def eqF (a b : UInt64) : Bool := Float64.cmp a b == some Ordering.eq
def leF (a b : UInt64) : Bool := Float64.cmp a b == some Ordering.lt || Float64.cmp a b == some Ordering.eq

/-- the hue behind the first return -/
def hueF (r g b maxc rangec : UInt64) : UInt64 :=
  let rc := Float64.div (Float64.sub maxc r) rangec
  let gc := Float64.div (Float64.sub maxc g) rangec
  let bc := Float64.div (Float64.sub maxc b) rangec
  let h := if eqF r maxc then Float64.sub bc gc
    else if eqF g maxc then Float64.sub (Float64.add f2 rc) bc
    else Float64.sub (Float64.add f4 gc) rc
  (Float64.divmod (Float64.div h f6) f1).snd

def hsvF (r g b : UInt64) : UInt64 × UInt64 × UInt64 :=
  let maxc := maxF r g b
  let minc := minF r g b
  let rangec := Float64.sub maxc minc
  if eqF minc maxc then (f0, f0, maxc)
  else (hueF r g b maxc rangec, Float64.div rangec maxc, maxc)

def hlsF (r g b : UInt64) : UInt64 × UInt64 × UInt64 :=
  let maxc := maxF r g b
  let minc := minF r g b
  let sumc := Float64.add maxc minc
  let rangec := Float64.sub maxc minc
  let l := Float64.div sumc f2
  if eqF minc maxc then (f0, l, f0)
  else (hueF r g b maxc rangec, l, if leF l fHalf then Float64.div rangec sumc else Float64.div rangec (Float64.sub (Float64.sub f2 maxc) minc))

/-- what a division asks -/
def hsvOk (r g b : UInt64) : Bool :=
  let maxc := maxF r g b
  let minc := minF r g b
  let rangec := Float64.sub maxc minc
  eqF minc maxc || (!Float64.isZero maxc && !Float64.isZero rangec)
def hlsOk (r g b : UInt64) : Bool :=
  let maxc := maxF r g b
  let minc := minF r g b
  let sumc := Float64.add maxc minc
  let rangec := Float64.sub maxc minc
  let l := Float64.div sumc f2
  eqF minc maxc || (!Float64.isZero rangec && (if leF l fHalf then !Float64.isZero sumc else !Float64.isZero (Float64.sub (Float64.sub f2 maxc) minc)))

def toldF (r g b : Int) : List UInt64 :=
  let p := hsvF (lev r) (lev g) (lev b)
  let q := hlsF (lev r) (lev g) (lev b)
  [p.1, p.2.1, q.1, q.2.2]

/-- the ring's walker -/
def walkIn (spot : List Int) (part : Nat) (step : Int) : Nat → List Int → Int → Option Int × List Int × Int
  | 0, w, n => (none, w, n)
  | k + 1, w, n => if w = spot then (some n, w, n) else walkIn spot part step k (w.set part (w.getD part 0 + step)) (n + 1)
def walkOut (spot : List Int) (spread : Nat) : List (Nat × Int) → List Int → Int → Option Int
  | [], _, _ => none
  | (part, step) :: r, w, n => match walkIn spot part step spread w n with
    | (some k, _, _) => some k
    | (none, w', n') => walkOut spot spread r w' n'
def ring : List (Nat × Int) := [(1, 1), (0, -1), (2, 1), (1, -1), (0, 1), (2, -1)]
def max3 (a b c : Int) : Int := let m := if b > a then b else a; if c > m then c else m
def min3 (a b c : Int) : Int := let m := if b < a then b else a; if c < m then c else m
def stepsF (r g b : Int) : Int :=
  let mx := max3 r g b
  let mn := min3 r g b
  match walkOut [r, g, b] (mx - mn).toNat ring [mx, mn, mn] 0 with
  | some n => Int.fdiv (840 * n) (mx - mn)
  | none => 0
def wholeF (r g b : Int) : List Int :=
  let mx := max3 r g b
  let mn := min3 r g b
  let spread := mx - mn
  let both := mx + mn
  let steps := stepsF r g b
  [steps, Int.fdiv (840 * spread) (max 1 mx), steps, Int.fdiv (840 * spread) (max 1 (min both (16 - both)))]

/-- the truth of max(0.0, a - b) -/
def moreF (a b : UInt64) : Bool :=
  let d := Float64.sub a b
  !Float64.isZero (if Float64.cmp d f0 == some Ordering.gt then d else f0)

def red (x : Int) : Int := Int.fmod x 9
def green (x : Int) : Int := Int.fmod (Int.fdiv x 9) 9
def blue (x : Int) : Int := Int.fdiv x 81
def tabHue : List (Nat × Nat) := [
  (0, 0), (105, 4581662020911584597), (120, 4582519849412036123), (140, 4583663620745971483), (168, 4584964660638322960), (210, 4586165620538955093), (240, 4587023449039406616), 
  (280, 4588167220373341981), (315, 4589168020290535424), (336, 4589468260265693457), (360, 4589811391665874067), (420, 4590669220166325589), (480, 4591527048666777112), 
  (504, 4591870180066957721), (525, 4592170420042115755), (560, 4592670820000712477), (600, 4593242705667680159), (630, 4593671619917905920), (672, 4593971859893063953), 
  (700, 4594172019876502642), (720, 4594314991293244563), (735, 4594422219855801003), (840, 4595172819793696085), (945, 4595923419731591168), (960, 4596030648294147608), 
  (980, 4596173619710889528), (1008, 4596373779694328219), (1050, 4596674019669486251), (1080, 4596888476794599131), (1120, 4597174419628082973), (1155, 4597424619607381333), 
  (1176, 4597574739594960349), (1200, 4597746305295050653), (1260, 4598175219545276416), (1320, 4598389676670389296), (1344, 4598475459520434449), (1365, 4598550519514223957), 
  (1400, 4598675619503873137), (1440, 4598818590920615059), (1470, 4598925819483171499), (1512, 4599075939470750515), (1540, 4599176019462469860), (1560, 4599247505170840820), 
  (1575, 4599301119452119040), (1680, 4599676419421066581), (1785, 4600051719390014123), (1800, 4600105333671292343), (1820, 4600176819379663303), (1848, 4600276899371382648), 
  (1890, 4600427019358961664), (1920, 4600534247921518104), (1960, 4600677219338260025), (1995, 4600802319327909205), (2016, 4600877379321698713), (2040, 4600963162171743867), 
  (2100, 4601177619296856747), (2160, 4601392076421969628), (2184, 4601477859272014780), (2205, 4601552919265804288), (2240, 4601678019255453468), (2280, 4601820990672195389), 
  (2310, 4601928219234751829), (2352, 4602078339222330845), (2380, 4602178419214050191), (2400, 4602249904922421151), (2415, 4602303519203699371), (2520, 4602678819172646912), 
  (2625, 4602866469157120683), (2640, 4602893276297759793), (2660, 4602929019151945273), (2688, 4602979059147804945), (2730, 4603054119141594453), (2760, 4603107733422872673), 
  (2800, 4603179219131243633), (2835, 4603241769126068224), (2856, 4603279299122962979), (2880, 4603322190547985555), (2940, 4603429419110541995), (3000, 4603536647673098435), 
  (3024, 4603579539098121011), (3045, 4603617069095015765), (3080, 4603679619089840356), (3120, 4603751104798211316), (3150, 4603804719079489536), (3192, 4603879779073279044), 
  (3220, 4603929819069138716), (3240, 4603965561923324196), (3255, 4603992369063963307), (3360, 4604180019048437077), (3465, 4604367669032910848), (3480, 4604394476173549959), 
  (3500, 4604430219027735439), (3528, 4604480259023595111), (3570, 4604555319017384619), (3600, 4604608933298662839), (3640, 4604680419007033799), (3675, 4604742969001858389), 
  (3696, 4604780498998753144), (3720, 4604823390423775720), (3780, 4604930618986332160), (3840, 4605037847548888600), (3864, 4605080738973911176), (3885, 4605118268970805931), 
  (3920, 4605180818965630521), (3960, 4605252304674001481), (3990, 4605305918955279701), (4032, 4605380978949069209), (4060, 4605431018944928881), (4080, 4605466761799114361), 
  (4095, 4605493568939753472), (4200, 4605681218924227243), (4305, 4605868868908701013), (4320, 4605895676049340123), (4340, 4605931418903525604), (4368, 4605981458899385276), 
  (4410, 4606056518893174784), (4440, 4606110133174453004), (4480, 4606181618882823964), (4515, 4606244168877648555), (4536, 4606281698874543309), (4560, 4606324590299565885), 
  (4620, 4606431818862122325), (4680, 4606539047424678766), (4704, 4606581938849701342), (4725, 4606619468846596096), (4760, 4606682018841420686), (4800, 4606753504549791646), 
  (4830, 4606807118831069867), (4872, 4606882178824859375), (4900, 4606932218820719047), (4920, 4606967961674904527), (4935, 4606994768815543637)]
def tabSat : List (Nat × Nat) := [
  (0, 0), (105, 4593671619917905920), (120, 4594314991293244562), (140, 4595172819793696085), (168, 4596373779694328218), (210, 4598175219545276416), (240, 4598818590920615058), 
  (280, 4599676419421066581), (315, 4600427019358961664), (336, 4600877379321698714), (360, 4601392076421969627), (420, 4602678819172646912), (480, 4603322190547985554), 
  (504, 4603579539098121011), (525, 4603804719079489536), (560, 4604180019048437077), (600, 4604608933298662839), (630, 4604930618986332160), (672, 4605380978949069210), 
  (700, 4605681218924227243), (720, 4605895676049340123), (735, 4606056518893174784), (840, 4607182418800017408)]
def tabShare : List (Nat × Nat) := [
  (0, 0), (120, 4594314991293244562), (168, 4596373779694328218), (210, 4598175219545276416), (280, 4599676419421066581), (360, 4601392076421969627), (420, 4602678819172646912), 
  (504, 4603579539098121011), (560, 4604180019048437077), (600, 4604608933298662839), (630, 4604930618986332160), (840, 4607182418800017408)]

/-- the table says that these bits stand for that number -/
def has (k b : Nat) : List (Nat × Nat) → Bool
  | [] => false
  | (a, c) :: r => bif Nat.beq a k then Nat.beq c b else has k b r
theorem has_mem {k b : Nat} : ∀ {t : List (Nat × Nat)}, has k b t = true → (k, b) ∈ t
  | [], h => by cases h
  | (a, c) :: r, h => by
    unfold has at h
    cases e : Nat.beq a k with
    | true =>
      rw [e] at h
      have h1 := Nat.eq_of_beq_eq_true e
      have h2 := Nat.eq_of_beq_eq_true h
      subst h1; subst h2
      exact .head _
    | false =>
      rw [e] at h
      exact .tail _ (has_mem h)
/-- both columns rise -/
def rises : List (Nat × Nat) → Bool
  | [] => true
  | [p] => Nat.blt p.2 9218868437227405312
  | p :: q :: r => Nat.blt p.1 q.1 && Nat.blt p.2 q.2 && rises (q :: r)
theorem blt_lt {a b : Nat} (h : Nat.blt a b = true) : a < b := Nat.le_of_ble_eq_true h
theorem rises_head : ∀ {t : List (Nat × Nat)} {p : Nat × Nat}, rises (p :: t) = true → p.2 < 9218868437227405312 ∧ ∀ q ∈ t, p.1 < q.1 ∧ p.2 < q.2
  | [], p, h => ⟨blt_lt h, fun _ hq => nomatch hq⟩
  | q :: r, p, h => by
    simp only [rises, Bool.and_eq_true] at h
    obtain ⟨⟨h1, h2⟩, h3⟩ := h
    have h1 := blt_lt h1
    have h2 := blt_lt h2
    obtain ⟨hb, hr⟩ := rises_head h3
    refine ⟨by omega, fun x hx => ?_⟩
    rcases List.mem_cons.mp hx with rfl | hx
    · exact ⟨h1, h2⟩
    · have := hr x hx; omega
theorem rises_tail {t : List (Nat × Nat)} {p : Nat × Nat} (h : rises (p :: t) = true) : rises t = true := by
  cases t with
  | nil => rfl
  | cons q r => simp only [rises, Bool.and_eq_true] at h; exact h.2
theorem rises_lt : ∀ {t : List (Nat × Nat)}, rises t = true → ∀ p ∈ t, p.2 < 9218868437227405312
  | _ :: _, h, _, .head _ => (rises_head h).1
  | _ :: _, h, p, .tail _ hp => rises_lt (rises_tail h) p hp
theorem rises_iff : ∀ {t : List (Nat × Nat)}, rises t = true → ∀ p ∈ t, ∀ q ∈ t, (p.1 < q.1 ↔ p.2 < q.2)
  | _ :: _, h, _, .head _, _, .head _ => by constructor <;> intro h <;> omega
  | _ :: _, h, _, .head _, q, .tail _ hq => by have := (rises_head h).2 q hq; omega
  | _ :: _, h, p, .tail _ hp, _, .head _ => by have := (rises_head h).2 p hp; omega
  | _ :: _, h, p, .tail _ hp, q, .tail _ hq => rises_iff (rises_tail h) p hp q hq
theorem tabHue_rises : rises tabHue = true := by decide +kernel
theorem tabSat_rises : rises tabSat = true := by decide +kernel
theorem tabShare_rises : rises tabShare = true := by decide +kernel

/-- a - b is above nought exactly if a's bits are above b's -/
theorem more_eq {a b : UInt64} (ha : a.toNat < 9218868437227405312) (hb : b.toNat < 9218868437227405312) : moreF a b = decide (b.toNat < a.toNat) := by
  have hI : Float64.infMag = 9218868437227405312 := by decide +kernel
  have pk : ∀ x : UInt64, x.toNat < 9218868437227405312 → x = Float64.pack false x.toNat := fun x hx => by
    apply UInt64.toNat.inj
    rw [Float64.pack_toNat false (by omega)]
    simp
  obtain ⟨m, e, hx, hvx⟩ := Float64.decode_pack false (t := a.toNat) (by omega)
  obtain ⟨k, f, hy, hvy⟩ := Float64.decode_pack false (t := b.toNat) (by omega)
  have vx := Float64.val_pack false (t := a.toNat) (by omega)
  have vy := Float64.val_pack false (t := b.toNat) (by omega)
  rw [← pk a ha] at hx vx
  rw [← pk b hb] at hy vy
  have hz : ∃ m e, Float64.decode f0 = .fin false m e := ⟨0, -1074, by with_unfolding_all rfl⟩
  have hz0 : Float64.val f0 = 0 := by decide +kernel
  obtain ⟨mz, ez, hz⟩ := hz
  have hzz : Float64.isZero f0 = true := by decide +kernel
  have S := Float64.sub_right hx hy
  rw [vx, vy] at S
  simp only [Float64.sgn, Bool.false_eq_true, if_false] at S
  unfold moreF
  rcases Nat.lt_trichotomy b.toNat a.toNat with h | h | h
  · have hV := Float64.V_lt h
    obtain ⟨t, hr, ht, _, hn⟩ := S.2 (by omega)
    have hneg : decide ((Float64.V a.toNat : Int) - (Float64.V b.toNat : Int) < 0) = false := decide_eq_false (by omega)
    rw [hneg] at hr
    have ht0 : t ≠ 0 := by
      intro h0
      subst h0
      have := (hn (by rw [hI]; omega) 1).1
      have hV1 : Float64.V 1 = 1 := by decide +kernel
      have hV0 : Float64.V 0 = 0 := by decide +kernel
      rw [hV1, hV0] at this
      unfold Float64.dist at this
      omega
    rw [decide_eq_true h, hr]
    by_cases hi : t < Float64.infMag
    · obtain ⟨m', e', hd', hv'⟩ := Float64.decode_pack false hi
      have hvp := Float64.val_pack false hi
      have hVt := Float64.V_lt (Nat.pos_of_ne_zero ht0)
      rw [Float64.V_zero] at hVt
      have hg : Float64.cmp (Float64.pack false t) f0 = some Ordering.gt := by
        rw [Float64.cmp_right hd' hz, hvp, hz0]
        simp only [Float64.sgn, Bool.false_eq_true, if_false]
        rw [Int.compare_eq_gt.mpr (by omega)]
      simp only [hg, beq_self_eq_true, if_true]
      have : Float64.isZero (Float64.pack false t) = false := by
        unfold Float64.isZero
        rw [hd']
        cases m' with
        | zero => simp at hv'; omega
        | succ _ => rfl
      rw [this]; rfl
    · have : t = Float64.infMag := by omega
      subst this
      decide +kernel
  · rw [h] at S
    have h0 := S.1 (by omega)
    rw [h0, h]
    simp only [Nat.lt_irrefl, decide_false]
    decide +kernel
  · have hV := Float64.V_lt h
    obtain ⟨t, hr, ht, _, hn⟩ := S.2 (by omega)
    have hneg : decide ((Float64.V a.toNat : Int) - (Float64.V b.toNat : Int) < 0) = true := decide_eq_true (by omega)
    rw [hneg] at hr
    rw [decide_eq_false (by omega), hr]
    have hg : (Float64.cmp (Float64.pack true t) f0 == some Ordering.gt) = false := by
      by_cases hi : t < Float64.infMag
      · obtain ⟨m', e', hd', hv'⟩ := Float64.decode_pack true hi
        have hvp := Float64.val_pack true hi
        rw [Float64.cmp_right hd' hz, hvp, hz0]
        simp only [Float64.sgn, if_true]
        rcases Nat.eq_zero_or_pos (Float64.V t) with h0 | h0
        · rw [h0]; decide +kernel
        · rw [Int.compare_eq_lt.mpr (by omega)]; decide +kernel
      · have : t = Float64.infMag := by omega
        subst this
        decide +kernel
    simp only [hg, Bool.false_eq_true, if_false, hzz]
    rfl

/-- a number reckoned before it is handed on -/
def forceN {α : Type} (n : Nat) (k : Nat → α) : α := Nat.rec (motive := fun _ => α) (k 0) (fun m _ => k (m + 1)) n
theorem forceN_eq {α : Type} (n : Nat) (k : Nat → α) : forceN n k = k n := by cases n <;> rfl
def forceU {α : Type} (x : UInt64) (k : UInt64 → α) : α := forceN x.toNat fun n => k (UInt64.ofNat n)
theorem forceU_eq {α : Type} (x : UInt64) (k : UInt64 → α) : forceU x k = k x := by
  unfold forceU; rw [forceN_eq, UInt64.ofNat_toNat]
def hueV {α : Type} (r g b maxc rangec : UInt64) (k : UInt64 → α) : α :=
  forceU (Float64.sub maxc r) fun a => forceU (Float64.div a rangec) fun rc =>
  forceU (Float64.sub maxc g) fun a => forceU (Float64.div a rangec) fun gc =>
  forceU (Float64.sub maxc b) fun a => forceU (Float64.div a rangec) fun bc =>
  forceU (if eqF r maxc then Float64.sub bc gc else if eqF g maxc then Float64.sub (Float64.add f2 rc) bc else Float64.sub (Float64.add f4 gc) rc) fun h =>
  forceU (Float64.div h f6) fun y => forceU (Float64.divmod y f1).snd k
theorem hueV_eq {α : Type} (r g b maxc rangec : UInt64) (k : UInt64 → α) : hueV r g b maxc rangec k = k (hueF r g b maxc rangec) := by
  simp only [hueV, forceU_eq, hueF]
/-- what is asked of a spot -/
def chk (r g b : Int) (a0 a1 a3 : UInt64) : Bool :=
  match wholeF r g b with
  | [k0, k1, _, k3] => forceN k0.toNat fun n0 => forceN k1.toNat fun n1 => forceN k3.toNat fun n3 =>
      has n0 a0.toNat tabHue && has n1 a1.toNat tabSat && has n3 a3.toNat tabShare && decide (0 ≤ k0) && decide (0 ≤ k1) && decide (0 ≤ k3)
  | _ => false
def spotV (r g b : Int) : Bool :=
  forceU (lev r) fun R => forceU (lev g) fun G => forceU (lev b) fun B =>
  forceU (maxF R G B) fun mx => forceU (minF R G B) fun mn => forceU (Float64.sub mx mn) fun rg => forceU (Float64.add mx mn) fun sm => forceU (Float64.div sm f2) fun l =>
  if eqF mn mx then chk r g b f0 f0 f0
  else hueV R G B mx rg fun h => forceU (Float64.div rg mx) fun s => !Float64.isZero mx && !Float64.isZero rg &&
    if leF l fHalf then !Float64.isZero sm && forceU (Float64.div rg sm) fun t => chk r g b h s t
    else forceU (Float64.sub (Float64.sub f2 mx) mn) fun u => !Float64.isZero u && forceU (Float64.div rg u) fun t => chk r g b h s t
def nine : List Int := [0, 1, 2, 3, 4, 5, 6, 7, 8]
def spotsB (b : Int) : Bool := nine.all fun r => nine.all fun g => spotV r g b
theorem spots012 : ([0, 1, 2] : List Int).all spotsB = true := by decide +kernel
theorem spots345 : ([3, 4, 5] : List Int).all spotsB = true := by decide +kernel
theorem spots678 : ([6, 7, 8] : List Int).all spotsB = true := by decide +kernel

theorem nine_mem {k : Int} (h0 : 0 ≤ k) (h8 : k ≤ 8) : k ∈ nine := by
  have : k = 0 ∨ k = 1 ∨ k = 2 ∨ k = 3 ∨ k = 4 ∨ k = 5 ∨ k = 6 ∨ k = 7 ∨ k = 8 := by omega
  simp only [nine, List.mem_cons, List.not_mem_nil, or_false]
  exact this
theorem spotV_true {r g b : Int} (hr : 0 ≤ r ∧ r ≤ 8) (hg : 0 ≤ g ∧ g ≤ 8) (hb : 0 ≤ b ∧ b ≤ 8) : spotV r g b = true := by
  have hB : spotsB b = true := by
    have h1 := List.all_eq_true.mp spots012
    have h2 := List.all_eq_true.mp spots345
    have h3 := List.all_eq_true.mp spots678
    have : b = 0 ∨ b = 1 ∨ b = 2 ∨ b = 3 ∨ b = 4 ∨ b = 5 ∨ b = 6 ∨ b = 7 ∨ b = 8 := by omega
    rcases this with rfl | rfl | rfl | rfl | rfl | rfl | rfl | rfl | rfl
    · exact h1 _ (by simp)
    · exact h1 _ (by simp)
    · exact h1 _ (by simp)
    · exact h2 _ (by simp)
    · exact h2 _ (by simp)
    · exact h2 _ (by simp)
    · exact h3 _ (by simp)
    · exact h3 _ (by simp)
    · exact h3 _ (by simp)
  exact List.all_eq_true.mp (List.all_eq_true.mp hB r (nine_mem hr.1 hr.2)) g (nine_mem hg.1 hg.2)

/-- a number and the bits that stand for it -/
def Stands (t : List (Nat × Nat)) (k : Int) (a : UInt64) : Prop := 0 ≤ k ∧ (k.toNat, a.toNat) ∈ t
theorem chk_stands {r g b : Int} {a0 a1 a3 : UInt64} (h : chk r g b a0 a1 a3 = true) :
    ∃ k0 k1 k3, wholeF r g b = [k0, k1, k0, k3] ∧ Stands tabHue k0 a0 ∧ Stands tabSat k1 a1 ∧ Stands tabShare k3 a3 := by
  have e : ∃ k0 k1 k3, wholeF r g b = [k0, k1, k0, k3] := ⟨_, _, _, rfl⟩
  obtain ⟨k0, k1, k3, e⟩ := e
  refine ⟨k0, k1, k3, e, ?_⟩
  unfold chk at h
  rw [e] at h
  simp only [forceN_eq, Bool.and_eq_true, decide_eq_true_eq] at h
  obtain ⟨⟨⟨⟨⟨h1, h2⟩, h3⟩, h4⟩, h5⟩, h6⟩ := h
  exact ⟨⟨h4, has_mem h1⟩, ⟨h5, has_mem h2⟩, h6, has_mem h3⟩
theorem spot_facts {r g b : Int} (hr : 0 ≤ r ∧ r ≤ 8) (hg : 0 ≤ g ∧ g ≤ 8) (hb : 0 ≤ b ∧ b ≤ 8) :
    hsvOk (lev r) (lev g) (lev b) = true ∧ hlsOk (lev r) (lev g) (lev b) = true ∧
    ∃ k0 k1 k3 a0 a1 a3, wholeF r g b = [k0, k1, k0, k3] ∧ toldF r g b = [a0, a1, a0, a3] ∧ Stands tabHue k0 a0 ∧ Stands tabSat k1 a1 ∧ Stands tabShare k3 a3 := by
  have h := spotV_true hr hg hb
  unfold spotV at h
  simp only [forceU_eq, hueV_eq] at h
  simp only [hsvOk, hlsOk, toldF, hsvF, hlsF]
  cases hq : eqF (minF (lev r) (lev g) (lev b)) (maxF (lev r) (lev g) (lev b))
  case true =>
    simp only [hq, if_true, Bool.true_or] at h ⊢
    obtain ⟨k0, k1, k3, e, s0, s1, s3⟩ := chk_stands h
    exact ⟨trivial, trivial, k0, k1, k3, _, _, _, e, rfl, s0, s1, s3⟩
  case false =>
    simp only [hq, Bool.false_eq_true, if_false, Bool.false_or] at h ⊢
    simp only [Bool.and_eq_true] at h ⊢
    obtain ⟨⟨h1, h2⟩, h3⟩ := h
    refine ⟨⟨h1, h2⟩, ?_⟩
    cases hl : leF (Float64.div (Float64.add (maxF (lev r) (lev g) (lev b)) (minF (lev r) (lev g) (lev b))) f2) fHalf
    case true =>
      simp only [hl, if_true, Bool.and_eq_true] at h3 ⊢
      obtain ⟨k0, k1, k3, e, s0, s1, s3⟩ := chk_stands h3.2
      exact ⟨⟨h2, h3.1⟩, k0, k1, k3, _, _, _, e, rfl, s0, s1, s3⟩
    case false =>
      simp only [hl, Bool.false_eq_true, if_false, Bool.and_eq_true] at h3 ⊢
      obtain ⟨k0, k1, k3, e, s0, s1, s3⟩ := chk_stands h3.2
      exact ⟨⟨h2, h3.1⟩, k0, k1, k3, _, _, _, e, rfl, s0, s1, s3⟩
theorem stands_more {t : List (Nat × Nat)} (ht : rises t = true) {k k' : Int} {a a' : UInt64} (h : Stands t k a) (h' : Stands t k' a') : moreF a a' = decide (k' < k) := by
  rw [more_eq (rises_lt ht _ h.2) (rises_lt ht _ h'.2)]
  have := rises_iff ht _ h'.2 _ h.2
  simp only at this
  have h0 := h.1
  have h0' := h'.1
  by_cases hk : k' < k
  · rw [decide_eq_true hk, decide_eq_true (this.mp (by omega))]
  · rw [decide_eq_false hk, decide_eq_false fun q => hk (by have := this.mpr q; omega)]

/-- a spot's levels -/
def Spot (p : Int × Int × Int) : Prop := (0 ≤ p.1 ∧ p.1 ≤ 8) ∧ (0 ≤ p.2.1 ∧ p.2.1 ≤ 8) ∧ (0 ≤ p.2.2 ∧ p.2.2 ≤ 8)
def toldS (p : Int × Int × Int) : List UInt64 := toldF p.1 p.2.1 p.2.2
def wholeS (p : Int × Int × Int) : List Int := wholeF p.1 p.2.1 p.2.2
/-- THE FLOATS' LAW: in each of the four, of two spots one is told more of exactly if its whole number is greater -/
theorem told_law {p q : Int × Int × Int} (hp : Spot p) (hq : Spot q) (i : Nat) (hi : i < 4) :
    moreF ((toldS p).getD i 0) ((toldS q).getD i 0) = decide ((wholeS q).getD i 0 < (wholeS p).getD i 0) := by
  obtain ⟨_, _, k0, k1, k3, a0, a1, a3, e, e', s0, s1, s3⟩ := spot_facts hp.1 hp.2.1 hp.2.2
  obtain ⟨_, _, l0, l1, l3, c0, c1, c3, u, u', v0, v1, v3⟩ := spot_facts hq.1 hq.2.1 hq.2.2
  unfold toldS wholeS
  rw [e, e', u, u']
  have : i = 0 ∨ i = 1 ∨ i = 2 ∨ i = 3 := by omega
  rcases this with rfl | rfl | rfl | rfl
  · exact stands_more tabHue_rises s0 v0
  · exact stands_more tabSat_rises s1 v1
  · exact stands_more tabHue_rises s0 v0
  · exact stands_more tabShare_rises s3 v3
end Mine
end
section
namespace Mine

/-! The plain law of the laying: what _law_laid hands back and asks. -/

/-- (laid, asked) by the text's own steps; the first number bounds the depth -/
def laidF (more : Int → Int → Bool) : Nat → List Int → List Int × List (Int × Int)
  | 0, _ => ([], [])
  | _ + 1, [] => ([], [])
  | n + 1, p :: ps =>
    let a := laidF more n (ps.filter fun q => more p q)
    let b := laidF more n (ps.filter fun q => !more p q)
    (a.1 ++ p :: b.1, ps.map (fun q => (p, q)) ++ (a.2 ++ b.2))

section
variable {ours : Int → Int}
/-- q's number is less than p's -/
def lessBy (ours : Int → Int) (p q : Int) : Bool := decide (ours q < ours p)
def Lx (ours : Int → Int) (p q : Int) : Prop := ours p < ours q ∨ (ours p = ours q ∧ p < q)
theorem laidF_mem : ∀ (n : Nat) (ps : List Int), ps.length ≤ n → ∀ x, x ∈ (laidF (lessBy ours) n ps).1 ↔ x ∈ ps
  | 0, ps, h, x => by
    cases ps with
    | nil => simp [laidF]
    | cons => simp at h
  | n + 1, [], _, x => by simp [laidF]
  | n + 1, p :: ps, h, x => by
    simp only [List.length_cons, Nat.add_le_add_iff_right] at h
    have h1 := laidF_mem n (ps.filter fun q => lessBy ours p q) (Nat.le_trans (List.length_filter_le _ _) h) x
    have h2 := laidF_mem n (ps.filter fun q => !lessBy ours p q) (Nat.le_trans (List.length_filter_le _ _) h) x
    simp only [laidF, List.mem_append, List.mem_cons, h1, h2, List.mem_filter]
    constructor
    · rintro (⟨a, _⟩ | a | ⟨a, _⟩)
      · exact .inr a
      · exact .inl a
      · exact .inr a
    · rintro (a | a)
      · exact .inr (.inl a)
      · cases q : lessBy ours p x with
        | true => exact .inl ⟨a, rfl⟩
        | false => exact .inr (.inr ⟨a, rfl⟩)
theorem laidF_sorted : ∀ (n : Nat) (ps : List Int), ps.length ≤ n → ps.Pairwise (· < ·) → (laidF (lessBy ours) n ps).1.Pairwise (Lx ours)
  | 0, _, _, _ => .nil
  | _ + 1, [], _, _ => .nil
  | n + 1, p :: ps, h, hp => by
    simp only [List.length_cons, Nat.add_le_add_iff_right] at h
    obtain ⟨hp1, hp2⟩ := List.pairwise_cons.mp hp
    have l1 := Nat.le_trans (List.length_filter_le (fun q => lessBy ours p q) ps) h
    have l2 := Nat.le_trans (List.length_filter_le (fun q => !lessBy ours p q) ps) h
    have s1 := laidF_sorted n _ l1 (hp2.filter _)
    have s2 := laidF_sorted n _ l2 (hp2.filter _)
    have m1 := laidF_mem (ours := ours) n _ l1
    have m2 := laidF_mem (ours := ours) n _ l2
    simp only [List.mem_filter] at m1 m2
    simp only [laidF]
    rw [List.pairwise_append]
    refine ⟨s1, List.pairwise_cons.mpr ⟨fun y hy => ?_, s2⟩, fun x hx y hy => ?_⟩
    · obtain ⟨a, b⟩ := (m2 y).mp hy
      simp only [lessBy, Bool.not_eq_true', decide_eq_false_iff_not] at b
      have := hp1 y a
      unfold Lx
      omega
    · obtain ⟨a, b⟩ := (m1 x).mp hx
      simp only [lessBy, decide_eq_true_eq] at b
      rcases List.mem_cons.mp hy with rfl | hy
      · exact .inl b
      · obtain ⟨c, d⟩ := (m2 y).mp hy
        simp only [lessBy, Bool.not_eq_true', decide_eq_false_iff_not] at d
        exact .inl (by omega)
/-- no place ahead of both parts them -/
def Meets (ours : Int → Int) (ps : List Int) (i j : Int) : Prop := ∀ k ∈ ps, k < i → ¬ (min (ours i) (ours j) < ours k ∧ ours k ≤ max (ours i) (ours j))
theorem laidF_asked : ∀ (n : Nat) (ps : List Int), ps.length ≤ n → ps.Pairwise (· < ·) → ∀ i j, (i, j) ∈ (laidF (lessBy ours) n ps).2 ↔ i ∈ ps ∧ j ∈ ps ∧ i < j ∧ Meets ours ps i j
  | 0, ps, h, _, i, j => by
    cases ps with
    | nil => simp [laidF]
    | cons => simp at h
  | n + 1, [], _, _, i, j => by simp [laidF]
  | n + 1, p :: ps, h, hp, i, j => by
    simp only [List.length_cons, Nat.add_le_add_iff_right] at h
    obtain ⟨hp1, hp2⟩ := List.pairwise_cons.mp hp
    have l1 := Nat.le_trans (List.length_filter_le (fun q => lessBy ours p q) ps) h
    have l2 := Nat.le_trans (List.length_filter_le (fun q => !lessBy ours p q) ps) h
    have a1 := laidF_asked n _ l1 (hp2.filter _) i j
    have a2 := laidF_asked n _ l2 (hp2.filter _) i j
    simp only [laidF, List.mem_append, a1, a2, List.mem_map, Prod.mk.injEq]
    simp only [List.mem_filter, lessBy, decide_eq_true_eq, Bool.not_eq_true', decide_eq_false_iff_not]
    constructor
    · rintro (⟨q, hq, rfl, rfl⟩ | ⟨⟨i1, i2⟩, ⟨j1, j2⟩, hij, hm⟩ | ⟨⟨i1, i2⟩, ⟨j1, j2⟩, hij, hm⟩)
      · refine ⟨.head _, .tail _ hq, hp1 _ hq, fun k hk hki => ?_⟩
        rcases List.mem_cons.mp hk with rfl | hk
        · omega
        · have := hp1 _ hk; omega
      · refine ⟨.tail _ i1, .tail _ j1, hij, fun k hk hki => ?_⟩
        rcases List.mem_cons.mp hk with rfl | hk
        · omega
        · by_cases q : ours k < ours p
          · exact hm k (List.mem_filter.mpr ⟨hk, decide_eq_true q⟩) hki
          · omega
      · refine ⟨.tail _ i1, .tail _ j1, hij, fun k hk hki => ?_⟩
        rcases List.mem_cons.mp hk with rfl | hk
        · omega
        · by_cases q : ours k < ours p
          · omega
          · exact hm k (List.mem_filter.mpr ⟨hk, by simp [lessBy, q]⟩) hki
    · rintro ⟨hi, hj, hij, hm⟩
      rcases List.mem_cons.mp hi with rfl | hi
      · rcases List.mem_cons.mp hj with rfl | hj
        · omega
        · exact .inl ⟨j, hj, rfl, rfl⟩
      · have hpi := hp1 _ hi
        rcases List.mem_cons.mp hj with rfl | hj
        · omega
        · have hmp := hm p (.head _) hpi
          by_cases qi : ours i < ours p
          · exact .inr (.inl ⟨⟨hi, qi⟩, ⟨hj, by omega⟩, hij, fun k hk => hm k (.tail _ (List.mem_filter.mp hk).1)⟩)
          · exact .inr (.inr ⟨⟨hi, qi⟩, ⟨hj, by omega⟩, hij, fun k hk => hm k (.tail _ (List.mem_filter.mp hk).1)⟩)
theorem laidF_nodup : ∀ (n : Nat) (ps : List Int), ps.length ≤ n → ps.Pairwise (· < ·) → (laidF (lessBy ours) n ps).2.Nodup
  | 0, _, _, _ => .nil
  | _ + 1, [], _, _ => .nil
  | n + 1, p :: ps, h, hp => by
    simp only [List.length_cons, Nat.add_le_add_iff_right] at h
    obtain ⟨hp1, hp2⟩ := List.pairwise_cons.mp hp
    have l1 := Nat.le_trans (List.length_filter_le (fun q => lessBy ours p q) ps) h
    have l2 := Nat.le_trans (List.length_filter_le (fun q => !lessBy ours p q) ps) h
    have s1 := laidF_nodup n _ l1 (hp2.filter _)
    have s2 := laidF_nodup n _ l2 (hp2.filter _)
    have m1 := laidF_asked (ours := ours) n _ l1 (hp2.filter _)
    have m2 := laidF_asked (ours := ours) n _ l2 (hp2.filter _)
    simp only [List.mem_filter, lessBy, decide_eq_true_eq, Bool.not_eq_true', decide_eq_false_iff_not] at m1 m2
    simp only [laidF]
    refine List.nodup_append.mpr ⟨?_, List.nodup_append.mpr ⟨s1, s2, ?_⟩, ?_⟩
    · show List.Pairwise _ _
      rw [List.pairwise_map]
      exact hp2.imp fun h e => by have := (Prod.mk.inj e).2; omega
    · rintro ⟨i, j⟩ hx ⟨i', j'⟩ hy e
      obtain ⟨rfl, rfl⟩ := Prod.mk.inj e
      have := (m1 i j).mp hx
      have := (m2 i j).mp hy
      omega
    · rintro ⟨i, j⟩ hx ⟨i', j'⟩ hy e
      obtain ⟨rfl, rfl⟩ := Prod.mk.inj e
      obtain ⟨q, _, hq⟩ := List.mem_map.mp hx
      have hpi : p = i := (Prod.mk.inj hq).1
      rcases List.mem_append.mp hy with hy | hy
      · have := hp1 _ ((m1 i j).mp hy).1.1; omega
      · have := hp1 _ ((m2 i j).mp hy).1.1; omega
theorem laidF_len (more : Int → Int → Bool) : ∀ (n : Nat) (ps : List Int), ps.length ≤ n → (laidF more n ps).1.length = ps.length
  | 0, ps, h => by
    cases ps with
    | nil => rfl
    | cons => simp at h
  | _ + 1, [], _ => rfl
  | n + 1, p :: ps, h => by
    simp only [List.length_cons, Nat.add_le_add_iff_right] at h
    have l1 := Nat.le_trans (List.length_filter_le (fun q => more p q) ps) h
    have l2 := Nat.le_trans (List.length_filter_le (fun q => !more p q) ps) h
    simp only [laidF, List.length_append, List.length_cons, laidF_len more n _ l1, laidF_len more n _ l2]
    have : (ps.filter fun q => more p q).length + (ps.filter fun q => !more p q).length = ps.length := by
      clear h l1 l2
      induction ps with
      | nil => rfl
      | cons a r ih =>
        simp only [List.filter_cons]
        cases more p a <;> simp <;> omega
    omega
end

/-- two lists that rise strictly and bear the same are one -/
theorem rising_eq {α : Type} {lt : α → α → Prop} (irr : ∀ a, ¬ lt a a) (asy : ∀ a b, lt a b → ¬ lt b a) : ∀ {l l' : List α}, l.Pairwise lt → l'.Pairwise lt → (∀ x, x ∈ l ↔ x ∈ l') → l = l'
  | [], [], _, _, _ => rfl
  | [], b :: r, _, _, h => absurd ((h b).mpr (.head _)) (by simp)
  | a :: r, [], _, _, h => absurd ((h a).mp (.head _)) (by simp)
  | a :: r, b :: r', p, p', h => by
    obtain ⟨p1, p2⟩ := List.pairwise_cons.mp p
    obtain ⟨q1, q2⟩ := List.pairwise_cons.mp p'
    have e : a = b := by
      rcases List.mem_cons.mp ((h a).mp (.head _)) with e | e
      · exact e
      · rcases List.mem_cons.mp ((h b).mpr (.head _)) with e' | e'
        · exact e'.symm
        · exact absurd (p1 b e') (asy _ _ (q1 a e))
    subst e
    rw [rising_eq irr asy p2 q2 fun x => ?_]
    constructor
    · intro hx
      rcases List.mem_cons.mp ((h x).mp (.tail _ hx)) with rfl | hx'
      · exact absurd (p1 x hx) (irr x)
      · exact hx'
    · intro hx
      rcases List.mem_cons.mp ((h x).mpr (.tail _ hx)) with rfl | hx'
      · exact absurd (q1 x hx) (irr x)
      · exact hx'
def Lp (p q : Int × Int) : Prop := p.1 < q.1 ∨ (p.1 = q.1 ∧ p.2 < q.2)
end Mine
end
section
namespace Mine
open PySem PySem.W PyProof.Rows

/-! The model's sort of fewer than 64 items, by any comparison that tells the numbers f: the order that it finds rises. -/
def kf (f : Nat → Int) (p : Array Nat) (i : Nat) : Int := f (p.getD i 0)
def KSorted (f : Nat → Int) (p : Array Nat) (k : Nat) : Prop := ∀ i j, i ≤ j → j < k → kf f p i ≤ kf f p j
def KNonInc (f : Nat → Int) (p : Array Nat) (k : Nat) : Prop := ∀ i j, i ≤ j → j < k → kf f p j ≤ kf f p i
def KPerm (n : Nat) (p : Array Nat) : Prop := p.Perm (List.range n).toArray

theorem KPerm.size {n : Nat} {p : Array Nat} (h : KPerm n p) : p.size = n := by rw [Array.Perm.size_eq h]; simp
theorem KPerm.lt {n : Nat} {p : Array Nat} (h : KPerm n p) {i : Nat} (hi : i < n) : p.getD i 0 < n := by
  have hi' : i < p.size := by rw [h.size]; exact hi
  have e : p.getD i 0 = p[i] := by simp [Array.getD, hi']
  have hm : p[i] ∈ p.toList := by simp
  have := (Array.perm_iff_toList_perm.mp h).mem_iff.mp hm
  rw [e]; simpa using this
theorem kf_congr {f : Nat → Int} {p q : Array Nat} {i j : Nat} (h : p[i]? = q[j]?) : kf f p i = kf f q j := by
  unfold kf
  rw [Array.getD_eq_getD_getElem?, Array.getD_eq_getD_getElem?, h]
theorem kf_rev {f : Nat → Int} {p : Array Nat} {i j : Nat} (hj : j ≤ p.size) (k : Nat) : kf f (kas_rev p i j) k = if i ≤ k ∧ k < j then kf f p (i + j - 1 - k) else kf f p k := by
  have e := getElem?_mirror_all (i := i) hj k
  unfold kas_rev
  by_cases h1 : i ≤ k ∧ k < j
  · rw [if_pos h1] at e ⊢; exact kf_congr e
  · rw [if_neg h1] at e ⊢; exact kf_congr e
theorem kf_rev_equal {f : Nat → Int} {p : Array Nat} {i j : Nat} (hj : j ≤ p.size) (he : ∀ k, i ≤ k → k < j → kf f p k = kf f p (j - 1)) (k : Nat) : kf f (kas_rev p i j) k = kf f p k := by
  rw [kf_rev hj]
  split
  · rename_i h
    rw [he _ (by omega) (by omega), he k h.1 h.2]
  · rfl
theorem KPerm.rev {n : Nat} {p : Array Nat} (h : KPerm n p) (i j : Nat) : KPerm n (kas_rev p i j) := Array.Perm.trans (mirror_perm _ _ _ _) h
theorem kf_bubble {f : Nat → Int} {p : Array Nat} {src d : Nat} (hs : src < p.size) (hd : d ≤ src) (k : Nat) :
    kf f (bubble p src d) k = if k = src - d then kf f p src else if src - d < k ∧ k ≤ src then kf f p (k - 1) else kf f p k := by
  have e := getElem?_bubble hs d hd k
  by_cases h1 : k = src - d
  · rw [if_pos h1] at e ⊢; exact kf_congr e
  · rw [if_neg h1] at e ⊢
    by_cases h2 : src - d < k ∧ k ≤ src
    · rw [if_pos h2] at e ⊢; exact kf_congr e
    · rw [if_neg h2] at e ⊢; exact kf_congr e
theorem KPerm.bub {n : Nat} {p : Array Nat} (h : KPerm n p) (i j : Nat) : KPerm n (bubble p i j) := Array.Perm.trans (bubble_perm _ _ _) h

section
variable {f : Nat → Int} {n : Nat} {I : Shared → Prop} {cmp : Nat → Nat → (Bool → Shared → Prop) → Shared → Prop}
  (H : ∀ i j (C : Bool → Shared → Prop) s, i < n → j < n → I s → (∀ s', I s' → C (decide (f i < f j)) s') → cmp i j C s)
include H
theorem kq_asc {p : Array Nat} (hp : KPerm n p) : ∀ (d m : Nat) (s : Shared) (G : Nat → Shared → Prop), 1 ≤ m → m + d = n → KSorted f p m → I s →
    (∀ k s', m ≤ k → k ≤ n → I s' → KSorted f p k → (k = n ∨ kf f p k < kf f p (k - 1)) → G k s') → (kas_asc p d m).kasWp cmp G s
  | 0, m, s, G, h1, hd, hs, hI, hG => hG m s (Nat.le_refl _) (by omega) hI hs (.inl (by omega))
  | d + 1, m, s, G, h1, hd, hs, hI, hG => by
    show cmp (p.getD m 0) (p.getD (m - 1) 0) (fun c s' => (if c = true then KasT.ret m else kas_asc p d (m + 1)).kasWp cmp G s') s
    refine H _ _ _ _ (hp.lt (by omega)) (hp.lt (by omega)) hI fun s' hI' => ?_
    by_cases hlt : kf f p m < kf f p (m - 1)
    · have e : decide (f (p.getD m 0) < f (p.getD (m - 1) 0)) = true := decide_eq_true hlt
      rw [e, if_pos rfl]
      exact hG m s' (Nat.le_refl _) (by omega) hI' hs (.inr hlt)
    · have e : decide (f (p.getD m 0) < f (p.getD (m - 1) 0)) = false := decide_eq_false hlt
      rw [e, if_neg (by simp)]
      refine kq_asc hp d (m + 1) s' G (by omega) (by omega) ?_ hI' fun k s'' a b c x y => hG k s'' (by omega) b c x y
      intro i j hij hj
      by_cases hjm : j < m
      · exact hs i j hij hjm
      · have : j = m := by omega
        subst this
        by_cases hi : i = j
        · subst hi; exact Int.le_refl _
        · have := hs i (j - 1) (by omega) (by omega); omega
theorem kq_desc : ∀ (d m q : Nat) (p : Array Nat) (s : Shared) (G : Array Nat × Nat × Nat → Shared → Prop), KPerm n p → 1 ≤ m → m + d = n → KNonInc f p m → q + 1 ≤ m →
    (∀ i, m - (q + 1) ≤ i → i < m → kf f p i = kf f p (m - 1)) → I s →
    (∀ p' k q' s', KPerm n p' → m ≤ k → k ≤ n → I s' → KNonInc f p' k → q' + 1 ≤ k → (∀ i, k - (q' + 1) ≤ i → i < k → kf f p' i = kf f p' (k - 1)) → G (p', k, q') s') → (kas_desc d p m q).kasWp cmp G s
  | 0, m, q, p, s, G, hp, h1, hd, hs, hq, he, hI, hG => hG p m q s hp (Nat.le_refl _) (by omega) hI hs hq he
  | d + 1, m, q, p, s, G, hp, h1, hd, hs, hq, he, hI, hG => by
    show cmp (p.getD m 0) (p.getD (m - 1) 0) (fun c s' => (if c = true then (if q > 0 then kas_desc d (kas_rev p (m - (q + 1)) m) (m + 1) 0 else kas_desc d p (m + 1) 0)
      else .ask (p.getD (m - 1) 0) (p.getD m 0) fun x => if x = true then .ret (p, m, q) else kas_desc d p (m + 1) (q + 1) : KasT _).kasWp cmp G s') s
    have hz : m ≤ p.size := by rw [hp.size]; omega
    refine H _ _ _ _ (hp.lt (by omega)) (hp.lt (by omega)) hI fun s' hI' => ?_
    by_cases hlt : kf f p m < kf f p (m - 1)
    · have e : decide (f (p.getD m 0) < f (p.getD (m - 1) 0)) = true := decide_eq_true hlt
      rw [e, if_pos rfl]
      have step : ∀ p' : Array Nat, (∀ k, kf f p' k = kf f p k) → KNonInc f p' (m + 1) := by
        intro p' hk i j hij hj
        rw [hk, hk]
        by_cases hjm : j < m
        · exact hs i j hij hjm
        · have : j = m := by omega
          subst this
          by_cases hi : i = j
          · subst hi; exact Int.le_refl _
          · have := hs i (j - 1) (by omega) (by omega); omega
      by_cases hq0 : q > 0
      · rw [if_pos hq0]
        refine kq_desc d (m + 1) 0 _ s' G (hp.rev _ _) (by omega) (by omega) (step _ (kf_rev_equal hz he)) (by omega) (fun i a b => by congr 1; omega) hI' fun p' k q' s'' a b => hG p' k q' s'' a (by omega)
      · rw [if_neg hq0]
        refine kq_desc d (m + 1) 0 _ s' G hp (by omega) (by omega) (step _ fun _ => rfl) (by omega) (fun i a b => by congr 1; omega) hI' fun p' k q' s'' a b => hG p' k q' s'' a (by omega)
    · have e : decide (f (p.getD m 0) < f (p.getD (m - 1) 0)) = false := decide_eq_false hlt
      rw [e, if_neg (by simp)]
      show cmp (p.getD (m - 1) 0) (p.getD m 0) (fun x s'' => (if x = true then KasT.ret (p, m, q) else kas_desc d p (m + 1) (q + 1)).kasWp cmp G s'') s'
      refine H _ _ _ _ (hp.lt (by omega)) (hp.lt (by omega)) hI' fun s'' hI'' => ?_
      by_cases hgt : kf f p (m - 1) < kf f p m
      · have e : decide (f (p.getD (m - 1) 0) < f (p.getD m 0)) = true := decide_eq_true hgt
        rw [e, if_pos rfl]
        exact hG p m q s'' hp (Nat.le_refl _) (by omega) hI'' hs hq he
      · have e : decide (f (p.getD (m - 1) 0) < f (p.getD m 0)) = false := decide_eq_false hgt
        rw [e, if_neg (by simp)]
        have heq : kf f p m = kf f p (m - 1) := by omega
        refine kq_desc d (m + 1) (q + 1) p s'' G hp (by omega) (by omega) ?_ (by omega) ?_ hI'' fun p' k q' s'' a b => hG p' k q' s'' a (by omega)
        · intro i j hij hj
          by_cases hjm : j < m
          · exact hs i j hij hjm
          · have : j = m := by omega
            subst this
            by_cases hi : i = j
            · subst hi; exact Int.le_refl _
            · rw [heq]; exact hs i (j - 1) (by omega) (by omega)
        · intro i a b
          rw [show m + 1 - 1 = m by omega]
          by_cases hi : i = m
          · subst hi; rfl
          · rw [heq]; exact he i (by omega) (by omega)
theorem kq_tail3 {p : Array Nat} {m : Nat} {s : Shared} {G : Nat × Array Nat → Shared → Prop} (hp : KPerm n p) (h1 : 1 ≤ m) (hm : m ≤ n) (hs : KNonInc f p m) (hI : I s)
    (hG : ∀ k p' s', KPerm n p' → 1 ≤ k → k ≤ n → I s' → KSorted f p' k → G (k, p') s') : (kas_tail3 m n p).kasWp cmp G s := by
  unfold kas_tail3
  rw [KasT.kasWp_bind]
  have hz : m ≤ p.size := by rw [hp.size]; exact hm
  refine kq_asc H (hp.rev 0 m) (n - m) m s _ h1 (by omega) ?_ hI fun k s' a b c x y => hG k _ s' (hp.rev 0 m) (by omega) b c x
  intro i j hij hj
  rw [kf_rev hz, kf_rev hz, if_pos (by omega), if_pos (by omega)]
  exact hs _ _ (by omega) (by omega)
theorem kq_descPart {p : Array Nat} {m : Nat} {s : Shared} {G : Nat × Array Nat → Shared → Prop} (hp : KPerm n p) (hm : m + 1 ≤ n) (hs : KNonInc f p (m + 1)) (hI : I s)
    (hG : ∀ k p' s', KPerm n p' → 1 ≤ k → k ≤ n → I s' → KSorted f p' k → G (k, p') s') : (kas_descPart m n p).kasWp cmp G s := by
  unfold kas_descPart
  rw [KasT.kasWp_bind]
  refine kq_desc H (n - (m + 1)) (m + 1) 0 p s _ hp (by omega) (by omega) hs (by omega) (fun i a b => by congr 1; omega) hI fun p' k q' s' hp' a b hI' hs' hq' he' => ?_
  have hz : k ≤ p'.size := by rw [hp'.size]; exact b
  dsimp only
  by_cases hq : q' > 0
  · rw [if_pos hq]
    refine kq_tail3 H (hp'.rev _ _) (by omega) b ?_ hI' hG
    intro i j hij hj
    rw [kf_rev_equal hz he', kf_rev_equal hz he']
    exact hs' i j hij hj
  · rw [if_neg hq]
    exact kq_tail3 H hp' (by omega) b hs' hI' hG
theorem kq_count {p : Array Nat} {s : Shared} {G : Nat × Array Nat → Shared → Prop} (hp : KPerm n p) (h1 : 1 ≤ n) (hI : I s)
    (hG : ∀ k p' s', KPerm n p' → 1 ≤ k → k ≤ n → I s' → KSorted f p' k → G (k, p') s') : (kas_count n p).kasWp cmp G s := by
  unfold kas_count
  rw [KasT.kasWp_bind]
  refine kq_asc H hp (n - 1) 1 s _ (Nat.le_refl _) (by omega) (fun i j hij hj => by have : i = j := (by omega); subst this; exact Int.le_refl _) hI fun k s' a b hI' hs hor => ?_
  by_cases hk : k = n
  · rw [if_pos (by simpa using hk)]
    exact hG k p s' hp a b hI' hs
  · rw [if_neg (by simpa using hk)]
    have hlt := hor.resolve_left hk
    by_cases hgt : k > 1
    · rw [if_pos hgt]
      show cmp (p.getD 0 0) (p.getD (k - 1) 0) (fun c s'' => (if c = true then KasT.ret (k, p) else kas_descPart k n (kas_rev p 0 k)).kasWp cmp G s'') s'
      refine H _ _ _ _ (hp.lt (by omega)) (hp.lt (by omega)) hI' fun s'' hI'' => ?_
      by_cases hr : kf f p 0 < kf f p (k - 1)
      · have e : decide (f (p.getD 0 0) < f (p.getD (k - 1) 0)) = true := decide_eq_true hr
        rw [e, if_pos rfl]
        exact hG k p s'' hp a b hI'' hs
      · have e : decide (f (p.getD 0 0) < f (p.getD (k - 1) 0)) = false := decide_eq_false hr
        rw [e, if_neg (by simp)]
        have hz : k ≤ p.size := by rw [hp.size]; exact b
        have hall : ∀ i, 0 ≤ i → i < k → kf f p i = kf f p (k - 1) := by
          intro i _ hi
          have a1 := hs 0 i (by omega) hi
          have a2 := hs i (k - 1) (by omega) (by omega)
          omega
        refine kq_descPart H (hp.rev _ _) (by omega) ?_ hI'' hG
        intro i j hij hj
        rw [kf_rev_equal hz hall, kf_rev_equal hz hall]
        by_cases hjk : j < k
        · rw [hall i (by omega) (by omega), hall j (by omega) hjk]; exact Int.le_refl _
        · have : j = k := by omega
          subst this
          by_cases hi : i = j
          · subst hi; exact Int.le_refl _
          · rw [hall i (by omega) (by omega)]; omega
    · rw [if_neg hgt]
      have : k = 1 := by omega
      subst this
      refine kq_descPart H hp (by omega) ?_ hI' hG
      intro i j hij hj
      by_cases hi : i = j
      · subst hi; exact Int.le_refl _
      · have h0 : i = 0 := by omega
        have h1 : j = 1 := by omega
        subst h0; subst h1
        exact Int.le_of_lt hlt
theorem kq_place {p : Array Nat} {k : Nat} (hp : KPerm n p) (hk : k < n) (hs : KSorted f p k) : ∀ (d l r : Nat) (s : Shared) (G : Nat → Shared → Prop), l ≤ r → r ≤ k → r - l ≤ d → I s →
    (∀ i, i < l → kf f p i ≤ kf f p k) → (∀ i, r ≤ i → i < k → kf f p k < kf f p i) →
    (∀ l' s', l' ≤ k → I s' → (∀ i, i < l' → kf f p i ≤ kf f p k) → (∀ i, l' ≤ i → i < k → kf f p k < kf f p i) → G l' s') → (kas_place p k d l r).kasWp cmp G s
  | 0, l, r, s, G, hlr, hr, hd, hI, hlo, hhi, hG => by
    have : l = r := by omega
    subst this
    exact hG l s hr hI hlo hhi
  | d + 1, l, r, s, G, hlr, hr, hd, hI, hlo, hhi, hG => by
    unfold kas_place
    by_cases hge : l ≥ r
    · rw [if_pos hge]
      have : l = r := by omega
      subst this
      exact hG l s hr hI hlo hhi
    · rw [if_neg hge]
      show cmp (p.getD k 0) (p.getD ((l + r) / 2) 0) (fun c s' => (if c = true then kas_place p k d l ((l + r) / 2) else kas_place p k d ((l + r) / 2 + 1) r).kasWp cmp G s') s
      refine H _ _ _ _ (hp.lt hk) (hp.lt (by omega)) hI fun s' hI' => ?_
      by_cases hlt : kf f p k < kf f p ((l + r) / 2)
      · have e : decide (f (p.getD k 0) < f (p.getD ((l + r) / 2) 0)) = true := decide_eq_true hlt
        rw [e, if_pos rfl]
        refine kq_place hp hk hs d l _ s' G (by omega) (by omega) (by omega) hI' hlo (fun i a b => ?_) hG
        have := hs ((l + r) / 2) i a b; omega
      · have e : decide (f (p.getD k 0) < f (p.getD ((l + r) / 2) 0)) = false := decide_eq_false hlt
        rw [e, if_neg (by simp)]
        refine kq_place hp hk hs d _ r s' G (by omega) (by omega) (by omega) hI' (fun i a => ?_) hhi hG
        have := hs i ((l + r) / 2) (by omega) (by omega); omega
theorem kq_bin : ∀ (d k : Nat) (p : Array Nat) (s : Shared) (G : Array Nat → Shared → Prop), k + d = n → 1 ≤ k → KPerm n p → KSorted f p k → I s →
    (∀ p' s', KPerm n p' → I s' → KSorted f p' n → G p' s') → (kas_bin d p k).kasWp cmp G s
  | 0, k, p, s, G, hd, h1, hp, hs, hI, hG => by
    have : k = n := by omega
    subst this
    exact hG p s hp hI hs
  | d + 1, k, p, s, G, hd, h1, hp, hs, hI, hG => by
    show ((kas_place p k k 0 k).bind fun l => kas_bin d (bubble p k (k - l)) (k + 1)).kasWp cmp G s
    rw [KasT.kasWp_bind]
    have hz : k < p.size := by rw [hp.size]; omega
    refine kq_place H hp (by omega) hs k 0 k s _ (Nat.zero_le _) (Nat.le_refl _) (by omega) hI (fun i h => by omega) (fun i a b => by omega) fun l s' hl hI' hlo hhi => ?_
    refine kq_bin d (k + 1) _ s' G (by omega) (by omega) (hp.bub _ _) ?_ hI' hG
    intro i j hij hj
    rw [kf_bubble hz (by omega), kf_bubble hz (by omega)]
    have e : k - (k - l) = l := by omega
    rw [e]
    by_cases c1 : i = l
    · rw [if_pos c1]
      by_cases c2 : j = l
      · rw [if_pos c2]; exact Int.le_refl _
      · rw [if_neg c2]
        by_cases c3 : l < j ∧ j ≤ k
        · rw [if_pos c3]; exact Int.le_of_lt (hhi (j - 1) (by omega) (by omega))
        · omega
    · rw [if_neg c1]
      by_cases c2 : j = l
      · rw [if_pos c2, if_neg (by omega)]; exact hlo i (by omega)
      · rw [if_neg c2]
        by_cases c3 : l < i ∧ i ≤ k
        · rw [if_pos c3]
          rw [if_pos (by omega)]
          exact hs _ _ (by omega) (by omega)
        · rw [if_neg c3]
          by_cases c4 : l < j ∧ j ≤ k
          · rw [if_pos c4]; exact hs _ _ (by omega) (by omega)
          · rw [if_neg c4]; exact hs _ _ (by omega) (by omega)
/-- THE SORT: any comparison that tells f's order gives a rising order of 0 .. n - 1 -/
theorem kq_sort {s : Shared} {G : Array Nat → Shared → Prop} (h1 : 1 ≤ n) (hI : I s) (hG : ∀ p s', KPerm n p → I s' → KSorted f p n → G p s') : (kas_sort n).kasWp cmp G s := by
  unfold kas_sort
  rw [KasT.kasWp_bind]
  refine kq_count H (Array.Perm.refl _) h1 hI fun k p s' hp a b hI' hs => ?_
  dsimp only
  by_cases hlt : k < n
  · rw [if_pos hlt]
    have e : max k 1 = k := by omega
    rw [e]
    exact kq_bin H (n - k) k p s' G (by omega) a hp hs hI' hG
  · rw [if_neg hlt]
    have : k = n := by omega
    subst this
    exact hG p s' hp hI' hs
end
end Mine
end
section
namespace Mine
open PySem PySem.W PyProof.Rows

/-! Rules of the model's that the library lacks: max and min of floats. -/
abbrev Sub (h h' : Heap) : Prop := ∀ b o, h.get? b = some o → h'.get? b = some o
theorem Sub.rfl' (h : Heap) : Sub h h := fun _ _ e => e
theorem Sub.trans' {h h' h'' : Heap} (a : Sub h h') (b : Sub h' h'') : Sub h h'' := fun x o e => b x o (a x o e)

/-- these values are these floats -/
inductive FloatsAre : List Value → List UInt64 → Prop
  | nil : FloatsAre [] []
  | cons (x : UInt64) (t : Tok) {vs : List Value} {xs : List UInt64} : FloatsAre vs xs → FloatsAre (.float x t :: vs) (x :: xs)
theorem FloatsAre.length : ∀ {vs : List Value} {xs : List UInt64}, FloatsAre vs xs → vs.length = xs.length
  | _, _, .nil => rfl
  | _, _, .cons _ _ h => by simp [h.length]
theorem FloatsAre.get : ∀ {vs : List Value} {xs : List UInt64}, FloatsAre vs xs → ∀ (i : Nat) (x : UInt64), xs[i]? = some x → ∃ t, vs[i]? = some (.float x t)
  | _, _, .cons x t _, 0, y, e => by simp at e; subst e; exact ⟨t, rfl⟩
  | _, _, .cons _ _ h, i + 1, y, e => by simpa using h.get i y (by simpa using e)
/-- a tuple, a list of floats at D -/
def TupF (h : Heap) (D : Addr) (xs : List UInt64) : Prop := ∃ vs n, h.get? D = some { cls := .type "tuple", data := .seq vs.toArray n } ∧ FloatsAre vs xs
def LstF (h : Heap) (D : Addr) (xs : List UInt64) : Prop := ∃ vs n, h.get? D = some { cls := .type "list", data := .seq vs.toArray n } ∧ FloatsAre vs xs
def LstI (h : Heap) (D : Addr) (xs : List Int) : Prop := ∃ vs n, h.get? D = some { cls := .type "list", data := .seq vs.toArray n } ∧ IntsAre vs xs

section
variable {prog : Program} {w : World} {A : Around} {E : Value → Shared → Prop} {s : Shared}
theorem cmp_gt_floats {P : Nat → Value → Prop} (val : Nat → UInt64) (hval : ∀ i v, P i v → ∃ t, v = .float (val i) t) :
    CmpOf prog w A .Gt P (fun i j => Float64.cmp (val i) (val j) == some Ordering.gt) := fun i j vi vj s Q E hi hj h => by
  obtain ⟨t, rfl⟩ := hval i vi hi
  obtain ⟨u, rfl⟩ := hval j vj hj
  exact AutoFloatOps.gt_0 h
theorem cmp_lt_floats {P : Nat → Value → Prop} (val : Nat → UInt64) (hval : ∀ i v, P i v → ∃ t, v = .float (val i) t) :
    CmpOf prog w A .Lt P (fun i j => Float64.cmp (val i) (val j) == some Ordering.lt) := fun i j vi vj s Q E hi hj h => by
  obtain ⟨t, rfl⟩ := hval i vi hi
  obtain ⟨u, rfl⟩ := hval j vj hj
  exact AutoFloatOps.lt_0 h
def fItems (xs : Array (UInt64 × Tok)) : Array Value := xs.map fun p => .float p.1 p.2
def fAt (xs : Array (UInt64 × Tok)) (i : Nat) : UInt64 := (xs[i]?.map (·.1)).getD 0
theorem fItems_at {xs : Array (UInt64 × Tok)} {i : Nat} {v : Value} (h : (fItems xs)[i]? = some v) : ∃ t, v = .float (fAt xs i) t := by
  simp only [fItems, Array.getElem?_map, Option.map_eq_some_iff] at h
  obtain ⟨p, hp, rfl⟩ := h
  exact ⟨p.2, by simp [fAt, hp]⟩
/-- a call that walks over a tuple of its own, as max(a, b, c) does -/
theorem walks_own {Q : Value → Shared → Prop} {op : CmpOp} {bt : Nat → Nat → Bool} (hh : A.handled = none) (xs : Array (UInt64 × Tok)) {its : Array Value} (he : its = fItems xs) (hne : 0 < xs.size)
    (hc : CmpOf prog w A.in1 op (fun i v => (fItems xs)[i]? = some v) bt)
    (h : ∀ t h' tk, Sub s.heap h' → Q (.float (fAt xs (argBest bt (xs.size - 1))) t) { s with heap := h', toks := tk }) :
    wpAny (model prog w) A.in1 (pyIter (.ref s.heap.objs.size)) (fun it s₂ => ∃ I fp wr n P St bt, it = .ref I ∧ Walks prog w A.in1 I fp wr n P St ∧ St 0 s₂.heap ∧ (∀ b ∈ fp, b < s₂.heap.objs.size) ∧ 0 < n ∧ CmpOf prog w A.in1 op P bt ∧
      ∀ v h' tk, P (argBest bt (n - 1)) v → (∀ b o, b ∉ wr → s₂.heap.get? b = some o → h'.get? b = some o) → Q v { s₂ with heap := h', toks := tk }) E
      { s with heap := s.heap.push { cls := .type "tuple", data := .seq its } } := by
  subst he
  have hT : (s.heap.push { cls := .type "tuple", data := .seq (fItems xs) }).IsTuple s.heap.objs.size (fItems xs) := ⟨_, Heap.get?_push_size _ rfl, rfl, 0, rfl⟩
  refine wpAny_pyIter_tuple hT ?_
  have hsz : (s.heap.push { cls := .type "tuple", data := .seq (fItems xs) }).objs.size = s.heap.objs.size + 1 := Heap.size_push ..
  refine ⟨_, [_, s.heap.objs.size], [_], _, _, _, _, rfl, Walks.tuple (A := A.in1) hh _ s.heap.objs.size (by rw [hsz]; exact Nat.ne_of_lt (Nat.lt_succ_self _)) (fItems xs),
    ⟨⟨_, Heap.get?_push_size _ rfl, rfl, rfl⟩, hT.push _⟩, fun d hd => ?_, by simpa [fItems] using hne, hc, fun v h' tk hP hk => ?_⟩
  · show d < ((s.heap.push _).push _).objs.size
    rw [Heap.size_push, hsz]
    rcases List.mem_cons.mp hd with rfl | hd
    · rw [hsz]; exact Nat.lt_succ_self _
    · rcases List.mem_cons.mp hd with rfl | hd
      · exact Nat.lt_succ_of_lt (Nat.lt_succ_self _)
      · cases hd
  · have hold : Sub s.heap h' := fun d o e => by
      refine hk d o (fun hm => ?_) (Heap.get?_push_of_some _ (Heap.get?_push_of_some _ e))
      rcases List.mem_cons.mp hm with e1 | hm
      · have := Heap.lt_size e; rw [e1, hsz] at this; exact Nat.lt_irrefl _ (Nat.lt_of_succ_lt this)
      · cases hm
    have hs2 : (fItems xs).size = xs.size := by simp [fItems]
    rw [hs2] at hP
    obtain ⟨t, rfl⟩ := fItems_at hP
    exact h t h' tk hold
theorem max3_float {x y z : UInt64} {t u v : Tok} {Q : Value → Shared → Prop} (hh : A.handled = none)
    (h : ∀ t' h' tk, Sub s.heap h' → Q (.float (maxF x y z) t') { s with heap := h', toks := tk }) :
    wpAny (model prog w) A (call (.builtin "max") [.float x t, .float y u, .float z v]) Q E s := by
  refine call_max_three (walks_own hh #[(x, t), (y, u), (z, v)] (by simp [fItems]) (by simp) (cmp_gt_floats (fAt #[(x, t), (y, u), (z, v)]) fun _ _ => fItems_at) fun t' h' tk hk => ?_)
  have e : fAt #[(x, t), (y, u), (z, v)] (argBest (fun i j => Float64.cmp (fAt #[(x, t), (y, u), (z, v)] i) (fAt #[(x, t), (y, u), (z, v)] j) == some Ordering.gt) 2) = maxF x y z := by
    unfold maxF
    cases hb : Float64.cmp y x == some Ordering.gt with
    | true => cases hc : Float64.cmp z y == some Ordering.gt <;> simp [argBest, fAt, hb, hc]
    | false => cases hc : Float64.cmp z x == some Ordering.gt <;> simp [argBest, fAt, hb, hc]
  have := h t' h' tk hk
  rw [← e] at this
  exact this
theorem min3_float {x y z : UInt64} {t u v : Tok} {Q : Value → Shared → Prop} (hh : A.handled = none)
    (h : ∀ t' h' tk, Sub s.heap h' → Q (.float (minF x y z) t') { s with heap := h', toks := tk }) :
    wpAny (model prog w) A (call (.builtin "min") [.float x t, .float y u, .float z v]) Q E s := by
  refine call_min_three (walks_own hh #[(x, t), (y, u), (z, v)] (by simp [fItems]) (by simp) (cmp_lt_floats (fAt #[(x, t), (y, u), (z, v)]) fun _ _ => fItems_at) fun t' h' tk hk => ?_)
  have e : fAt #[(x, t), (y, u), (z, v)] (argBest (fun i j => Float64.cmp (fAt #[(x, t), (y, u), (z, v)] i) (fAt #[(x, t), (y, u), (z, v)] j) == some Ordering.lt) 2) = minF x y z := by
    unfold minF
    cases hb : Float64.cmp y x == some Ordering.lt with
    | true => cases hc : Float64.cmp z y == some Ordering.lt <;> simp [argBest, fAt, hb, hc]
    | false => cases hc : Float64.cmp z x == some Ordering.lt <;> simp [argBest, fAt, hb, hc]
  have := h t' h' tk hk
  rw [← e] at this
  exact this
theorem max2_float {x y : UInt64} {t u : Tok} {Q : Value → Shared → Prop} (hh : A.handled = none)
    (h : ∀ t' h' tk, Sub s.heap h' → Q (.float (if Float64.cmp y x == some Ordering.gt then y else x) t') { s with heap := h', toks := tk }) :
    wpAny (model prog w) A (call (.builtin "max") [.float x t, .float y u]) Q E s := by
  refine call_max_two (walks_own hh #[(x, t), (y, u)] (by simp [fItems]) (by simp) (cmp_gt_floats (fAt #[(x, t), (y, u)]) fun _ _ => fItems_at) fun t' h' tk hk => ?_)
  have e : fAt #[(x, t), (y, u)] (argBest (fun i j => Float64.cmp (fAt #[(x, t), (y, u)] i) (fAt #[(x, t), (y, u)] j) == some Ordering.gt) 1) = if Float64.cmp y x == some Ordering.gt then y else x := by
    cases hb : Float64.cmp y x == some Ordering.gt <;> simp [argBest, fAt, hb]
  have := h t' h' tk hk
  rw [← e] at this
  exact this

theorem div_f {a b : UInt64} {t u : Tok} {Q : Value → Shared → Prop} (hz : Float64.isZero b = false) (h : Q (.float (Float64.div a b) s.toks) { s with toks := s.toks + 1 }) : wpAny (model prog w) A (binaryOp .Div (.float a t) (.float b u)) Q E s :=
  AutoFloatOps.truediv_1 (by simp [hz]) h
theorem mod_f {a b : UInt64} {t u : Tok} {Q : Value → Shared → Prop} (hz : Float64.isZero b = false) (h : Q (.float (Float64.divmod a b).snd s.toks) { s with toks := s.toks + 1 }) : wpAny (model prog w) A (binaryOp .Mod (.float a t) (.float b u)) Q E s :=
  AutoFloatOps.mod_1 (by simp [hz]) h
theorem fr_sub {h₀ h h' : Heap} {L : Addr} {m : Str → Option Value} (F : Fr h₀ L h m) (k : Sub h h') : Fr h₀ L h' m := ⟨F.ns.keeps k, fun b o e => k b o (F.keep b o e), F.above⟩
theorem news_sub {h₀ h h' : Heap} {L : Addr} {news : List (Addr × Obj)} (N : News h₀ L h news) (k : Sub h h') : News h₀ L h' news := fun p hp => ⟨k _ _ (N p hp).1, (N p hp).2⟩
variable {h₀ : Heap} {L : Addr} {m : Str → Option Value} {news : List (Addr × Obj)}
theorem max3_N {x y z : UInt64} {t u v : Tok} {Q : Value → Shared → Prop} (hh : A.handled = none) (F : Fr h₀ L s.heap m) (N : News h₀ L s.heap news)
    (h : ∀ t' h' tk, Fr h₀ L h' m → News h₀ L h' news → Q (.float (maxF x y z) t') { s with heap := h', toks := tk }) :
    wpAny (model prog w) A (call (.builtin "max") [.float x t, .float y u, .float z v]) Q E s :=
  max3_float hh fun t' h' tk k => h t' h' tk (fr_sub F k) (news_sub N k)
theorem min3_N {x y z : UInt64} {t u v : Tok} {Q : Value → Shared → Prop} (hh : A.handled = none) (F : Fr h₀ L s.heap m) (N : News h₀ L s.heap news)
    (h : ∀ t' h' tk, Fr h₀ L h' m → News h₀ L h' news → Q (.float (minF x y z) t') { s with heap := h', toks := tk }) :
    wpAny (model prog w) A (call (.builtin "min") [.float x t, .float y u, .float z v]) Q E s :=
  min3_float hh fun t' h' tk k => h t' h' tk (fr_sub F k) (news_sub N k)
theorem max2_N {x y : UInt64} {t u : Tok} {Q : Value → Shared → Prop} (hh : A.handled = none) (F : Fr h₀ L s.heap m) (N : News h₀ L s.heap news)
    (h : ∀ t' h' tk, Fr h₀ L h' m → News h₀ L h' news → Q (.float (if Float64.cmp y x == some Ordering.gt then y else x) t') { s with heap := h', toks := tk }) :
    wpAny (model prog w) A (call (.builtin "max") [.float x t, .float y u]) Q E s :=
  max2_float hh fun t' h' tk k => h t' h' tk (fr_sub F k) (news_sub N k)
end
end Mine
end
section
namespace Mine
open PySem PySem.W PyProof.Rows

abbrev PR : Program := PySem.Challenge.rw_mq0090_01.row.prog

section
variable {prog : Program} {w : World} {A : Around} {E : Value → Shared → Prop} {s : Shared} {K : Frag} {mg mb : Str → Option Value} {p : Program} {loose : List Str} {mean : ExcName → Option Value}
/-- a call of a def of the top's that closes over nothing and keeps no cell; its base is the heap at the call -/
theorem call_pure {Q : Value → Shared → Prop} {name qual : Str} {params : Arguments} {body : List Stmt} {scope : Scope} {dV kV doc pm cdv ct oc : Value} {an od : Option Addr} {osl : Array (Option Value)} {f : Addr} {args : List Value} {binds : List (Str × Value)}
    (X : K.In s.heap) (T : Top p loose mean mg mb s.heap)
    (ho : K.lookup f = some ⟨oc, od, .func (fnOf name qual params body scope dV kV doc pm an cdv ct), osl⟩) (hcd : codeIn K cdv qual = true) (hroom : A.depth < recursionLimit)
    (hbind : BindsTo s (fnOf name qual params body scope dV kV doc pm an cdv ct) ⟨args, []⟩ binds) (hloc : ∀ y ∈ binds, scope.names.lookup y.1 = some .local)
    (h : ∀ L h₁, Fr s.heap L h₁ (fun y => binds.reverse.lookup y) →
      wpAny (model prog w) (A.deeper (envOf qual scope L f cdv)) (execs body (envOf qual scope L f cdv))
        (fun fl s' => Q (match fl with | .ret v => v | _ => .none) s') (fun _ _ => False)
        { s with heap := h₁, toks := s.toks + binds.length })
    (hco : scope.isCoroutine = false) (hgen : scope.isGenerator = false) (hk : scope.kind = .function) (hcell : ∀ x ∈ scope.names, x.2 ≠ .cell) :
    wpAny (model prog w) A (call (.ref f) args) Q E s := by
  refine wpAny_call (codeAny_call_def (fd := fnOf name qual params body scope dV kV doc pm an cdv ct) (body := body) (binds := binds) hroom (X _ _ ho) rfl T.nolimit (codeRec_of X hcd) rfl hbind hcell hloc (fun h₁ hns hk₁ => ?_) hco hgen hk)
  exact wpAny_mono (h _ h₁ ⟨hns, hk₁, Nat.le_refl _⟩) (fun _ _ x => x) fun _ _ x => x.elim
end
end Mine
end
namespace Mine
open PySem PySem.W PyProof.Rows in
/-- one step with the library's lines alone -/
theorem clear_mqcolor {prog : Program} {w : World} {A : Around} {E : Value → Shared → Prop} {Q : Flow → Shared → Prop} {env : Env} {s : Shared} (h : Q .next s) :
    wpAny (model prog w) A (execs [] env) Q E s := by
  w_top off
  walk1
  exact h
end Mine
section
namespace Mine
open PySem PySem.W PyProof.Rows
local macro_rules | `(tactic| walk_at "call builtin:max") => `(tactic| k_dflt (apply max3_N <;> first | assumption | intros))
local macro_rules | `(tactic| walk_at "call builtin:min") => `(tactic| k_dflt (apply min3_N <;> first | assumption | intros))
local macro_rules | `(tactic| walk_at "binaryOp Div float float") => `(tactic| (refine div_f (by first | assumption | decide +kernel) ?_))
local macro_rules | `(tactic| walk_at "binaryOp Mod float float") => `(tactic| (refine mod_f (by first | assumption | decide +kernel) ?_))
set_option maxRecDepth 100000 in
set_option maxHeartbeats 8000000 in
/-- rgb_to_hsv, once for all floats -/
theorem hsv_call (w : World) (p : Program) (loose : List Str) (mean : ExcName → Option Value) (mg mb : Str → Option Value)
    (A : Around) (s : Shared) (r g b : UInt64) (tr tg tb : Tok) (Q E : Value → Shared → Prop) :
    (Mine.hd.heap_39 w.params).In s.heap → Top p loose mean mg mb s.heap → A.handled = none → A.depth < recursionLimit → hsvOk r g b = true →
    (∀ D h' tk, Sub s.heap h' → s.heap.get? D = none → TupF h' D [(hsvF r g b).1, (hsvF r g b).2.1, (hsvF r g b).2.2] → Q (.ref D) { s with heap := h', toks := tk }) →
    wpAny (model PySem.Challenge.rw_mq0090_01.row.prog w) A (call (.ref 35) [.float r tr, .float g tg, .float b tb]) Q E s := by
  k_fill
  intro X T hh hd hok hQ
  k_dflt (refine' call_pure (binds := [(Str.ofString "r", .float r tr), (Str.ofString "g", .float g tg), (Str.ofString "b", .float b tb)]) ?k1 ?k5 ?k6 ?k7 ?k8 ?k9 ?kB ?_ ?c2 ?c3 ?c4 ?c5; (case k1 => assumption); (case k5 => assumption); (case k6 => k_is); (case k7 => k_is); (case k8 => assumption); (case k9 => exact BindsTo.of_eq rfl); (case kB => exact locs rfl); (case c2 => exact rfl); (case c3 => exact rfl); (case c4 => exact rfl); (case c5 => decide))
  intro L' h' F'
  have N' : News s.heap L' h' [] := News.nil
  have hnz : (Float64.cmp (minF r g b) (maxF r g b) == some Ordering.eq) = false → Float64.isZero (maxF r g b) = false ∧ Float64.isZero (Float64.sub (maxF r g b) (minF r g b)) = false := fun h => by
    simpa [hsvOk, eqF, h] using hok
  w_strict k_steps
  · refine hQ _ _ _ (Fr.keep (by assumption)) (News.fresh (by assumption) (.head _)) ⟨_, _, News.get (by assumption) (.head _), ?_⟩
    simp only [hsvF, hueF, eqF, f0, *, if_true]
    exact .cons _ _ (.cons _ _ (.cons _ _ .nil))
  · obtain ⟨z1, z2⟩ := hnz (by assumption)
    w_strict k_steps
    all_goals (
      refine hQ _ _ _ (Fr.keep (by assumption)) (News.fresh (by assumption) (.head _)) ⟨_, _, News.get (by assumption) (.head _), ?_⟩
      simp only [hsvF, hueF, eqF, *, if_true, if_false, Bool.false_eq_true]
      exact .cons _ _ (.cons _ _ (.cons _ _ .nil)))
set_option maxRecDepth 100000 in
set_option maxHeartbeats 8000000 in
/-- rgb_to_hls, once for all floats -/
theorem hls_call (w : World) (p : Program) (loose : List Str) (mean : ExcName → Option Value) (mg mb : Str → Option Value)
    (A : Around) (s : Shared) (r g b : UInt64) (tr tg tb : Tok) (Q E : Value → Shared → Prop) :
    (Mine.hd.heap_39 w.params).In s.heap → Top p loose mean mg mb s.heap → A.handled = none → A.depth < recursionLimit → hlsOk r g b = true →
    (∀ D h' tk, Sub s.heap h' → s.heap.get? D = none → TupF h' D [(hlsF r g b).1, (hlsF r g b).2.1, (hlsF r g b).2.2] → Q (.ref D) { s with heap := h', toks := tk }) →
    wpAny (model PySem.Challenge.rw_mq0090_01.row.prog w) A (call (.ref 28) [.float r tr, .float g tg, .float b tb]) Q E s := by
  k_fill
  intro X T hh hd hok hQ
  k_dflt (refine' call_pure (binds := [(Str.ofString "r", .float r tr), (Str.ofString "g", .float g tg), (Str.ofString "b", .float b tb)]) ?k1 ?k5 ?k6 ?k7 ?k8 ?k9 ?kB ?_ ?c2 ?c3 ?c4 ?c5; (case k1 => assumption); (case k5 => assumption); (case k6 => k_is); (case k7 => k_is); (case k8 => assumption); (case k9 => exact BindsTo.of_eq rfl); (case kB => exact locs rfl); (case c2 => exact rfl); (case c3 => exact rfl); (case c4 => exact rfl); (case c5 => decide))
  intro L' h' F'
  have N' : News s.heap L' h' [] := News.nil
  have hnz : (Float64.cmp (minF r g b) (maxF r g b) == some Ordering.eq) = false → Float64.isZero (Float64.sub (maxF r g b) (minF r g b)) = false ∧
      ((Float64.cmp (Float64.div (Float64.add (maxF r g b) (minF r g b)) f2) fHalf == some Ordering.lt || Float64.cmp (Float64.div (Float64.add (maxF r g b) (minF r g b)) f2) fHalf == some Ordering.eq) = true → Float64.isZero (Float64.add (maxF r g b) (minF r g b)) = false) ∧
      ((Float64.cmp (Float64.div (Float64.add (maxF r g b) (minF r g b)) f2) fHalf == some Ordering.lt || Float64.cmp (Float64.div (Float64.add (maxF r g b) (minF r g b)) f2) fHalf == some Ordering.eq) = false → Float64.isZero (Float64.sub (Float64.sub f2 (maxF r g b)) (minF r g b)) = false) := fun h => by
    cases hl : leF (Float64.div (Float64.add (maxF r g b) (minF r g b)) f2) fHalf <;> simp [hlsOk, eqF, h, hl] at hok <;> unfold leF at hl <;> simp [hl, hok]
  w_strict k_steps
  · refine hQ _ _ _ (Fr.keep (by assumption)) (News.fresh (by assumption) (.head _)) ⟨_, _, News.get (by assumption) (.head _), ?_⟩
    simp only [hlsF, hueF, eqF, f0, f2, *, if_true]
    exact .cons _ _ (.cons _ _ (.cons _ _ .nil))
  · obtain ⟨z1, z2, z3⟩ := hnz (by assumption)
    have z4 := z2 (by assumption)
    w_strict k_steps
    all_goals (
      refine hQ _ _ _ (Fr.keep (by assumption)) (News.fresh (by assumption) (.head _)) ⟨_, _, News.get (by assumption) (.head _), ?_⟩
      simp only [hlsF, hueF, eqF, leF, f1, f2, f4, f6, fHalf, *, if_true, if_false, Bool.false_eq_true]
      exact .cons _ _ (.cons _ _ (.cons _ _ .nil)))
  · obtain ⟨z1, z2, z3⟩ := hnz (by assumption)
    have z4 := z3 (by assumption)
    w_strict k_steps
    all_goals (
      refine hQ _ _ _ (Fr.keep (by assumption)) (News.fresh (by assumption) (.head _)) ⟨_, _, News.get (by assumption) (.head _), ?_⟩
      simp only [hlsF, hueF, eqF, leF, f1, f2, f4, f6, fHalf, *, if_true, if_false, Bool.false_eq_true]
      exact .cons _ _ (.cons _ _ (.cons _ _ .nil)))
end Mine
end
section
namespace Mine
open PySem PySem.W PyProof.Rows

/-! List comprehensions over a list object or a range, as rules over any heap. -/
theorem sub_push {h : Heap} (o : Obj) : Sub h (h.push o) := fun _ _ e => Heap.get?_push_of_some _ e
theorem sub_of_iter {h h' : Heap} {o : Obj} (hk : ∀ b ob, b ∉ [h.objs.size] → (h.push o).get? b = some ob → h'.get? b = some ob) : Sub h h' := fun b ob e =>
  hk b ob (fun hm => by rw [List.mem_singleton.mp hm] at e; exact Nat.lt_irrefl _ (Heap.lt_size e)) (Heap.get?_push_of_some _ e)

theorem filter_all {α : Type} (l : List α) : l.filter (fun _ => true) = l := List.filter_eq_self.mpr fun _ _ => rfl
theorem paired_map {F : Int → Value → Prop} (num : Value → Int) : ∀ {l ys : List Value}, Paired (fun v y => F (num v) y) l ys → Paired F (l.map num) ys
  | _, _, .nil => .nil
  | _, _, .cons h t => .cons h (paired_map num t)
/-- 0 .. n - 1 -/
def natInts (n : Nat) : List Int := (List.range n).map fun (k : Nat) => (k : Int)
theorem walks_bound {prog : Program} {w : World} {A : Around} {I : Addr} {fp wr : List Addr} {n : Nat} {P : Nat → Value → Prop} {St : Nat → Heap → Prop} (W : Walks prog w A I fp wr n P St) :
    Walks prog w A I fp wr n (fun i v => i < n ∧ P i v) St :=
  ⟨W.sub, W.frame, fun i s Q E hi st hQ => W.item i s Q E hi st fun v h' tk hP => hQ v h' tk ⟨hi, hP⟩, W.done, W.self⟩
section
variable {prog : Program} {w : World} {A : Around} {E : Value → Shared → Prop} {s : Shared} {env : Env}
/-- the source is a list; what each item gives is told by F -/
theorem comp_list {elt iter : Expr} {x : Str} {px : Pos} {scope : Scope} {cl : List (Str × Addr)} {pos : Pos} {Q : Value → Shared → Prop} (F : Value → Value → Prop) (hh : A.handled = none)
    (hclos : closureFor scope env = pure cl) (hcell : ∀ y ∈ scope.names, y.2 ≠ .cell) (hkind : scope.kind = .function)
    (hnames : ∀ y ∈ scope.names, y.2 = .local → scope.names.lookup y.1 = some .local) (hx : scope.names.lookup x = some .local)
    (h : wpAny (model prog w) A (eval iter env) (fun xv s₁ => ∃ l items, xv = .ref l ∧ s₁.heap.IsList l items ∧ items.size ≤ sizeLine ∧
      (∀ C v s₃ m₃, v ∈ items.toList → s₁.heap.objs.size < C → s₃.heap.Ns C m₃ → m₃ x = some v → Sub s₁.heap s₃.heap →
        wpAny (model prog w) A (eval elt (compEnvC scope cl C env)) (fun y s₄ => F v y ∧ Keeps s₃ s₄) (fun _ _ => False) s₃) ∧
      (∀ D h' tk ys, s₁.heap.get? D = none → h'.PlainList D ys → Paired F items.toList ys.toList → Sub s₁.heap h' → Q (.ref D) { s₁ with heap := h', toks := tk })) E s)
    (hs : ∀ x, foldedSetIterable iter env x = pure x := by intro _; rfl) :
    wpAny (model prog w) A (eval (.ListComp elt [⟨.Name x px, iter, [], 0⟩] scope pos) env) Q E s := by
  refine wpAny_ListComp_free (fun _ => true) F hclos hcell hkind hnames hx (wpAny_mono h (fun xv s₁ h₁ => ?_) fun _ _ e => e) hs
  obtain ⟨l, items, rfl, hl, hsz, helt, hQ⟩ := h₁
  have hlt : l < s₁.heap.objs.size := by obtain ⟨_, e, _⟩ := hl; exact Heap.lt_size e
  refine wpAny_pyIter_list hl ?_
  refine ⟨_, _, _, _, _, _, rfl, Walks.list (prog := prog) (w := w) hh s₁.heap.objs.size l (Nat.ne_of_lt hlt) items, hsz, ⟨⟨_, Heap.get?_push_size _ rfl, rfl, rfl⟩, hl.push _⟩, fun b hb => ?_, ⟨?_, ?_⟩, ?_⟩
  · show b < (s₁.heap.push _).objs.size
    rw [Heap.size_push]
    rcases List.mem_cons.mp hb with rfl | hb
    · exact Nat.lt_succ_self _
    · rw [List.mem_singleton.mp hb]; exact Nat.lt_succ_of_lt hlt
  · intro C i v s₃ m₃ E' _ _ _ _ _ _
    exact wpAny_tests_nil ⟨rfl, s₃.heap, s₃.toks, rfl, fun _ _ e => e⟩
  · intro C i v s₃ m₃ E' hC hP _ hn hm hk _
    refine wpAny_noRaise (helt C v s₃ m₃ ?_ ?_ hn hm (sub_of_iter hk))
    · have hP' : items[i]? = some v := hP
      rw [← Array.getElem?_toList] at hP'
      exact List.mem_of_getElem? hP'
    · have hC' : (s₁.heap.push _).objs.size ≤ C := hC
      rw [Heap.size_push] at hC'
      exact hC'
  · intro D h' tk ys vs hD _ hpl hlen hP hF hk
    have e : vs = items.toList := list_of_places hlen hP
    subst e
    rw [filter_all] at hF
    refine hQ D h' tk ys ?_ hpl hF (sub_of_iter hk)
    cases e : s₁.heap.get? D with
    | none => rfl
    | some o => rw [Heap.get?_push_of_some _ e] at hD; cases hD
/-- the source is a list; each item gives a new list; the answer is stored under a local name -/
theorem comp_listO {elt iter : Expr} {x y : Str} {px py : Pos} {scope : Scope} {cl : List (Str × Addr)} {pos spos : Pos} {Q : Flow → Shared → Prop} (G : Value → Array Value → Prop) (hh : A.handled = none)
    (hsw : swapsWith (.ListComp elt [⟨.Name x px, iter, [], 0⟩] scope pos) (some (.Name y py)) spos.line env = pure true)
    (hclos : closureFor scope env = pure cl) (hcell : ∀ z ∈ scope.names, z.2 ≠ .cell) (hkind : scope.kind = .function)
    (hnames : ∀ z ∈ scope.names, z.2 = .local → scope.names.lookup z.1 = some .local) (hx : scope.names.lookup x = some .local)
    (hy : env.kindOf y = some .local) (hp : (env.scope.kind == .class || (env.scope.kind == .module && env.locals != env.globals)) = false)
    (h : wpAny (model prog w) A (eval iter env) (fun xv s₁ => ∃ l items m, xv = .ref l ∧ s₁.heap.IsList l items ∧ items.size ≤ sizeLine ∧ s₁.heap.Ns env.locals m ∧
      (∀ C v s₃ m₃, v ∈ items.toList → s₁.heap.objs.size < C → s₃.heap.Ns C m₃ → m₃ x = some v → Sub s₁.heap s₃.heap →
        wpAny (model prog w) A (eval elt (compEnvC scope cl C env)) (fun y s₄ => (∃ T its, y = .ref T ∧ s₃.heap.get? T = none ∧ s₄.heap.IsList T its ∧ G v its) ∧ Keeps s₃ s₄) (fun _ _ => False) s₃) ∧
      (∀ D h' tk ys, s₁.heap.get? D = none → h'.PlainList D ys → Paired (LstIs s₁.heap G h') items.toList ys.toList → h'.Ns env.locals (fun z => if z = y then some (.ref D) else m z) →
        (∀ b o, b ≠ env.locals → s₁.heap.get? b = some o → h'.get? b = some o) → Q .next { s₁ with heap := h', toks := tk })) E s)
    (hs : ∀ x, foldedSetIterable iter env x = pure x := by intro _; rfl) :
    wpAny (model prog w) A (exec (.Assign [.Name y py] (.ListComp elt [⟨.Name x px, iter, [], 0⟩] scope pos) spos) env) Q E s := by
  rw [exec_Assign_Name_used _ _ _ _ hsw]
  refine wpAny_bind (wpAny_standAt (wpAny_bind ?_))
  show wpAny _ A (do let _ ← comprehension (.ListComp elt [⟨.Name x px, iter, [], 0⟩] scope pos) scope env _ (newList []) false (eval iter env) (some (assign (.Name y py) env))) _ _ s
  refine wpAny_bind (wpAny_mono (wpAny_comprehension_free (use := some (assign (.Name y py) env)) (Q := fun _ s' => Q .next s') rfl hs hclos hkind hnames
    (wpAny_mono h (fun xv s₁ h₁ => ?_) fun _ _ e => e)) (fun _ s' hq => wpAny_pure (wpAny_pure hq)) fun _ _ e => e)
  obtain ⟨l, items, m, rfl, hl, hsz, hn, helt, hQ⟩ := h₁
  have hlt : l < s₁.heap.objs.size := by obtain ⟨_, e, _⟩ := hl; exact Heap.lt_size e
  refine wpAny_pyIter_list hl ?_
  have W := Walks.list (prog := prog) (w := w) hh s₁.heap.objs.size l (Nat.ne_of_lt hlt) items
  refine comp_block_walkCO (RR := fun acc C => compPost (model prog w) A E (some (assign (.Name y py) env)) (fun _ s' => Q .next s') acc C) W hsz (fun _ => true) G ?_ hcell hkind hx ⟨⟨_, Heap.get?_push_size _ rfl, rfl, rfl⟩, hl.push _⟩ ?_ ⟨?_, ?_⟩ ?_
  · rintro i h' ⟨⟨o, ho, _⟩, _⟩ b hb
    rw [List.mem_singleton.mp hb]
    exact ⟨o, ho⟩
  · intro b hb
    show b < (s₁.heap.push _).objs.size
    rw [Heap.size_push]
    rcases List.mem_cons.mp hb with rfl | hb
    · exact Nat.lt_succ_self _
    · rw [List.mem_singleton.mp hb]; exact Nat.lt_succ_of_lt hlt
  · intro C i v s₃ m₃ E' _ _ _ _ _ _
    exact wpAny_tests_nil ⟨rfl, s₃.heap, s₃.toks, rfl, fun _ _ e => e⟩
  · intro C i v s₃ m₃ E' hC hP _ hn hm hk _
    refine wpAny_noRaise (helt C v s₃ m₃ ?_ ?_ hn hm (sub_of_iter hk))
    · have hP' : items[i]? = some v := hP
      rw [← Array.getElem?_toList] at hP'
      exact List.mem_of_getElem? hP'
    · have hC' : (s₁.heap.push _).objs.size ≤ C := hC
      rw [Heap.size_push] at hC'
      exact hC'
  intro D C h' tk m' ys vs hD hC hDC hnC hlD hplD hlen hP hF _ hk
  have e : vs = items.toList := list_of_places hlen hP
  subst e
  have old : ∀ {T : Addr}, (s₁.heap.push { cls := .type "list_iterator", data := .fields #[.ref l, .int 0 0] }).get? T = none → s₁.heap.get? T = none := fun {T} hT => by
    cases e : s₁.heap.get? T with
    | none => rfl
    | some o => rw [Heap.get?_push_of_some _ e] at hT; cases hT
  have hD' := old hD
  have hC' := old hC
  have hLC : env.locals ≠ C := by rintro rfl; obtain ⟨o, _, _, ho, _⟩ := hn; rw [hC'] at ho; cases ho
  have hLD : env.locals ≠ D := by rintro rfl; obtain ⟨o, _, _, ho, _⟩ := hn; rw [hD'] at ho; cases ho
  have hk' := sub_of_iter hk
  show wpAny _ A (assign (.Name y py) env (.ref D)) _ _ _
  refine wpAny_assign_Name (wpAny_storeName_local hy (hn.keeps hk') (fun h₂ hn₂ hs₂ => ?_) hp)
  refine ⟨m', hnC.sameBut hs₂ (Ne.symm hLC), fun h₃ hs₃ => ?_⟩
  refine hQ D h₃ _ ys hD' ((hplD.extBut hs₂.extBut (Ne.symm hLD)).extBut hs₃.extBut hDC) ?_ (hn₂.sameBut hs₃ hLC) fun b o hbL e =>
    hs₃.extBut b o (by rintro rfl; rw [hC'] at e; cases e) (hs₂.extBut b o hbL (hk' b o e))
  rw [filter_all] at hF
  refine hF.mono fun v y hy => ?_
  obtain ⟨T, its, rfl, h1, hTC, _, _, hlT, hG⟩ := hy
  have hT1 := old h1
  have hLT : T ≠ env.locals := by rintro rfl; obtain ⟨o, _, _, ho, _⟩ := hn; rw [hT1] at ho; cases ho
  exact ⟨T, its, rfl, hT1, (hlT.extBut hs₂.extBut hLT).extBut hs₃.extBut hTC, hG⟩
/-- the source is range(0, n); a test; what each number gives is told by F -/
theorem comp_range {elt iter : Expr} {x : Str} {px : Pos} {ifs : List Expr} {scope : Scope} {cl : List (Str × Addr)} {pos : Pos} {Q : Value → Shared → Prop} (pz : Int → Bool) (F : Int → Value → Prop) (hh : A.handled = none)
    (hclos : closureFor scope env = pure cl) (hcell : ∀ y ∈ scope.names, y.2 ≠ .cell) (hkind : scope.kind = .function)
    (hnames : ∀ y ∈ scope.names, y.2 = .local → scope.names.lookup y.1 = some .local) (hx : scope.names.lookup x = some .local)
    (h : wpAny (model prog w) A (eval iter env) (fun xv s₁ => ∃ (r : Addr) (n : Nat) (t u v : Tok), xv = .ref r ∧ IsRange s₁.heap r 0 (n : Int) 1 t u v ∧ n ≤ 1000 ∧
      (∀ C (k : Nat) tk s₃ m₃, k < n → s₁.heap.objs.size < C → s₃.heap.Ns C m₃ → m₃ x = some (.int k tk) → Sub s₁.heap s₃.heap →
        wpAny (model prog w) A (forIn ifs true fun c r => if r = true then do let ok ← isTrue c (compEnvC scope cl C env) (eval c (compEnvC scope cl C env)); pure (ForInStep.yield ok) else pure (ForInStep.yield r))
          (fun ok s₄ => ok = pz k ∧ Keeps s₃ s₄) (fun _ _ => False) s₃) ∧
      (∀ C (k : Nat) tk s₃ m₃, k < n → pz k = true → s₁.heap.objs.size < C → s₃.heap.Ns C m₃ → m₃ x = some (.int k tk) → Sub s₁.heap s₃.heap →
        wpAny (model prog w) A (eval elt (compEnvC scope cl C env)) (fun y s₄ => F k y ∧ Keeps s₃ s₄) (fun _ _ => False) s₃) ∧
      (∀ D h' tk ys, s₁.heap.get? D = none → h'.PlainList D ys → Paired F ((natInts n).filter pz) ys.toList → Sub s₁.heap h' → Q (.ref D) { s₁ with heap := h', toks := tk })) E s)
    (hs : ∀ x, foldedSetIterable iter env x = pure x := by intro _; rfl) :
    wpAny (model prog w) A (eval (.ListComp elt [⟨.Name x px, iter, ifs, 0⟩] scope pos) env) Q E s := by
  let num : Value → Int := fun v => match v with | .int k _ => k | _ => 0
  refine wpAny_ListComp_free (fun v => pz (num v)) (fun v y => F (num v) y) hclos hcell hkind hnames hx (wpAny_mono h (fun xv s₁ h₁ => ?_) fun _ _ e => e) hs
  obtain ⟨r, n, t, u, v, rfl, hr, hn, htest, helt, hQ⟩ := h₁
  have hsm : Builtin.Range.small 0 (n : Int) 1 = true := small_one (by omega) (by omega) (by omega) (by omega)
  have hrs : Builtin.Range.rangeSize 0 (n : Int) 1 = (n : Int) := by rw [rangeSize_one]; split <;> omega
  refine wpAny_pyIter_range hr hsm ?_
  rw [hrs]
  refine ⟨_, _, _, n, _, _, rfl, walks_bound (Walks.range (prog := prog) (w := w) hh s₁.heap.objs.size 0 1 n), by rw [sizeLine_eq]; omega, ?_, fun b hb => ?_, ⟨?_, ?_⟩, ?_⟩
  · have e1 : (0 : Int) + ((0 : Nat) : Int) * 1 = 0 := by omega
    have e2 : (n : Int) - ((0 : Nat) : Int) = n := by omega
    rw [e1, e2]
    exact Heap.get?_push_size _ rfl
  · show b < (s₁.heap.push _).objs.size
    rw [Heap.size_push, List.mem_singleton.mp hb]
    exact Nat.lt_succ_self _
  · rintro C i _ s₃ m₃ E' hC ⟨hi, tk, rfl⟩ hns hm hk _
    have e : (0 : Int) + (i : Int) * 1 = (i : Int) := by omega
    rw [e] at hm ⊢
    exact wpAny_noRaise (htest C i tk s₃ m₃ hi (by have hC' : (s₁.heap.push _).objs.size ≤ C := hC; rw [Heap.size_push] at hC'; exact hC') hns hm (sub_of_iter hk))
  · rintro C i _ s₃ m₃ E' hC ⟨hi, tk, rfl⟩ hpz hns hm hk _
    have e : (0 : Int) + (i : Int) * 1 = (i : Int) := by omega
    rw [e] at hm hpz ⊢
    exact wpAny_noRaise (helt C i tk s₃ m₃ hi hpz (by have hC' : (s₁.heap.push _).objs.size ≤ C := hC; rw [Heap.size_push] at hC'; exact hC') hns hm (sub_of_iter hk))
  · intro D h' tk ys vs hD _ hpl hlen hP hF hk
    refine hQ D h' tk ys ?_ hpl ?_ (sub_of_iter hk)
    · cases e : s₁.heap.get? D with
      | none => rfl
      | some o => rw [Heap.get?_push_of_some _ e] at hD; cases hD
    · have e : vs.map num = natInts n := by
        apply List.ext_getElem?
        intro j
        unfold natInts
        rw [List.getElem?_map, List.getElem?_map]
        by_cases hj : j < n
        · rw [List.getElem?_range hj]
          have hj' : j < vs.length := by omega
          have hv := List.getElem?_eq_getElem hj'
          obtain ⟨_, tk', e'⟩ := hP j _ hv
          rw [hv, e']
          show some ((0 : Int) + (j : Int) * 1) = some (j : Int)
          rw [show (0 : Int) + (j : Int) * 1 = (j : Int) by omega]
        · rw [List.getElem?_eq_none (by omega), List.getElem?_eq_none (by simp; omega)]
          rfl
      have hg : (natInts n).filter pz = (vs.filter fun v => pz (num v)).map num := by rw [← e, List.filter_map]; rfl
      rw [hg]
      exact paired_map num hF
end
end Mine
end
namespace Mine
open PySem PySem.W PyProof.Rows in
/-- one step with the library's lines alone -/
theorem clear_mqtold {prog : Program} {w : World} {A : Around} {E : Value → Shared → Prop} {Q : Flow → Shared → Prop} {env : Env} {s : Shared} (h : Q .next s) :
    wpAny (model prog w) A (execs [] env) Q E s := by
  w_top off
  walk1
  exact h
end Mine
section
namespace Mine
open PySem PySem.W PyProof.Rows

section
variable {prog : Program} {w : World} {A : Around} {E : Value → Shared → Prop} {s : Shared} {h₀ : Heap} {L f : Addr} {m : Str → Option Value} {news : List (Addr × Obj)} {cn : Str} {cs : Scope} {cd : Value}
theorem lev_fin {k : Int} (h0 : 0 ≤ k) (h8 : k ≤ 8) : Float64.isInf (lev k) = false := by
  have : k = 0 ∨ k = 1 ∨ k = 2 ∨ k = 3 ∨ k = 4 ∨ k = 5 ∨ k = 6 ∨ k = 7 ∨ k = 8 := by omega
  rcases this with rfl | rfl | rfl | rfl | rfl | rfl | rfl | rfl | rfl <;> decide +kernel
theorem ints_mem : ∀ {vs : List Value} {ns : List Int}, IntsAre vs ns → ∀ v ∈ vs, ∃ k t, v = .int k t ∧ k ∈ ns
  | _, _, .cons k t _, _, .head _ => ⟨k, t, rfl, .head _⟩
  | _, _, .cons _ _ h, v, .tail _ hv => let ⟨k, t, e, hk⟩ := ints_mem h v hv; ⟨k, t, e, .tail _ hk⟩
theorem news_cons {h : Heap} {D : Addr} {o : Obj} {h' : Heap} (F : Fr h₀ L h m) (N : News h₀ L h' news) (hD : h.get? D = none) (ho : h'.get? D = some o) : News h₀ L h' ((D, o) :: news) := fun p hp => by
  rcases List.mem_cons.mp hp with rfl | hp
  · refine ⟨ho, fun q => ?_, ?_⟩
    · obtain ⟨oL, _, _, e, _⟩ := F.ns
      rw [← q, hD] at e; cases e
    · cases e : h₀.get? D with
      | none => rfl
      | some o' => rw [F.keep _ _ e] at hD; cases hD
  · exact N p hp
/-- [level / 8 for level in spot] -/
theorem comp_lev {x y : Str} {p1 p2 p3 px py pos : Pos} {scope : Scope} {l : Addr} {vs : List Value} {r g b : Int} {Q : Value → Shared → Prop} (hh : A.handled = none)
    (F : Fr h₀ L s.heap m) (N : News h₀ L s.heap news) (hy : m y = some (.ref l)) (hl : h₀.IsList l vs.toArray) (hI : IntsAre vs [r, g, b]) (hr : 0 ≤ r ∧ r ≤ 8) (hg : 0 ≤ g ∧ g ≤ 8) (hb : 0 ≤ b ∧ b ≤ 8)
    (h : ∀ D t1 t2 t3 n h' tk, Fr h₀ L h' m → News h₀ L h' ((D, { cls := .type "list", data := .seq #[.float (lev r) t1, .float (lev g) t2, .float (lev b) t3] n }) :: news) → Q (.ref D) { s with heap := h', toks := tk })
    (hclos : closureFor scope (envOf cn cs L f cd) = pure []) (hcell : ∀ y ∈ scope.names, y.2 ≠ .cell) (hkind : scope.kind = .function)
    (hnames : ∀ y ∈ scope.names, y.2 = .local → scope.names.lookup y.1 = some .local) (hx : scope.names.lookup x = some .local) (hdx : (x == ("__debug__" : Str)) = false)
    (hk : cs.kind = .function) (hky : (envOf cn cs L f cd).kindOf y = some .local) (hdy : (y == ("__debug__" : Str)) = false) :
    wpAny (model prog w) A (eval (.ListComp (.BinOp (.Name x p1) .Div (.Constant (.int 8) 0 p2) p3) [⟨.Name x px, .Name y py, [], 0⟩] scope pos) (envOf cn cs L f cd)) Q E s := by
  refine comp_list (fun v z => ∃ k t t', v = .int k t ∧ z = .float (lev k) t') hh hclos hcell hkind hnames hx (ld F hy ?_ hk hky hdy)
  refine ⟨l, vs.toArray, rfl, hl.at fun o e => F.keep _ o e, ?_, ?_, ?_⟩
  · have := hI.length
    rw [List.size_toArray, this, sizeLine_eq]
    simp
  · intro C v s₃ m₃ hv _ hn hm _
    obtain ⟨k, t, rfl, hk9⟩ := ints_mem hI v (by simpa using hv)
    have hk8 : 0 ≤ k ∧ k ≤ 8 := by
      simp only [List.mem_cons, List.not_mem_nil, or_false] at hk9
      rcases hk9 with rfl | rfl | rfl <;> assumption
    refine wpAny_BinOp (wpAny_Name (wpAny_loadName_local (m := m₃) (v := .int k t) hkind (lookup_relabel_local hx) hn hm ?_) hdx)
    refine wpAny_Constant_int ?_
    refine AutoIntOps.truediv_2 (by decide) (fun q => ?_) ?_
    · have e : Float64.isInf (lev k) = true := q
      rw [lev_fin hk8.1 hk8.2] at e
      cases e
    · exact ⟨⟨k, t, _, rfl, rfl⟩, s₃.heap, _, rfl, fun _ _ e => e⟩
  · intro D h' tk ys hD hpl hP hk'
    rw [List.toList_toArray] at hP
    have hys : ys = ys.toList.toArray := by simp
    generalize ys.toList = zs at hP hys
    subst hys
    obtain ⟨n, hD'⟩ := hpl
    cases hI with
    | cons _ t1 h2 => cases h2 with
      | cons _ t2 h3 => cases h3 with
        | cons _ t3 h4 =>
          cases h4
          cases hP with
          | cons a1 hP => cases hP with
            | cons a2 hP => cases hP with
              | cons a3 hP =>
                cases hP
                obtain ⟨_, _, u1, e1, rfl⟩ := a1
                obtain ⟨_, _, u2, e2, rfl⟩ := a2
                obtain ⟨_, _, u3, e3, rfl⟩ := a3
                cases e1; cases e2; cases e3
                exact h D u1 u2 u3 n h' tk (fr_sub F hk') (news_cons F (news_sub N hk') hD hD')
end

section
variable {w : World} {p : Program} {loose : List Str} {mean : ExcName → Option Value} {mg mb : Str → Option Value} {A : Around} {E : Value → Shared → Prop} {s : Shared} {h₀ : Heap} {L : Addr} {m : Str → Option Value} {news : List (Addr × Obj)}
theorem hsv_N {r g b : UInt64} {tr tg tb : Tok} {Q : Value → Shared → Prop} (F : Fr h₀ L s.heap m) (N : News h₀ L s.heap news) (X : (Mine.hd.heap_39 w.params).In h₀) (T : Top p loose mean mg mb h₀)
    (hh : A.handled = none) (hd : A.depth < recursionLimit) (hok : hsvOk r g b = true)
    (h : ∀ D t1 t2 t3 n h' tk, Fr h₀ L h' m → News h₀ L h' ((D, { cls := .type "tuple", data := .seq #[.float (hsvF r g b).1 t1, .float (hsvF r g b).2.1 t2, .float (hsvF r g b).2.2 t3] n }) :: news) → Q (.ref D) { s with heap := h', toks := tk }) :
    wpAny (model PySem.Challenge.rw_mq0090_01.row.prog w) A (call (.ref 35) [.float r tr, .float g tg, .float b tb]) Q E s := by
  refine hsv_call w p loose mean mg mb A s r g b tr tg tb Q E (X.keeps F.keep) (T.keeps F.keep) hh hd hok fun D h' tk hk hD ht => ?_
  obtain ⟨vs, n, e, hf⟩ := ht
  cases hf with
  | cons _ t1 h1 => cases h1 with
    | cons _ t2 h2 => cases h2 with
      | cons _ t3 h3 =>
        cases h3
        exact h D t1 t2 t3 n h' tk (fr_sub F hk) (news_cons F (news_sub N hk) hD e)
theorem hls_N {r g b : UInt64} {tr tg tb : Tok} {Q : Value → Shared → Prop} (F : Fr h₀ L s.heap m) (N : News h₀ L s.heap news) (X : (Mine.hd.heap_39 w.params).In h₀) (T : Top p loose mean mg mb h₀)
    (hh : A.handled = none) (hd : A.depth < recursionLimit) (hok : hlsOk r g b = true)
    (h : ∀ D t1 t2 t3 n h' tk, Fr h₀ L h' m → News h₀ L h' ((D, { cls := .type "tuple", data := .seq #[.float (hlsF r g b).1 t1, .float (hlsF r g b).2.1 t2, .float (hlsF r g b).2.2 t3] n }) :: news) → Q (.ref D) { s with heap := h', toks := tk }) :
    wpAny (model PySem.Challenge.rw_mq0090_01.row.prog w) A (call (.ref 28) [.float r tr, .float g tg, .float b tb]) Q E s := by
  refine hls_call w p loose mean mg mb A s r g b tr tg tb Q E (X.keeps F.keep) (T.keeps F.keep) hh hd hok fun D h' tk hk hD ht => ?_
  obtain ⟨vs, n, e, hf⟩ := ht
  cases hf with
  | cons _ t1 h1 => cases h1 with
    | cons _ t2 h2 => cases h2 with
      | cons _ t3 h3 =>
        cases h3
        exact h D t1 t2 t3 n h' tk (fr_sub F hk) (news_cons F (news_sub N hk) hD e)
end
local macro_rules | `(tactic| walk_at "eval ListComp") => `(tactic| k_dflt (apply comp_lev <;> first | assumption | rfl | decide | intros))
local macro_rules | `(tactic| walk_at "call ref") => `(tactic| k_dflt (apply hsv_N <;> first | assumption | intros))
local macro_rules | `(tactic| walk_at "call ref") => `(tactic| k_dflt (apply hls_N <;> first | assumption | intros))
set_option maxRecDepth 100000 in
set_option maxHeartbeats 8000000 in
/-- _law_told: the four that are told of a spot -/
theorem told_call (w : World) (p : Program) (loose : List Str) (mean : ExcName → Option Value) (mg mb : Str → Option Value)
    (A : Around) (s : Shared) (a : Addr) (r g b : Int) (Q E : Value → Shared → Prop) (vs : List Value) :
    (Mine.hd.heap_39 w.params).In s.heap → Top p loose mean mg mb s.heap → A.handled = none → A.depth + 1 < recursionLimit → s.heap.IsList a vs.toArray → IntsAre vs [r, g, b] → (0 ≤ r ∧ r ≤ 8) → (0 ≤ g ∧ g ≤ 8) → (0 ≤ b ∧ b ≤ 8) →
    (∀ D h' tk, Sub s.heap h' → s.heap.get? D = none → LstF h' D (toldF r g b) → Q (.ref D) { s with heap := h', toks := tk }) →
    wpAny (model PySem.Challenge.rw_mq0090_01.row.prog w) A (call (.ref 40) [.ref a]) Q E s := by
  k_fill
  intro X T hh hd' hl hI hr hg hb hQ
  obtain ⟨ah, dp, fr, gd, un⟩ := A
  cases (show ah = none from hh)
  have hd : dp < recursionLimit := Nat.lt_of_succ_lt hd'
  obtain ⟨ok1, ok2, _⟩ := spot_facts hr hg hb
  k_dflt (refine' call_pure (binds := [(Str.ofString "spot", .ref a)]) ?k1 ?k5 ?k6 ?k7 ?k8 ?k9 ?kB ?_ ?c2 ?c3 ?c4 ?c5; (case k1 => assumption); (case k5 => assumption); (case k6 => k_is); (case k7 => k_is); (case k8 => assumption); (case k9 => exact BindsTo.of_eq rfl); (case kB => exact locs rfl); (case c2 => exact rfl); (case c3 => exact rfl); (case c4 => exact rfl); (case c5 => decide))
  intro L' h' F'
  have N' : News s.heap L' h' [] := News.nil
  w_strict k_steps
  exact hQ _ _ _ (Fr.keep (by assumption)) (News.fresh (by assumption) (.head _)) ⟨_, _, News.get (by assumption) (.head _), .cons _ _ (.cons _ _ (.cons _ _ (.cons _ _ .nil)))⟩
end Mine
end
namespace Mine
open PySem PySem.W PyProof.Rows in
/-- one step with the library's lines alone -/
theorem clear_mqsteps {prog : Program} {w : World} {A : Around} {E : Value → Shared → Prop} {Q : Flow → Shared → Prop} {env : Env} {s : Shared} (h : Q .next s) :
    wpAny (model prog w) A (execs [] env) Q E s := by
  w_top off
  walk1
  exact h
end Mine
section
namespace Mine
open PySem PySem.W PyProof.Rows
section
variable {prog : Program} {w : World} {A : Around} {E : Value → Shared → Prop} {s : Shared} {h₀ : Heap} {L : Addr} {m : Str → Option Value} {news : List (Addr × Obj)}
theorem max_spot {l : Addr} {vs : List Value} {r g b : Int} {Q : Value → Shared → Prop} (hh : A.handled = none) (F : Fr h₀ L s.heap m) (N : News h₀ L s.heap news) (hl : h₀.IsList l vs.toArray) (hI : IntsAre vs [r, g, b])
    (h : ∀ t h' tk, Fr h₀ L h' m → News h₀ L h' news → Q (.int (max3 r g b) t) { s with heap := h', toks := tk }) : wpAny (model prog w) A (call (.builtin "max") [.ref l]) Q E s := by
  cases hI with
  | cons _ t1 h2 => cases h2 with
    | cons _ t2 h3 => cases h3 with
      | cons _ t3 h4 =>
        cases h4
        refine max_intList (xs := #[(r, t1), (g, t2), (b, t3)]) hh (by simpa [intItems] using hl.at fun o e => F.keep l o e) (by simp) fun v h' tk hv hk => ?_
        have e : ∃ t, v = .int (max3 r g b) t := by
          unfold max3
          by_cases h1 : g > r
          · by_cases h2 : b > g
            · have e : argBest (fun i j => decide (numAt #[(r, t1), (g, t2), (b, t3)] i > numAt #[(r, t1), (g, t2), (b, t3)] j)) 2 = 2 := by simp [argBest, numAt, h1, h2]
              have hv' : (intItems #[(r, t1), (g, t2), (b, t3)])[argBest (fun i j => decide (numAt #[(r, t1), (g, t2), (b, t3)] i > numAt #[(r, t1), (g, t2), (b, t3)] j)) 2]? = some v := hv
              rw [e] at hv'
              exact ⟨t3, by simpa [intItems, h1, h2] using hv'.symm⟩
            · have e : argBest (fun i j => decide (numAt #[(r, t1), (g, t2), (b, t3)] i > numAt #[(r, t1), (g, t2), (b, t3)] j)) 2 = 1 := by simp [argBest, numAt, h1, h2]
              have hv' : (intItems #[(r, t1), (g, t2), (b, t3)])[argBest (fun i j => decide (numAt #[(r, t1), (g, t2), (b, t3)] i > numAt #[(r, t1), (g, t2), (b, t3)] j)) 2]? = some v := hv
              rw [e] at hv'
              exact ⟨t2, by simpa [intItems, h1, h2] using hv'.symm⟩
          · by_cases h2 : b > r
            · have e : argBest (fun i j => decide (numAt #[(r, t1), (g, t2), (b, t3)] i > numAt #[(r, t1), (g, t2), (b, t3)] j)) 2 = 2 := by simp [argBest, numAt, h1, h2]
              have hv' : (intItems #[(r, t1), (g, t2), (b, t3)])[argBest (fun i j => decide (numAt #[(r, t1), (g, t2), (b, t3)] i > numAt #[(r, t1), (g, t2), (b, t3)] j)) 2]? = some v := hv
              rw [e] at hv'
              exact ⟨t3, by simpa [intItems, h1, h2] using hv'.symm⟩
            · have e : argBest (fun i j => decide (numAt #[(r, t1), (g, t2), (b, t3)] i > numAt #[(r, t1), (g, t2), (b, t3)] j)) 2 = 0 := by simp [argBest, numAt, h1, h2]
              have hv' : (intItems #[(r, t1), (g, t2), (b, t3)])[argBest (fun i j => decide (numAt #[(r, t1), (g, t2), (b, t3)] i > numAt #[(r, t1), (g, t2), (b, t3)] j)) 2]? = some v := hv
              rw [e] at hv'
              exact ⟨t1, by simpa [intItems, h1, h2] using hv'.symm⟩
        obtain ⟨t, rfl⟩ := e
        exact h t h' tk (fr_sub F hk) (news_sub N hk)
theorem min_spot {l : Addr} {vs : List Value} {r g b : Int} {Q : Value → Shared → Prop} (hh : A.handled = none) (F : Fr h₀ L s.heap m) (N : News h₀ L s.heap news) (hl : h₀.IsList l vs.toArray) (hI : IntsAre vs [r, g, b])
    (h : ∀ t h' tk, Fr h₀ L h' m → News h₀ L h' news → Q (.int (min3 r g b) t) { s with heap := h', toks := tk }) : wpAny (model prog w) A (call (.builtin "min") [.ref l]) Q E s := by
  cases hI with
  | cons _ t1 h2 => cases h2 with
    | cons _ t2 h3 => cases h3 with
      | cons _ t3 h4 =>
        cases h4
        refine min_intList (xs := #[(r, t1), (g, t2), (b, t3)]) hh (by simpa [intItems] using hl.at fun o e => F.keep l o e) (by simp) fun v h' tk hv hk => ?_
        have e : ∃ t, v = .int (min3 r g b) t := by
          unfold min3
          by_cases h1 : g < r
          · by_cases h2 : b < g
            · have e : argBest (fun i j => decide (numAt #[(r, t1), (g, t2), (b, t3)] i < numAt #[(r, t1), (g, t2), (b, t3)] j)) 2 = 2 := by simp [argBest, numAt, h1, h2]
              have hv' : (intItems #[(r, t1), (g, t2), (b, t3)])[argBest (fun i j => decide (numAt #[(r, t1), (g, t2), (b, t3)] i < numAt #[(r, t1), (g, t2), (b, t3)] j)) 2]? = some v := hv
              rw [e] at hv'
              exact ⟨t3, by simpa [intItems, h1, h2] using hv'.symm⟩
            · have e : argBest (fun i j => decide (numAt #[(r, t1), (g, t2), (b, t3)] i < numAt #[(r, t1), (g, t2), (b, t3)] j)) 2 = 1 := by simp [argBest, numAt, h1, h2]
              have hv' : (intItems #[(r, t1), (g, t2), (b, t3)])[argBest (fun i j => decide (numAt #[(r, t1), (g, t2), (b, t3)] i < numAt #[(r, t1), (g, t2), (b, t3)] j)) 2]? = some v := hv
              rw [e] at hv'
              exact ⟨t2, by simpa [intItems, h1, h2] using hv'.symm⟩
          · by_cases h2 : b < r
            · have e : argBest (fun i j => decide (numAt #[(r, t1), (g, t2), (b, t3)] i < numAt #[(r, t1), (g, t2), (b, t3)] j)) 2 = 2 := by simp [argBest, numAt, h1, h2]
              have hv' : (intItems #[(r, t1), (g, t2), (b, t3)])[argBest (fun i j => decide (numAt #[(r, t1), (g, t2), (b, t3)] i < numAt #[(r, t1), (g, t2), (b, t3)] j)) 2]? = some v := hv
              rw [e] at hv'
              exact ⟨t3, by simpa [intItems, h1, h2] using hv'.symm⟩
            · have e : argBest (fun i j => decide (numAt #[(r, t1), (g, t2), (b, t3)] i < numAt #[(r, t1), (g, t2), (b, t3)] j)) 2 = 0 := by simp [argBest, numAt, h1, h2]
              have hv' : (intItems #[(r, t1), (g, t2), (b, t3)])[argBest (fun i j => decide (numAt #[(r, t1), (g, t2), (b, t3)] i < numAt #[(r, t1), (g, t2), (b, t3)] j)) 2]? = some v := hv
              rw [e] at hv'
              exact ⟨t1, by simpa [intItems, h1, h2] using hv'.symm⟩
        obtain ⟨t, rfl⟩ := e
        exact h t h' tk (fr_sub F hk) (news_sub N hk)
end

section
variable {prog : Program} {w : World} {A : Around} {E : Value → Shared → Prop} {s : Shared} {h₀ : Heap} {L : Addr} {m : Str → Option Value} {news : List (Addr × Obj)}
theorem eq_walker {W a : Addr} {its : Array Value} {e : Nat} {vs : List Value} {ns ms : List Int} {Q : Value → Shared → Prop} (F : Fr h₀ L s.heap m) (N : News h₀ L s.heap news) (hm : (W, listOf its e) ∈ news) (hi : IntsAre its.toList ns)
    (hl : h₀.IsList a vs.toArray) (hj : IntsAre vs ms) (hu : A.units + 64 < cLine) (h : Q (.bool (decide (ns = ms))) s) : wpAny (model prog w) A (compareOp .Eq (.ref W) (.ref a)) Q E s :=
  eq_intsK (vs := its.toList) ⟨_, N.get hm, rfl, e, by simp⟩ hi (hl.at fun o q => F.keep a o q) hj hu h
end
/-- the spread, out of the walk's sight -/
structure Spread (r g b : Int) (n : Nat) : Prop where
  eq : max3 r g b - min3 r g b = (n : Int)
  le : n ≤ 8
inductive PartIs : Int → Nat → Prop
  | zero : PartIs 0 0
  | one : PartIs 1 1
  | two : PartIs 2 2
theorem max3_ge (r g b : Int) (hr : 0 ≤ r ∧ r ≤ 8) (hg : 0 ≤ g ∧ g ≤ 8) (hb : 0 ≤ b ∧ b ≤ 8) : 0 ≤ max3 r g b - min3 r g b ∧ max3 r g b - min3 r g b ≤ 8 ∧ 0 ≤ min3 r g b ∧ max3 r g b ≤ 8 := by
  unfold max3 min3
  simp only
  repeat' split
  all_goals omega
section
variable {prog : Program} {w : World} {A : Around} {E : Value → Shared → Prop} {s : Shared} {h₀ h : Heap} {m : Str → Option Value} {news : List (Addr × Obj)} {g : Obj → List (Addr × Obj)} {env : Env} {x y : Str} {body : List Stmt} {Q : Flow → Shared → Prop}
  {W : Addr} {a1 a2 a3 : Int} {t1 t2 t3 : Tok} {e : Nat} {k0 : Int} {tk0 : Tok} {r : Addr}
/-- the ring's inner loop: «for count in range(spread)» with one list of three and one counter -/
theorem iter_ring {sp : List Int} {vsp : List Value} {part : Nat} {pI step sI : Int} {tp ts : Tok} {n0 : Nat} {yp ys yw : Str} {t u v : Tok} (hh : A.handled = none) (hxy : y ≠ x) (hn0 : n0 ≤ 8) (hk0 : 0 ≤ k0 ∧ k0 ≤ 60) (hs : sI = (n0 : Int))
    (_hsp : IntsAre vsp sp) (_hpart : m yp = some (.int pI tp)) (_hP : PartIs pI part) (_hstep : m ys = some (.int step ts)) (_hW : m yw = some (.ref W))
    (F : Fr h₀ env.locals s.heap m) (N : News h₀ env.locals s.heap news) (U : UpdF W (listOf #[.int a1 t1, .int a2 t2, .int a3 t3] e) news g) (hy : m y = some (.int k0 tk0))
    (hr : IsRange s.heap r 0 sI 1 t u v)
    (turn : ∀ (b1 b2 b3 : Int) (u1 u2 u3 : Tok) (e' : Nat) (k : Int) (tk' : Tok) (i : Int) (ti : Tok) (h' : Heap) (tk : Nat) (own : List (Addr × Obj)), OwnOff own [W] →
      Fr h₀ env.locals h' (fun z => if z = x then some (.int i ti) else if z = y then some (.int k tk') else m z) → News h₀ env.locals h' ((W, listOf #[.int b1 u1, .int b2 u2, .int b3 u3] e') :: own) → 0 < sI → sI ≤ 8 → 0 ≤ k → k ≤ 100 →
      ∀ Qt : Flow → Shared → Prop, ([b1, b2, b3] = sp → ∀ vr h2 tk2, (∃ tr, vr = .int (Int.fdiv (840 * k) sI) tr) → Fr h₀ env.locals h2 (fun z => if z = x then some (.int i ti) else if z = y then some (.int k tk') else m z) → Qt (.ret vr) { s with heap := h2, toks := tk2 }) →
      ([b1, b2, b3] ≠ sp → ∀ c1 c2 c3 w1 w2 w3 e2 m2 h2 tk2, [c1, c2, c3] = [b1, b2, b3].set part ([b1, b2, b3].getD part 0 + step) → (∃ tr, m2 y = some (.int (k + 1) tr)) → (∀ z, z ≠ x → z ≠ y → m2 z = m z) → Fr h₀ env.locals h2 m2 →
        News h₀ env.locals h2 ((W, listOf #[.int c1 w1, .int c2 w2, .int c3 w3] e2) :: own) → Qt .next { s with heap := h2, toks := tk2 }) →
      wpAny (model prog w) A (execs body env) Qt E { s with heap := h', toks := tk })
    (found : ∀ k wk kk vr h' tk m', walkIn sp part step n0 [a1, a2, a3] k0 = (some k, wk, kk) → (∃ tr, vr = .int (Int.fdiv (840 * k) sI) tr) → Fr h₀ env.locals h' m' → Q (.ret vr) { s with heap := h', toks := tk })
    (done : ∀ c1 c2 c3 w1 w2 w3 e2 k tk' h' tk (ux : Str → Option Value), walkIn sp part step n0 [a1, a2, a3] k0 = (none, [c1, c2, c3], k) → k = k0 + (n0 : Int) →
      Fr h₀ env.locals h' (fun z => if z = x then ux z else if z = y then some (.int k tk') else m z) →
      News h₀ env.locals h' (g (listOf #[.int c1 w1, .int c2 w2, .int c3 w3] e2)) → Q .next { s with heap := h', toks := tk }) :
    wpAny (model prog w) A (pyIter (.ref r)) (fun it s₂ => LoopAtV prog w A h₀ env x body Q E it s₂) E s := by
  subst hs
  obtain ⟨pre, post, e0, hg, hp1, hp2⟩ := U.split
  have hsm : Builtin.Range.small 0 (n0 : Int) 1 = true := small_one (by omega) (by omega) (by omega) (by omega)
  have hrs : Builtin.Range.rangeSize 0 (n0 : Int) 1 = (n0 : Int) := by rw [rangeSize_one]; split <;> omega
  refine wpAny_pyIter_range hr hsm ?_
  rw [hrs]
  have k1 : Sub s.heap (s.heap.push { cls := .type "range_iterator", data := .fields #[rawInt 0, rawInt (n0 : Int), rawInt 1] }) := sub_push _
  have F1 := fr_sub F k1
  have N1 := news_sub N k1
  have hLt := F.ns.lt
  have hnI : ∀ p ∈ news, p.1 ∉ [s.heap.objs.size] := fun p hp hm => by
    have := Heap.lt_size (N p hp).1
    rw [List.mem_singleton.mp hm] at this
    exact Nat.lt_irrefl _ this
  refine loop_invN (s := { s with heap := s.heap.push { cls := .type "range_iterator", data := .fields #[rawInt 0, rawInt (n0 : Int), rawInt 1] } })
    (fun i m₁ news₁ => ∃ b1 b2 b3 u1 u2 u3 e' k tk', news₁ = g (listOf #[.int b1 u1, .int b2 u2, .int b3 u3] e') ∧ m₁ y = some (.int k tk') ∧ (∀ z, z ≠ x → z ≠ y → m₁ z = m z) ∧ walkIn sp part step n0 [a1, a2, a3] k0 = walkIn sp part step (n0 - i) [b1, b2, b3] k ∧ k = k0 + (i : Int))
    (Walks.range (prog := prog) (w := w) hh _ 0 1 n0) ?_ ?_ hnI hnI ?_ F1 N1 ?_ ?_ ?_
  · intro hm
    exact absurd (List.mem_singleton.mp hm) (Nat.ne_of_lt hLt)
  · intro b hb
    rw [List.mem_singleton.mp hb]
    exact Heap.get?_none_of_le (Nat.le_trans F.above (Nat.le_of_lt hLt))
  · have e1 : (0 : Int) + ((0 : Nat) : Int) * 1 = 0 := by omega
    have e2 : (n0 : Int) - ((0 : Nat) : Int) = n0 := by omega
    rw [e1, e2]
    exact Heap.get?_push_size _ rfl
  · exact ⟨a1, a2, a3, t1, t2, t3, e, k0, tk0, by rw [hg, e0], hy, fun _ _ _ => rfl, rfl, by omega⟩
  · rintro i _ m₁ news₁ h' tk own hi ⟨ti, rfl⟩ _ hoff ⟨b1, b2, b3, u1, u2, u3, e', k, tk', rfl, hmy, hmz, hwk, hki⟩ F₁ N₁
    have em : (fun z => if z = x then some (Value.int (0 + (i : Int) * 1) ti) else m₁ z) = fun z => if z = x then some (Value.int (0 + (i : Int) * 1) ti) else if z = y then some (.int k tk') else m z := by
      funext z
      by_cases c1 : z = x
      · simp [c1]
      · simp only [if_neg c1]
        by_cases c2 : z = y
        · subst c2; simp [hmy]
        · simp only [if_neg c2]; exact hmz z c1 c2
    rw [em] at F₁
    rw [hg] at N₁
    have hoffW : OwnOff (pre ++ post ++ own) [W] := by
      intro p hp b hb
      rw [List.mem_singleton.mp hb]
      rcases List.mem_append.mp hp with hp | hp
      · rcases List.mem_append.mp hp with hp | hp
        · exact hp1 p hp
        · exact hp2 p hp
      · refine hoff p hp W ?_
        rw [e0]
        simp
    have N₂ : News h₀ env.locals h' ((W, listOf #[.int b1 u1, .int b2 u2, .int b3 u3] e') :: (pre ++ post ++ own)) := fun p hp => N₁ p (by
      simp only [List.mem_append, List.mem_cons] at hp ⊢
      rcases hp with hp | (hp | hp) | hp
      · exact .inl (.inr (.inl hp))
      · exact .inl (.inl hp)
      · exact .inl (.inr (.inr hp))
      · exact .inr hp)
    obtain ⟨d, hd⟩ : ∃ d, n0 - i = d + 1 := ⟨n0 - i - 1, by omega⟩
    have hd' : n0 - (i + 1) = d := by omega
    refine turn b1 b2 b3 u1 u2 u3 e' k tk' _ ti h' tk _ hoffW F₁ N₂ (by omega) (by omega) (by omega) (by omega) _ (fun hq vr h2 tk2 hvr F2 => ?_) (fun hq c1 c2 c3 w1 w2 w3 e2 m2 h2 tk2 hc hm2 hz2 F2 N2 => ?_)
    · show Q (.ret vr) _
      refine found k [b1, b2, b3] k vr h2 tk2 _ ?_ hvr F2
      rw [hwk, hd]
      conv => lhs; unfold walkIn
      rw [if_pos hq]
    · obtain ⟨tr, hm2⟩ := hm2
      refine ⟨h2, tk2, m2, _, g (listOf #[.int c1 w1, .int c2 w2, .int c3 w3] e2), rfl, F2, N2, ?_, ?_, ?_, c1, c2, c3, w1, w2, w3, e2, k + 1, tr, rfl, hm2, hz2, ?_, by push_cast; omega⟩
      · intro p hp
        rw [hg] at hp
        simp only [List.mem_append, List.mem_cons] at hp ⊢
        rcases hp with hp | hp | hp
        · exact .inr (.inl (.inl hp))
        · exact .inl hp
        · exact .inr (.inl (.inr hp))
      · intro p hp
        simp only [List.mem_append, List.mem_cons]
        exact .inr (.inr hp)
      · rw [hg, e0]; simp
      · rw [hwk, hd, hd', hc]
        conv => lhs; unfold walkIn
        rw [if_neg hq]
  · rintro m₁ news₁ h' tk ⟨b1, b2, b3, u1, u2, u3, e', k, tk', rfl, hmy, hmz, hwk, hki⟩ F₁ N₁
    refine done b1 b2 b3 u1 u2 u3 e' k tk' h' tk m₁ (by rw [hwk, Nat.sub_self]; rfl) hki ?_ N₁
    have em : (fun z => if z = x then m₁ z else if z = y then some (.int k tk') else m z) = m₁ := by
      funext z
      by_cases c1 : z = x
      · simp [c1]
      · simp only [if_neg c1]
        by_cases c2 : z = y
        · subst c2; simp [hmy]
        · simp only [if_neg c2]; exact (hmz z c1 c2).symm
    rw [em]; exact F₁
end
/-- a mark at which the walk stops -/
def Hold (P : Prop) : Prop := P
theorem hold {P : Prop} (h : Hold P) : P := h
section
variable {prog : Program} {w : World} {A : Around} {E : Value → Shared → Prop} {s : Shared} {h₀ : Heap} {L : Addr} {m : Str → Option Value} {own : List (Addr × Obj)} {W : Addr} {b1 b2 b3 : Int} {u1 u2 u3 : Tok} {e : Nat} {pI : Int} {tp : Tok} {part : Nat}
/-- walker[part], the part not known -/
theorem sub_walker {ex ey : Expr} {Q : Value → Shared → Prop} (hP : PartIs pI part) (N : News h₀ L s.heap ((W, listOf #[.int b1 u1, .int b2 u2, .int b3 u3] e) :: own)) (h : ∀ t, Q (.int ([b1, b2, b3].getD part 0) t) s)
    (hs : subscripted ey false (.ref W) (.int pI tp) = operate [.ref W, .int pI tp] (getItem (.ref W) (.int pI tp))) (hg : ∀ r, letTemporaryGo ex (.ref W) r = pure ()) : wpAny (model prog w) A (subscriptTail ex ey (.ref W) (.int pI tp)) Q E s := by
  have hl : s.heap.IsList W [Value.int b1 u1, .int b2 u2, .int b3 u3].toArray := ⟨_, (N _ (.head _)).1, rfl, e, rfl⟩
  have hi : IntsAre [Value.int b1 u1, .int b2 u2, .int b3 u3] [b1, b2, b3] := .cons _ _ (.cons _ _ (.cons _ _ .nil))
  cases hP with
  | zero => exact item_list_ints hl hi (by decide) (by simp) (by decide) h hs hg
  | one => exact item_list_ints hl hi (by decide) (by simp) (by decide) h hs hg
  | two => exact item_list_ints hl hi (by decide) (by simp) (by decide) h hs hg
/-- walker[part] = v, the part not known -/
theorem set_walker {v : Int} {tv : Tok} {Q : Unit → Shared → Prop} (hP : PartIs pI part) (F : Fr h₀ L s.heap m) (N : News h₀ L s.heap ((W, listOf #[.int b1 u1, .int b2 u2, .int b3 u3] e) :: own)) (off : ∀ p ∈ own, ∀ b ∈ [W], p.1 ≠ b)
    (h : ∀ c1 c2 c3 w1 w2 w3 h', [c1, c2, c3] = [b1, b2, b3].set part v → Fr h₀ L h' m → News h₀ L h' ((W, listOf #[.int c1 w1, .int c2 w2, .int c3 w3] e) :: own) → Q () { s with heap := h' }) :
    wpAny (model prog w) A (setItem (.ref W) (.int pI tp) (.int v tv)) Q E s := by
  have ho : ∀ p ∈ own, p.1 ≠ W := fun p hp => off p hp W (.head _)
  cases hP with
  | zero => exact ki_set (q := [.int v tv, .int b2 u2, .int b3 u3]) F N (by decide) (by decide) rfl (.head ho) fun h' F' N' => h v b2 b3 tv u2 u3 h' rfl F' N'
  | one => exact ki_set (q := [.int b1 u1, .int v tv, .int b3 u3]) F N (by decide) (by decide) rfl (.head ho) fun h' F' N' => h b1 v b3 u1 tv u3 h' rfl F' N'
  | two => exact ki_set (q := [.int b1 u1, .int b2 u2, .int v tv]) F N (by decide) (by decide) rfl (.head ho) fun h' F' N' => h b1 b2 v u1 u2 tv h' rfl F' N'
end
/-- the tuples of the ring, as they lie in the ledger -/
inductive Ring (news : List (Addr × Obj)) (W : Addr) : List Itm → List (Nat × Int) → Prop
  | nil : Ring news W [] []
  | cons {T : Addr} {pI st : Int} {tp ts : Tok} {n part : Nat} {xs : List Itm} {rs : List (Nat × Int)} : PartIs pI part → (T, { cls := .type "tuple", data := .seq #[.int pI tp, .int st ts] n }) ∈ news → @Ne Nat T W →
      Ring news W xs rs → Ring news W (.val (.ref T) :: xs) ((part, st) :: rs)
/-- the names of _law_steps, whatever the loop has bound -/
def ringM (W : Addr) (sI : Int) (tsp : Tok) (a : Addr) (ux : Str → Option Value) (k : Int) (tk : Tok) : Str → Option Value := fun z =>
  if z = Str.ofString "steps" then some (.int k tk) else if z = Str.ofString "walker" then some (.ref W) else if z = Str.ofString "spread" then some (.int sI tsp) else if z = Str.ofString "spot" then some (.ref a) else ux z
theorem ringM_fix {W : Addr} {sI : Int} {tsp : Tok} {a : Addr} {m : Str → Option Value} {k : Int} {tk : Tok} (h1 : m (Str.ofString "steps") = some (.int k tk)) (h2 : m (Str.ofString "walker") = some (.ref W))
    (h3 : m (Str.ofString "spread") = some (.int sI tsp)) (h4 : m (Str.ofString "spot") = some (.ref a)) : m = ringM W sI tsp a m k tk := by
  funext z
  unfold ringM
  split
  · subst z; exact h1
  · split
    · subst z; exact h2
    · split
      · subst z; exact h3
      · split
        · subst z; exact h4
        · rfl
section
variable {prog : Program} {w : World} {A : Around} {E : Value → Shared → Prop} {h₀ : Heap} {env : Env} {target : Expr} {body : List Stmt} {Q : Flow → Shared → Prop} {s : Shared} {keep : List (Addr × Obj)} {I W : Addr} {c : String}
theorem rings_run {M : (Str → Option Value) → Int → Tok → Str → Option Value} {nw news : List (Addr × Obj)} {sp w0 : List Int} {n0 : Nat} {full : List (Nat × Int)} (hn0 : n0 ≤ 8) (hnw : ∀ p ∈ news, @Ne Nat p.1 W → p ∈ nw)
    (step : ∀ (T : Addr) (part : Nat) (pI st : Int) (tp ts : Tok) (n : Nat) (xs : List Itm) (ux : Str → Option Value) (b1 b2 b3 : Int) (u1 u2 u3 : Tok) (e : Nat) (k : Int) (tk : Tok), PartIs pI part →
      (T, { cls := .type "tuple", data := .seq #[.int pI tp, .int st ts] n }) ∈ nw → (0 ≤ k ∧ k ≤ 60) → (∀ kk ww k', walkIn sp part st n0 [b1, b2, b3] k = (some kk, ww, k') → walkOut sp n0 full w0 0 = some kk) →
      (∀ ux2 c1 c2 c3 w1 w2 w3 e2 k2 tk2, walkIn sp part st n0 [b1, b2, b3] k = (none, [c1, c2, c3], k2) → k2 = k + (n0 : Int) →
        ItemsRest prog w A E h₀ env target body Q s [(I, c)] keep xs (M ux2 k2 tk2) ((W, listOf #[.int c1 w1, .int c2 w2, .int c3 w3] e2) :: nw)) →
      ItemsRest prog w A E h₀ env target body Q s [(I, c)] keep (.val (.ref T) :: xs) (M ux k tk) ((W, listOf #[.int b1 u1, .int b2 u2, .int b3 u3] e) :: nw))
    (fin : walkOut sp n0 full w0 0 = none → ∀ ux b1 b2 b3 u1 u2 u3 e k tk, ItemsRest prog w A E h₀ env target body Q s [(I, c)] keep [] (M ux k tk) ((W, listOf #[.int b1 u1, .int b2 u2, .int b3 u3] e) :: nw)) :
    ∀ {xs rs}, Ring news W xs rs → ∀ ux b1 b2 b3 u1 u2 u3 e k tk, walkOut sp n0 full w0 0 = walkOut sp n0 rs [b1, b2, b3] k → 0 ≤ k → k + 8 * rs.length ≤ 60 →
      ItemsRest prog w A E h₀ env target body Q s [(I, c)] keep xs (M ux k tk) ((W, listOf #[.int b1 u1, .int b2 u2, .int b3 u3] e) :: nw)
  | _, _, .nil, ux, b1, b2, b3, u1, u2, u3, e, k, tk, hw, _, _ => fin (by rw [hw]; rfl) ux b1 b2 b3 u1 u2 u3 e k tk
  | _, _, .cons (rs := rs) hP hT hne hr, ux, b1, b2, b3, u1, u2, u3, e, k, tk, hw, h0, h8 => by
    rw [List.length_cons] at h8
    refine step _ _ _ _ _ _ _ _ _ _ _ _ _ _ _ _ _ _ hP (hnw _ hT hne) ⟨h0, by omega⟩ (fun kk ww k' h => by rw [hw]; simp only [walkOut, h]) (fun ux2 c1 c2 c3 w1 w2 w3 e2 k2 tk2 h hk => ?_)
    exact rings_run hn0 hnw step fin hr _ _ _ _ _ _ _ _ _ _ (by rw [hw]; simp only [walkOut, h]) (by omega) (by omega)
theorem allObj_mono : ∀ {ws : List (Addr × String)} {k k' : List (Addr × Obj) → Prop}, (∀ its, k its → k' its) → AllObj ws k → AllObj ws k'
  | [], _, _, i, h => i _ h
  | _ :: _, _, _, i, h => fun o ho => allObj_mono (fun _ => i _) (h o ho)
theorem items_less {ws : List (Addr × String)} {xs : List Itm} {m : Str → Option Value} {news news' : List (Addr × Obj)} (hs : ∀ p ∈ news', p ∈ news) (h : ItemsRest prog w A E h₀ env target body Q s ws keep xs m news') :
    ItemsRest prog w A E h₀ env target body Q s ws keep xs m news := by
  cases xs with
  | nil => exact fun h' tk F N => h h' tk F fun p hp => N p (hs p hp)
  | cons a r =>
    refine fun v h' tk ha F => allObj_mono (fun its k N => k fun p hp => N p ?_) (h v h' tk ha F)
    rcases List.mem_append.mp hp with hp | hp
    · exact List.mem_append.mpr (.inl hp)
    · exact List.mem_append.mpr (.inr (hs p hp))
theorem items_ring {ws : List (Addr × String)} {xs : List Itm} {m : Str → Option Value} {news : List (Addr × Obj)} {sI k : Int} {tsp tk : Tok} {a : Addr} (h1 : m (Str.ofString "steps") = some (.int k tk)) (h2 : m (Str.ofString "walker") = some (.ref W))
    (h3 : m (Str.ofString "spread") = some (.int sI tsp)) (h4 : m (Str.ofString "spot") = some (.ref a)) (h : ItemsRest prog w A E h₀ env target body Q s ws keep xs (ringM W sI tsp a m k tk) news) : ItemsRest prog w A E h₀ env target body Q s ws keep xs m news := by
  rw [ringM_fix h1 h2 h3 h4]
  exact h
/-- «for part, step in [..]» with the counter, the walker and the spread -/
theorem rings_go {m : Str → Option Value} {news : List (Addr × Obj)} {g : Obj → List (Addr × Obj)} {sp : List Int} {n0 : Nat} {a : Addr} {b1 b2 b3 sI : Int} {u1 u2 u3 : Tok} {e : Nat} {tk0 tsp : Tok} {xs : List Itm} {B1 B2 B3 : Int}
    (hn0 : n0 ≤ 8) (U : UpdF W (listOf #[.int b1 u1, .int b2 u2, .int b3 u3] e) news g) (h1 : m (Str.ofString "steps") = some (.int 0 tk0)) (h2 : m (Str.ofString "walker") = some (.ref W))
    (h3 : m (Str.ofString "spread") = some (.int sI tsp)) (h4 : m (Str.ofString "spot") = some (.ref a)) (hR : Ring news W xs ring) (hI : ∀ p ∈ news, @Ne Nat p.1 I) (hk : SubL keep news) (hkW : ∀ p ∈ keep, @Ne Nat p.1 W)
    (step : ∀ (tsp : Tok) (nw : List (Addr × Obj)), (∀ p ∈ nw, @Ne Nat p.1 W) → (∀ p ∈ nw, @Ne Nat p.1 I) → @Ne Nat W I → (∀ p ∈ keep, p ∈ nw) →
      ∀ (T : Addr) (part : Nat) (pI st : Int) (tp ts : Tok) (n : Nat) (xs : List Itm) (ux : Str → Option Value) (b1 b2 b3 : Int) (u1 u2 u3 : Tok) (e : Nat) (k : Int) (tk : Tok), PartIs pI part →
      (T, { cls := .type "tuple", data := .seq #[.int pI tp, .int st ts] n }) ∈ nw → (0 ≤ k ∧ k ≤ 60) → (∀ kk ww k', walkIn sp part st n0 [b1, b2, b3] k = (some kk, ww, k') → walkOut sp n0 ring [B1, B2, B3] 0 = some kk) →
      (∀ ux2 c1 c2 c3 w1 w2 w3 e2 k2 tk2, walkIn sp part st n0 [b1, b2, b3] k = (none, [c1, c2, c3], k2) → k2 = k + (n0 : Int) →
        ItemsRest prog w A E h₀ env target body Q s [(I, c)] keep xs (ringM W sI tsp a ux2 k2 tk2) ((W, listOf #[.int c1 w1, .int c2 w2, .int c3 w3] e2) :: nw)) →
      ItemsRest prog w A E h₀ env target body Q s [(I, c)] keep (.val (.ref T) :: xs) (ringM W sI tsp a ux k tk) ((W, listOf #[.int b1 u1, .int b2 u2, .int b3 u3] e) :: nw))
    (fin : walkOut sp n0 ring [B1, B2, B3] 0 = none → ∀ h tk m, Fr h₀ env.locals h m → Q .next { s with heap := h, toks := tk })
    (hB : [B1, B2, B3] = [b1, b2, b3]) :
    ItemsRest prog w A E h₀ env target body Q s [(I, c)] keep xs m news := by
  obtain ⟨pre, post, e0, -, hp1, hp2⟩ := U.split
  have hW : ∀ p ∈ pre ++ post, @Ne Nat p.1 W := fun p hp => (List.mem_append.mp hp).elim (hp1 p) (hp2 p)
  have hN : ∀ p ∈ pre ++ post, p ∈ news := fun p hp => by
    rw [e0]
    exact (List.mem_append.mp hp).elim (fun h => List.mem_append.mpr (.inl h)) fun h => List.mem_append.mpr (.inr (.tail _ h))
  have hnw : ∀ p ∈ news, @Ne Nat p.1 W → p ∈ pre ++ post := fun p hp hne => by
    rw [e0] at hp
    rcases List.mem_append.mp hp with hp | hp
    · exact List.mem_append.mpr (.inl hp)
    · rcases List.mem_cons.mp hp with rfl | hp
      · exact absurd rfl hne
      · exact List.mem_append.mpr (.inr hp)
  have hWn : (W, listOf #[.int b1 u1, .int b2 u2, .int b3 u3] e) ∈ news := by rw [e0]; exact List.mem_append.mpr (.inr (.head _))
  rw [ringM_fix h1 h2 h3 h4]
  refine items_less (news' := (W, listOf #[.int b1 u1, .int b2 u2, .int b3 u3] e) :: (pre ++ post)) (fun p hp => ?_) ?_
  · rcases List.mem_cons.mp hp with rfl | hp
    · exact hWn
    · exact hN p hp
  · exact rings_run (M := ringM W sI tsp a) (full := ring) (w0 := [B1, B2, B3]) hn0 hnw (step tsp (pre ++ post) hW (fun p hp => hI p (hN p hp)) (hI _ hWn) fun p hp => hnw p (hk.mem p hp) (hkW p hp))
      (fun hw ux b1 b2 b3 u1 u2 u3 e k tk => .zero fun h' tk' F _ => fin hw h' tk' _ F) hR _ _ _ _ _ _ _ _ _ _ (by rw [hB]) (by omega) (by decide)
end
local macro_rules | `(tactic| walk_at "call builtin:max") => `(tactic| k_dflt (apply max_spot <;> first | assumption | rfl | intros))
local macro_rules | `(tactic| walk_at "call builtin:min") => `(tactic| k_dflt (apply min_spot <;> first | assumption | rfl | intros))
local macro_rules | `(tactic| walk_at "compareOp Eq ref ref") => `(tactic| k_dflt (refine eq_walker (by k_asm) (by k_asm) (.head _) (.cons _ _ (.cons _ _ (.cons _ _ .nil))) (by assumption) (by assumption) (by assumption) ?_))
local macro_rules | `(tactic| walk_at "ItemsRest") => `(tactic| (refine hold ?_))
local macro_rules | `(tactic| walk_at "UnrPostW") => `(tactic| (refine hold ?_))
local macro_rules | `(tactic| walk_at "subscriptTail Name Name ref int") => `(tactic| with_unfolding_all refine sub_walker (by assumption) (by assumption) (fun _ => ?_) rfl fun _ => rfl)
local macro_rules | `(tactic| walk_at "setItem ref int") => `(tactic| k_dflt (apply set_walker <;> first | assumption | intros))
local macro_rules | `(tactic| k_all) => `(tactic| assumption)
local macro_rules | `(tactic| k_ne) => `(tactic| assumption)
set_option maxRecDepth 100000 in
set_option maxHeartbeats 8000000 in
theorem steps_call (w : World) (p : Program) (loose : List Str) (mean : ExcName → Option Value) (mg mb : Str → Option Value)
    (A : Around) (s : Shared) (a : Addr) (r g b : Int) (Q E : Value → Shared → Prop) (vs : List Value) :
    (Mine.hd.heap_39 w.params).In s.heap → Top p loose mean mg mb s.heap → A.handled = none → A.depth + 1 < recursionLimit → A.units + 100 < cLine → s.heap.IsList a vs.toArray → IntsAre vs [r, g, b] → (0 ≤ r ∧ r ≤ 8) → (0 ≤ g ∧ g ≤ 8) → (0 ≤ b ∧ b ≤ 8) →
    (∀ t h' tk, Sub s.heap h' → Q (.int (stepsF r g b) t) { s with heap := h', toks := tk }) →
    wpAny (model PySem.Challenge.rw_mq0090_01.row.prog w) A (call (.ref 47) [.ref a]) Q E s := by
  k_fill
  intro X T hh hd' hu' hl hI hr hg hb hQ
  obtain ⟨ah, dp, fr, gd, un⟩ := A
  cases (show ah = none from hh)
  have hd : dp < recursionLimit := Nat.lt_of_succ_lt hd'
  have hu : un + 3 + 64 < cLine := by have h9 : un + 100 < cLine := hu'; omega
  k_dflt (refine' call_pure (binds := [(Str.ofString "spot", .ref a)]) ?k1 ?k5 ?k6 ?k7 ?k8 ?k9 ?kB ?_ ?c2 ?c3 ?c4 ?c5; (case k1 => assumption); (case k5 => assumption); (case k6 => k_is); (case k7 => k_is); (case k8 => assumption); (case k9 => exact BindsTo.of_eq rfl); (case kB => exact locs rfl); (case c2 => exact rfl); (case c3 => exact rfl); (case c4 => exact rfl); (case c5 => decide))
  intro L' h' F'
  have N' : News s.heap L' h' [] := News.nil
  w_strict k_steps
  obtain ⟨n0, S⟩ : ∃ n : Nat, Spread r g b n := by
    obtain ⟨hm1, hm2, hm3, hm4⟩ := max3_ge r g b hr hg hb
    exact ⟨(max3 r g b - min3 r g b).toNat, by omega, by omega⟩
  have endd : ∀ (k : Int) (tr : Tok) (h' : Heap) (tk : Nat), walkOut [r, g, b] n0 ring [max3 r g b, min3 r g b, min3 r g b] 0 = some k → Sub s.heap h' →
      Q (.int (Int.fdiv (840 * k) (max3 r g b - min3 r g b)) tr) { s with heap := h', toks := tk } := fun k tr h' tk hk hs => by
    have e : stepsF r g b = Int.fdiv (840 * k) (max3 r g b - min3 r g b) := by
      have hn : (max3 r g b - min3 r g b).toNat = n0 := by rw [S.eq]; rfl
      simp only [stepsF, hn, hk]
    rw [← e]
    exact hQ tr h' tk hs
  unfold Hold
  refine rings_go (sp := [r, g, b]) (B1 := max3 r g b) (B2 := min3 r g b) (B3 := min3 r g b) (n0 := n0) S.le (by k_updF) rfl rfl rfl rfl ?R (by k_all) (by k_subL) (by k_all) ?step ?fin rfl
  case R => exact .cons .one (by k_mem) (by k_ne) (.cons .zero (by k_mem) (by k_ne) (.cons .two (by k_mem) (by k_ne) (.cons .one (by k_mem) (by k_ne) (.cons .zero (by k_mem) (by k_ne) (.cons .two (by k_mem) (by k_ne) .nil)))))
  case fin =>
    intro hw h1 tk1 m1 F1
    have e0 : stepsF r g b = 0 := by
      have hn : (max3 r g b - min3 r g b).toNat = n0 := by rw [S.eq]; rfl
      simp only [stepsF, hn, hw]
    have q0 : ∀ (tr : Tok) (h' : Heap) (tk : Nat), Sub s.heap h' → Q (.int 0 tr) { s with heap := h', toks := tk } := fun tr h' tk hs => by
      rw [← e0]; exact hQ tr h' tk hs
    w_strict k_steps
    exact q0 _ _ _ (Fr.keep (by assumption))
  intro tsp nw hnW hnI hWI hkp T1 part pI st tp ts n1 xs ux b1 b2 b3 u1 u2 u3 e1 k1 tk1 hP hT hk1 hfound hnext
  unfold ringM
  refine .val fun h1 tt1 F1 => .cons fun o1 hc1 => .nil fun N0 => ?_
  have hTW := hnW _ hT
  have hIW := hWI.symm
  have N1 : News s.heap L' h1 ((_, o1) :: (T1, { cls := .type "tuple", data := .seq #[.int pI tp, .int st ts] n1 }) :: (_, listOf #[.int b1 u1, .int b2 u2, .int b3 u3] e1) :: nw) := fun p hp => N0 p (by
    rcases List.mem_cons.mp hp with rfl | hp
    · exact .head _
    · rcases List.mem_cons.mp hp with rfl | hp
      · exact .tail _ (.tail _ hT)
      · exact .tail _ hp)
  clear N0
  dsimp only at N1
  w_strict k_steps
  refine' iter_ring (yw := Str.ofString "walker") (yp := Str.ofString "part") (ys := Str.ofString "step") (y := Str.ofString "steps") ?hh ?hxy ?hn0 ?hk0 ?hs ?hsp ?hpart ?hP ?hstep ?hW ?F ?N ?U ?hy ?hr ?turn ?found ?done
  (case hh => rfl)
  (case F => k_asm)
  (case N => k_asm)
  (case hW => rfl)
  (case U => k_updF)
  (case hr => assumption)
  (case hxy => decide)
  (case hn0 => exact Spread.le (by assumption))
  (case hs => exact Spread.eq (by assumption))
  (case hsp => assumption)
  (case hpart => rfl)
  (case hP => assumption)
  (case hstep => rfl)
  (case hy => rfl)
  (case hk0 => assumption)
  (case turn =>
    intro b1 b2 b3 u1 u2 u3 e' k tk' i ti h' tk own hoff F9 N9 hs0 hs8 hk0 hk1 Qt hret hnext
    w_strict k_steps
    (· exact hret (by assumption) _ _ _ ⟨_, rfl⟩ F9)
    (· refine hnext (by assumption) _ _ _ _ _ _ _ _ _ _ ?_ ⟨_, rfl⟩ ?_ (by k_asm) (by k_asm)
       (· assumption)
       (· intro z h1 h2
          show (if z = _ then _ else if z = _ then _ else if z = _ then _ else _) = _
          rw [if_neg h2, if_neg h1, if_neg h2])))
  case found =>
    intro k wk kk vr h' tk m' hw hvr F9
    obtain ⟨tr, rfl⟩ := hvr
    w_strict k_steps
    exact endd _ _ _ _ (hfound _ _ _ hw) F9.keep
  intro c1 c2 c3 w1 w2 w3 e2 k2 tk2 h2 tt2 ux2 hw2 hk2 F2 N2
  w_strict k_steps
  unfold Hold
  dsimp only [UnrPostW]
  refine ⟨_, _, _, (_, listOf #[.int c1 w1, .int c2 w2, .int c3 w3] e2) :: nw, rfl, F2, fun p hp => N2 p ?_, fun p hp q hq => ?_, ⟨.tail _ (hkp _ (.head _)), trivial⟩, items_ring rfl rfl rfl rfl (hnext _ _ _ _ _ _ _ _ _ _ hw2 hk2)⟩
  · rcases List.mem_cons.mp hp with rfl | hp
    · exact .head _
    · exact .tail _ (.tail _ hp)
  · rw [List.mem_singleton.mp hq]
    rcases List.mem_cons.mp hp with rfl | hp
    · exact hWI
    · exact hnI p hp
end Mine
end
namespace Mine
open PySem PySem.W PyProof.Rows in
/-- one step with the library's lines alone -/
theorem clear_mqwhole {prog : Program} {w : World} {A : Around} {E : Value → Shared → Prop} {Q : Flow → Shared → Prop} {env : Env} {s : Shared} (h : Q .next s) :
    wpAny (model prog w) A (execs [] env) Q E s := by
  w_top off
  walk1
  exact h
end Mine
section
namespace Mine
open PySem PySem.W PyProof.Rows
section
variable {w : World} {p : Program} {loose : List Str} {mean : ExcName → Option Value} {mg mb : Str → Option Value} {A : Around} {E : Value → Shared → Prop} {s : Shared} {h₀ : Heap} {L : Addr} {m : Str → Option Value} {news : List (Addr × Obj)}
theorem steps_N {a : Addr} {r g b : Int} {vs : List Value} {Q : Value → Shared → Prop} (F : Fr h₀ L s.heap m) (N : News h₀ L s.heap news) (X : (Mine.hd.heap_39 w.params).In h₀) (T : Top p loose mean mg mb h₀)
    (hh : A.handled = none) (hd : A.depth + 1 < recursionLimit) (hu : A.units + 100 < cLine) (hl : h₀.IsList a vs.toArray) (hI : IntsAre vs [r, g, b]) (hr : 0 ≤ r ∧ r ≤ 8) (hg : 0 ≤ g ∧ g ≤ 8) (hb : 0 ≤ b ∧ b ≤ 8)
    (h : ∀ t h' tk, Fr h₀ L h' m → News h₀ L h' news → Q (.int (stepsF r g b) t) { s with heap := h', toks := tk }) :
    wpAny (model PySem.Challenge.rw_mq0090_01.row.prog w) A (call (.ref 47) [.ref a]) Q E s :=
  steps_call w p loose mean mg mb A s a r g b Q E vs (X.keeps F.keep) (T.keeps F.keep) hh hd hu (hl.at fun o e => F.keep a o e) hI hr hg hb fun t h' tk hk => h t h' tk (fr_sub F hk) (news_sub N hk)
end
local macro_rules | `(tactic| walk_at "call builtin:max") => `(tactic| k_dflt (apply max_spot <;> first | assumption | rfl | intros))
local macro_rules | `(tactic| walk_at "call builtin:min") => `(tactic| k_dflt (apply min_spot <;> first | assumption | rfl | intros))
local macro_rules | `(tactic| walk_at "call ref") => `(tactic| k_dflt (apply steps_N <;> first | assumption | rfl | intros))
section
variable {prog : Program} {w : World} {A : Around} {E : Value → Shared → Prop} {s : Shared}
theorem fdiv_small {a b : Int} {t u : Tok} {Q : Value → Shared → Prop} (hb : 0 < b ∧ b ≤ 1000) (h : Q (.int (a.fdiv b) s.toks) { s with toks := s.toks + 1 }) : wpAny (model prog w) A (binaryOp .FloorDiv (.int a t) (.int b u)) Q E s :=
  floordiv_int (by omega) h (Or.inl (PyProof.noPylong_small (by omega)))
end
local macro_rules | `(tactic| walk_at "binaryOp FloorDiv int int") => `(tactic| refine fdiv_small (by constructor <;> (repeat' split) <;> omega) ?_)
set_option maxRecDepth 100000 in
set_option maxHeartbeats 8000000 in
/-- _law_whole: the four whole numbers of a spot -/
theorem whole_call (w : World) (p : Program) (loose : List Str) (mean : ExcName → Option Value) (mg mb : Str → Option Value)
    (A : Around) (s : Shared) (a : Addr) (r g b : Int) (Q E : Value → Shared → Prop) (vs : List Value) :
    (Mine.hd.heap_39 w.params).In s.heap → Top p loose mean mg mb s.heap → A.handled = none → A.depth + 3 < recursionLimit → A.units + 200 < cLine → s.heap.IsList a vs.toArray → IntsAre vs [r, g, b] → (0 ≤ r ∧ r ≤ 8) → (0 ≤ g ∧ g ≤ 8) → (0 ≤ b ∧ b ≤ 8) →
    (∀ D h' tk, Sub s.heap h' → s.heap.get? D = none → LstI h' D (wholeF r g b) → Q (.ref D) { s with heap := h', toks := tk }) →
    wpAny (model PySem.Challenge.rw_mq0090_01.row.prog w) A (call (.ref 54) [.ref a]) Q E s := by
  k_fill
  intro X T hh hd' hu' hl hI hr hg hb hQ
  obtain ⟨ah, dp, fr, gd, un⟩ := A
  cases (show ah = none from hh)
  have hd : dp < recursionLimit := by have h9 : dp + 3 < recursionLimit := hd'; omega
  have hd2 : dp + 1 + 1 < recursionLimit := by have h9 : dp + 3 < recursionLimit := hd'; omega
  have hu2 : un + 3 + 100 < cLine := by have h9 : un + 200 < cLine := hu'; omega
  k_dflt (refine' call_pure (binds := [(Str.ofString "spot", .ref a)]) ?k1 ?k5 ?k6 ?k7 ?k8 ?k9 ?kB ?_ ?c2 ?c3 ?c4 ?c5; (case k1 => assumption); (case k5 => assumption); (case k6 => k_is); (case k7 => k_is); (case k8 => assumption); (case k9 => exact BindsTo.of_eq rfl); (case kB => exact locs rfl); (case c2 => exact rfl); (case c3 => exact rfl); (case c4 => exact rfl); (case c5 => decide))
  intro L' h' F'
  have N' : News s.heap L' h' [] := News.nil
  obtain ⟨hm1, hm2, hm3, hm4⟩ := max3_ge r g b hr hg hb
  w_strict k_steps
  have hmax : ∀ x : Int, max 1 x = if x > 1 then x else 1 := fun x => by split <;> omega
  have hmin : ∀ x y : Int, min x y = if y < x then y else x := fun x y => by split <;> omega
  refine hQ _ _ _ (Fr.keep (by assumption)) (News.fresh (by assumption) (.head _)) ⟨_, _, News.get (by assumption) (.head _), ?_⟩
  simp only [wholeF, hmax, hmin]
  exact .cons _ _ (.cons _ _ (.cons _ _ (.cons _ _ .nil)))
end Mine
end
section
namespace Mine
open PySem PySem.W PyProof.Rows

section
variable {prog : Program} {w : World} {A : Around} {E : Value → Shared → Prop} {s : Shared} {K : Frag} {mg mb : Str → Option Value} {p : Program} {loose : List Str} {mean : ExcName → Option Value}
/-- the objects that a call may change, hidden from its base -/
abbrev Hid (h : Heap) (muts : List (Addr × Obj)) : Heap := hideAll h (muts.map (·.1))
theorem hid_sub (h : Heap) (muts : List (Addr × Obj)) : Sub (Hid h muts) h := fun _ _ e => of_hideAll _ e
/-- a call of a def of the top's that keeps cells; what it may change is told -/
theorem call_cells {Q : Value → Shared → Prop} {name qual : Str} {params : Arguments} {body : List Stmt} {scope : Scope} {dV kV doc pm cdv ct oc : Value} {an od : Option Addr} {osl : Array (Option Value)} {f : Addr} {args : List Value} {binds : List (Str × Value)}
    (muts : List (Addr × Obj)) (hmut : ∀ q ∈ muts, s.heap.get? q.1 = some q.2) (X : K.In (Hid s.heap muts)) (T : Top p loose mean mg mb (Hid s.heap muts))
    (ho : K.lookup f = some ⟨oc, od, .func (fnX name qual params body scope [] dV kV doc pm an cdv ct), osl⟩) (hcd : codeIn K cdv qual = true) (hroom : A.depth < recursionLimit)
    (hbind : BindsTo s (fnX name qual params body scope [] dV kV doc pm an cdv ct) ⟨args, []⟩ binds)
    (hkind : ∀ n, ∀ x ∈ binds, scope.names.lookup x.1 = some .local ∨ (scope.names.lookup x.1 = some .cell ∧ ((cellsFrom n scope.names []).lookup x.1).isSome = true))
    (hnd : ((cellsFrom 0 scope.names []).map (·.1)).Nodup)
    (h : ∀ L h₁ tk cells, Fr (Hid s.heap muts) L h₁ (bindL (envOfC qual scope L f cdv).kindOf binds fun _ => none) → News (Hid s.heap muts) L h₁ (cells ++ muts) →
      CellsAre (bindC (envOfC qual scope L f cdv).kindOf binds fun _ => none) (cellsFrom (L + 1) scope.names []) cells → (∀ q ∈ muts, q.1 < L) → L = s.heap.objs.size →
      wpAny (model prog w) (A.deeper (envOfC qual scope L f cdv)) (execs body (envOfC qual scope L f cdv))
        (fun fl s' => Q (match fl with | .ret v => v | _ => .none) s') (fun _ _ => False) { s with heap := h₁, toks := tk })
    (hco : scope.isCoroutine = false) (hgen : scope.isGenerator = false) (hk : scope.kind = .function) :
    wpAny (model prog w) A (call (.ref f) args) Q E s := by
  have X' : K.In s.heap := X.keeps (hid_sub _ _)
  refine wpAny_call (codeAny_call_function hroom (X' _ _ ho) rfl hco hgen rfl (codeRec_of X' hcd) (hbind _ _ _ _ ?_))
  refine wpAny_newFunctionEnv_cells hk (hkind _) fun env' he s' x => ?_
  subst he
  refine ⟨(T.nolimit.keeps (hid_sub _ _)).keeps x.toInCall.keep, codeAny_func ?_⟩
  obtain ⟨h₁, tk, rfl, _⟩ := x.done
  have hk₁ := x.toInCall.keep
  obtain ⟨cells, NC, Y⟩ := Cl.news (h₀ := s.heap) (Nat.le_refl _) fun n c hm => ⟨x.cell n c (lookup_of_mem_nodup (cellsFrom_names scope.names 0 (s.heap.objs.size + 1) [] [] rfl ▸ hnd) hm), x.above n c hm⟩
  refine wpAny_mono (h s.heap.objs.size h₁ tk cells ⟨x.toInCall.ns, fun b o e => hk₁ b o (of_hideAll _ e), Nat.le_of_eq (hideAll_size _ _)⟩ (fun q hq => ?_) Y (fun q hq => Heap.lt_size (hmut q hq)) rfl) (fun _ _ y => y) fun _ _ y => y.elim
  rcases List.mem_append.mp hq with hq | hq
  · refine ⟨(NC q hq).1, (NC q hq).2.1, ?_⟩
    cases e : (Hid s.heap muts).get? q.1 with
    | none => rfl
    | some o => have := of_hideAll _ e; rw [(NC q hq).2.2] at this; cases this
  · exact ⟨hk₁ _ _ (hmut q hq), Nat.ne_of_lt (Heap.lt_size (hmut q hq)), hideAll_none _ (List.mem_map_of_mem hq)⟩
/-- a call of a def that keeps no cell; what it may change is told; it may close over cells -/
theorem call_muts {Q : Value → Shared → Prop} {name qual : Str} {params : Arguments} {body : List Stmt} {scope : Scope} {cl : List (Str × Addr)} {dV kV doc pm cdv ct : Value} {an : Option Addr} {fo : Obj} {f : Addr} {args : List Value} {binds : List (Str × Value)}
    (muts : List (Addr × Obj)) (hmut : ∀ q ∈ muts, s.heap.get? q.1 = some q.2) (T : Top p loose mean mg mb (Hid s.heap muts))
    (ho : s.heap.get? f = some fo) (hd : fo.data = .func (fnX name qual params body scope cl dV kV doc pm an cdv ct)) (hcd : s.heap.CodeRec cdv qual) (hroom : A.depth < recursionLimit)
    (hbind : BindsTo s (fnX name qual params body scope cl dV kV doc pm an cdv ct) ⟨args, []⟩ binds) (hloc : ∀ y ∈ binds, scope.names.lookup y.1 = some .local)
    (h : ∀ L h₁, Fr (Hid s.heap muts) L h₁ (fun y => binds.reverse.lookup y) → News (Hid s.heap muts) L h₁ muts → (∀ q ∈ muts, q.1 < L) → L = s.heap.objs.size →
      wpAny (model prog w) (A.deeper (envX qual scope L f cdv cl)) (execs body (envX qual scope L f cdv cl))
        (fun fl s' => Q (match fl with | .ret v => v | _ => .none) s') (fun _ _ => False) { s with heap := h₁, toks := s.toks + binds.length })
    (hco : scope.isCoroutine = false) (hgen : scope.isGenerator = false) (hk : scope.kind = .function) (hcell : ∀ x ∈ scope.names, x.2 ≠ .cell) :
    wpAny (model prog w) A (call (.ref f) args) Q E s := by
  refine wpAny_call (codeAny_call_def (fd := fnX name qual params body scope cl dV kV doc pm an cdv ct) (body := body) (binds := binds) hroom ho hd (T.nolimit.keeps (hid_sub _ _)) hcd rfl hbind hcell hloc (fun h₁ hns hk₁ => ?_) hco hgen hk)
  refine wpAny_mono (h _ h₁ ⟨hns, fun b o e => hk₁ b o (of_hideAll _ e), Nat.le_of_eq (hideAll_size _ _)⟩ (fun q hq => ?_) (fun q hq => Heap.lt_size (hmut q hq)) rfl) (fun _ _ y => y) fun _ _ y => y.elim
  exact ⟨hk₁ _ _ (hmut q hq), Nat.ne_of_lt (Heap.lt_size (hmut q hq)), hideAll_none _ (List.mem_map_of_mem hq)⟩
end
end Mine
end
namespace Mine
open PySem PySem.W PyProof.Rows in
/-- one step with the library's lines alone -/
theorem clear_mqmeet {prog : Program} {w : World} {A : Around} {E : Value → Shared → Prop} {Q : Flow → Shared → Prop} {env : Env} {s : Shared} (h : Q .next s) :
    wpAny (model prog w) A (execs [] env) Q E s := by
  w_top off
  walk1
  exact h
end Mine
section
namespace Mine
open PySem PySem.W PyProof.Rows
/-- no place ahead of i has a number above the lesser and not above the greater -/
def Met (ns : List Int) (i j : Int) : Prop := ∀ k : Int, 0 ≤ k → k < i → ¬ (min (ns.getD i.toNat 0) (ns.getD j.toNat 0) < ns.getD k.toNat 0 ∧ ns.getD k.toNat 0 ≤ max (ns.getD i.toNat 0) (ns.getD j.toNat 0))
theorem fold_nil {P R : Int → Prop} [DecidablePred P] [DecidablePred R] : ∀ (ks : List Int) (l : List Int), ks.foldl (fun l k => if P k then l ++ [k] else if R k then l else l) l = l ++ ks.filter (fun k => decide (P k))
  | [], l => by simp
  | k :: ks, l => by
    rw [List.foldl_cons, fold_nil ks]
    by_cases h : P k
    · simp [h]
    · by_cases h' : R k <;> simp [h, h']
theorem rangeKs_mem {n : Nat} {k : Int} : k ∈ rangeKs 0 n ↔ 0 ≤ k ∧ k < n := by
  unfold rangeKs
  simp only [List.mem_map, List.mem_range]
  constructor
  · rintro ⟨i, hi, rfl⟩; omega
  · rintro ⟨h0, h1⟩; exact ⟨k.toNat, by omega, by omega⟩
theorem toNat_lt {k i : Int} (h : 0 ≤ i) : k < ((i - 0).toNat : Int) ↔ k < i := by omega
theorem min_if (x y : Int) : min x y = if y < x then y else x := by split <;> omega
theorem max_if (x y : Int) : max x y = if x < y then y else x := by split <;> omega
local macro_rules | `(tactic| k_ne) => `(tactic| (rename (_ ∧ _) ∧ _ => hz; obtain ⟨⟨_, _, _⟩, ⟨_, _, _⟩, _, _, _⟩ := hz; first | assumption | exact Ne.symm (by assumption)))
local macro_rules | `(tactic| omega) => `(tactic| ((rename ((_ ≠ _) ∧ _) ∧ _ => hz9); clear hz9; (try (rename (_ ≠ _) ∧ _ ∧ _ => hz8; clear hz8)); omega +splitDisjunctions))
set_option maxRecDepth 100000 in
set_option maxHeartbeats 8000000 in


theorem meet_call (w : World) (p : Program) (loose : List Str) (mean : ExcName → Option Value) (mg mb : Str → Option Value)
    (A : Around) (s : Shared) (wl : Addr) (i j : Int) (ti tj : Tok) (ns : List Int) (Q E : Value → Shared → Prop) (vs : List Value) :
    (Mine.hd.heap_39 w.params).In (Hid s.heap []) → Top p loose mean mg mb (Hid s.heap []) → A.handled = none → A.depth + 3 < recursionLimit → A.units + 200 < cLine → s.heap.IsList wl vs.toArray → IntsAre vs ns →
    0 ≤ i → i < ns.length → 0 ≤ j → j < ns.length → ns.length ≤ 8 →
    (∀ b h' tk, Sub s.heap h' → (b = true ↔ Met ns i j) → Q (.bool b) { s with heap := h', toks := tk }) →
    wpAny (model PySem.Challenge.rw_mq0090_01.row.prog w) A (call (.ref 66) [.ref wl, .int i ti, .int j tj]) Q E s := by
  k_fill
  intro X T hh hd' hu' hl hI hi0 hi1 hj0 hj1 hn hQ
  obtain ⟨ah, dp, fr, gd, un⟩ := A
  cases (show ah = none from hh)
  have hd : dp < recursionLimit := by have h9 : dp + 3 < recursionLimit := hd'; omega
  k_dflt (refine' call_cells [] ?k0 ?k1 ?k5 ?k6 ?k7 ?k8 ?k9 ?kB ?kN ?_ ?c2 ?c3 ?c4; (case k0 => (intro _ h9; cases h9)); (case k1 => assumption); (case k5 => assumption); (case k6 => k_is); (case k7 => k_is); (case k8 => assumption); (case k9 => exact BindsTo.of_eq (binds := [(Str.ofString "whole", .ref wl), (Str.ofString "i", .int i ti), (Str.ofString "j", .int j tj)]) rfl); (case kB => (intro n x hx; simp only [List.mem_cons, List.not_mem_nil, or_false] at hx; rcases hx with rfl | rfl | rfl; (· exact .inr ⟨rfl, rfl⟩); (· exact .inl rfl); (· exact .inl rfl))); (case kN => decide); (case c2 => exact rfl); (case c3 => exact rfl); (case c4 => exact rfl))
  intro L h₁ tk cells F0 N0 C0 _ hL
  obtain ⟨o1, o2, o3, rfl, d1, d2, d3⟩ := CellsAre.three C0
  have F' : Fr (Hid s.heap []) L h₁ (fun y => if y = Str.ofString "j" then some (.int j tj) else if y = Str.ofString "i" then some (.int i ti) else none) := F0
  have N' : News (Hid s.heap []) L h₁ [(L + 1 + 1 + 1, o1), (L + 1 + 1, o2), (L + 1, o3)] := N0
  have d1' : o1.data = .cell none := d1
  have d2' : o2.data = .cell none := d2
  have d3' : o3.data = .cell (some (.ref wl)) := d3
  have hl' : (Hid s.heap []).IsList wl vs.toArray := hl
  clear F0 N0 C0 d1 d2 d3
  w_strict k_steps
  rename_i hI8 _ _ _ _ _ _ _ _ F9 N9 _
  refine eq_intsK (vs := ys) ⟨_, N9.get (.tail _ (.head _)), rfl, _, rfl⟩ hI8 (us := []) ⟨_, N9.get (.head _), rfl, _, rfl⟩ .nil (by have h9 : un + 200 < cLine := hu'; show un + 3 + 64 < cLine; omega) ?_
  refine hQ _ _ _ F9.keep ?_
  rw [fold_nil, List.nil_append, decide_eq_true_eq, List.filter_eq_nil_iff]
  unfold Met
  simp only [rangeKs_mem, min_if, max_if, decide_eq_true_eq]
  constructor
  · intro h k h0 h1
    exact h k ⟨h0, (toNat_lt hi0).mpr h1⟩
  · intro h k hk
    exact h k hk.1 ((toNat_lt hi0).mp hk.2)
end Mine
end
section
namespace Mine
open PySem PySem.W PyProof.Rows

/-- all but the object at a is kept -/
abbrev Ext (a : Addr) (h h' : Heap) : Prop := ∀ b o, b ≠ a → h.get? b = some o → h'.get? b = some o
/-- a tuple of two ints -/
def TupP (o : Obj) (a b : Int) : Prop := ∃ ta tb n, o = { cls := .type "tuple", data := .seq #[.int a ta, .int b tb] n }
inductive PairsT : List (Addr × Obj) → List (Int × Int) → Prop
  | nil : PairsT [] []
  | cons {d : Addr} {o : Obj} {a b : Int} {l : List (Addr × Obj)} {ps : List (Int × Int)} : TupP o a b → PairsT l ps → PairsT ((d, o) :: l) ((a, b) :: ps)
theorem PairsT.snoc {d : Addr} {o : Obj} {a b : Int} (h : TupP o a b) : ∀ {l : List (Addr × Obj)} {ps : List (Int × Int)}, PairsT l ps → PairsT (l ++ [(d, o)]) (ps ++ [(a, b)])
  | _, _, .nil => .cons h .nil
  | _, _, .cons h' t => .cons h' (PairsT.snoc h t)
theorem PairsT.append : ∀ {l l' : List (Addr × Obj)} {ps ps' : List (Int × Int)}, PairsT l ps → PairsT l' ps' → PairsT (l ++ l') (ps ++ ps')
  | _, _, _, _, .nil, h => h
  | _, _, _, _, .cons h t, h' => .cons h (PairsT.append t h')
theorem PairsT.length : ∀ {l : List (Addr × Obj)} {ps : List (Int × Int)}, PairsT l ps → l.length = ps.length
  | _, _, .nil => rfl
  | _, _, .cons _ t => by simp [t.length]
def refsOfT (l : List (Addr × Obj)) : List Value := l.map fun p => .ref p.1

/-- what the predicate does: it asks (first, q) and says how much -/
def HowSpec (w : World) (g₀ : Heap) (f ak : Addr) (first : Int) (more : Int → Bool) (okq : Int → Prop) : Prop :=
  ∀ (A : Around) (s : Shared) (its : List Value) (e : Nat) (q : Int) (t : Tok) (Q : Value → Shared → Prop),
    A.handled = none → A.depth + 2 < recursionLimit → A.units + 100 < cLine → Sub g₀ s.heap → s.heap.get? ak = some (listOf its.toArray e) → its.length ≤ 1000 → okq q →
    (∀ x tx d o e' h' tk, (!Float64.isZero x) = more q → Ext ak s.heap h' → s.heap.get? d = none → TupP o first q → h'.get? d = some o → h'.get? ak = some (listOf (its ++ [Value.ref d]).toArray e') → Q (.float x tx) { s with heap := h', toks := tk }) →
    wpAny (model PySem.Challenge.rw_mq0090_01.row.prog w) A (call (.ref f) [.int q t]) Q (fun _ _ => False) s

section
variable {w : World} {A : Around} {s : Shared} {h₀ g₀ : Heap} {L f ak : Addr} {m : Str → Option Value} {rest : List (Addr × Obj)} {first : Int} {more : Int → Bool} {okq : Int → Prop}
theorem how_N {its : List Value} {e : Nat} {q : Int} {t : Tok} {Q : Value → Shared → Prop} (S : HowSpec w g₀ f ak first more okq) (hg : Sub g₀ h₀) (hh : A.handled = none) (hd : A.depth + 2 < recursionLimit) (hu : A.units + 100 < cLine)
    (hq : okq q) (F : Fr h₀ L s.heap m) (N : News h₀ L s.heap ((ak, listOf its.toArray e) :: rest)) (hoff : ∀ p ∈ rest, p.1 ≠ ak) (hlen : its.length ≤ 1000)
    (h : ∀ x tx d o e' h' tk, (!Float64.isZero x) = more q → TupP o first q → Fr h₀ L h' m → News h₀ L h' ((d, o) :: (ak, listOf (its ++ [Value.ref d]).toArray e') :: rest) → (∀ p ∈ rest, p.1 ≠ d) → ak ≠ d → Q (.float x tx) { s with heap := h', toks := tk }) :
    wpAny (model PySem.Challenge.rw_mq0090_01.row.prog w) A (call (.ref f) [.int q t]) Q (fun _ _ => False) s := by
  have nak := N _ (.head _)
  refine S A s its e q t Q hh hd hu (fun b o e => F.keep b o (hg b o e)) nak.1 hlen hq fun x tx d o e' h' tk hm hx hd0 ho hdo hak => ?_
  have hda : ak ≠ d := fun q => by rw [← q, nak.1] at hd0; cases hd0
  have hne : ∀ b, b ≠ ak → ∀ o, s.heap.get? b = some o → h'.get? b = some o := fun b hb o e => hx b o hb e
  have hLa : L ≠ ak := fun q => nak.2.1 q.symm
  have F' : Fr h₀ L h' m := by
    refine ⟨F.ns.at' fun o e => hx _ o hLa e, fun b o e => hx b o (fun q => ?_) (F.keep b o e), F.above⟩
    rw [q, nak.2.2] at e; cases e
  refine h x tx d o e' h' tk hm ho F' ?_ ?_ hda
  · intro p hp
    rcases List.mem_cons.mp hp with rfl | hp
    · refine ⟨hdo, fun q => ?_, ?_⟩
      · obtain ⟨oL, _, _, eL, _⟩ := F.ns
        rw [← q, hd0] at eL; cases eL
      · cases e9 : h₀.get? d with
        | none => rfl
        | some o' => rw [F.keep _ _ e9] at hd0; cases hd0
    · rcases List.mem_cons.mp hp with rfl | hp
      · exact ⟨hak, nak.2⟩
      · have := N p (.tail _ hp)
        exact ⟨hx _ _ (hoff p hp) this.1, this.2⟩
  · intro p hp q
    have := (N p (.tail _ hp)).1
    rw [q, hd0] at this; cases this
end
end Mine
end
section
namespace Mine
open PySem PySem.W PyProof.Rows

section
variable {prog : Program} {w : World} {A : Around} {E : Value → Shared → Prop} {s : Shared} {env : Env} {h₀ : Heap} {x : Str} {body : List Stmt} {Q : Flow → Shared → Prop}
theorem iter_split {l ak Y Z : Addr} {vs its : List Value} {ns : List Int} {m : Str → Option Value} {e e1 e2 : Nat} (first : Int) (more : Int → Bool)
    (hh : A.handled = none) (hl : h₀.IsList l vs.toArray) (hi : IntsAre vs ns) (F : Fr h₀ env.locals s.heap m)
    (N : News h₀ env.locals s.heap [(Z, listOf #[] e2), (Y, listOf #[] e1), (ak, listOf its.toArray e)]) (h1 : Y ≠ ak) (h2 : Z ≠ ak) (h3 : Z ≠ Y)
    (turn : ∀ (n : Int) (t : Tok) (us ys zs : List Value) (f f1 f2 : Nat) (h : Heap) (tk : Nat) (rest : List (Addr × Obj)), n ∈ ns → us.length ≤ its.length + ns.length → ys.length ≤ ns.length → zs.length ≤ ns.length → OwnOff rest [ak, Y, Z] →
      Fr h₀ env.locals h (fun z => if z = x then some (.int n t) else m z) → News h₀ env.locals h ((ak, listOf us.toArray f) :: (Y, listOf ys.toArray f1) :: (Z, listOf zs.toArray f2) :: rest) →
      ∀ Qt : Flow → Shared → Prop, (∀ (d : Addr) (o : Obj) (ys' zs' : List Value) (g g1 g2 : Nat) (m' : Str → Option Value) (h' : Heap) (tk' : Nat), TupP o first n → (∀ z, z ≠ x → m' z = m z) → Fr h₀ env.locals h' m' →
        (∃ t1, ys' = if more n then ys ++ [Value.int n t1] else ys) → (∃ t1, zs' = if more n then zs else zs ++ [Value.int n t1]) → ak ≠ d → Y ≠ d → Z ≠ d → (∀ p ∈ rest, p.1 ≠ d) →
        News h₀ env.locals h' ((d, o) :: (ak, listOf (us ++ [Value.ref d]).toArray g) :: (Y, listOf ys'.toArray g1) :: (Z, listOf zs'.toArray g2) :: rest) → Qt .next { s with heap := h', toks := tk' }) →
      wpAny (model prog w) A (execs body env) Qt E { s with heap := h, toks := tk })
    (done : ∀ (ys zs : List Value) (tups : List (Addr × Obj)) (f f1 f2 : Nat) (h : Heap) (tk : Nat) (ux : Str → Option Value), PairsT tups (ns.map fun q => (first, q)) → IntsAre ys (ns.filter more) → IntsAre zs (ns.filter fun q => !more q) →
      Fr h₀ env.locals h (fun z => if z = x then ux z else m z) → News h₀ env.locals h ((ak, listOf (its ++ refsOfT tups).toArray f) :: (Y, listOf ys.toArray f1) :: (Z, listOf zs.toArray f2) :: tups) → Q .next { s with heap := h, toks := tk }) :
    wpAny (model prog w) A (pyIter (.ref l)) (fun it s₂ => LoopAtV prog w A h₀ env x body Q E it s₂) E s := by
  refine iter_invG (news := [(ak, listOf its.toArray e), (Y, listOf #[] e1), (Z, listOf #[] e2)]) (fun i m₁ nx => ∃ ys zs tups f f1 f2, nx = (ak, listOf (its ++ refsOfT tups).toArray f) :: (Y, listOf (List.toArray ys) f1) :: (Z, listOf (List.toArray zs) f2) :: tups ∧
      PairsT tups ((ns.take i).map fun q => (first, q)) ∧ IntsAre ys ((ns.take i).filter more) ∧ IntsAre zs ((ns.take i).filter fun q => !more q) ∧ (∀ z, z ≠ x → m₁ z = m z) ∧ OwnOff tups [ak, Y, Z]) hh hl hi F (fun p hp => N p ?_) ⟨[], [], [], e, e1, e2, ?_, ?_, ?_, ?_, fun _ _ => rfl, fun _ hp => (nomatch hp)⟩ ?_ ?_
  · simp only [List.mem_cons, List.not_mem_nil, or_false] at hp ⊢
    rcases hp with h | h | h
    · exact .inr (.inr h)
    · exact .inr (.inl h)
    · exact .inl h
  · simp [refsOfT]
  · simpa using PairsT.nil
  · simpa using IntsAre.nil
  · simpa using IntsAre.nil
  · rintro i n t m₁ _ h tk own hn ⟨oI, _⟩ hoff ⟨ys, zs, tups, f, f1, f2, rfl, hP, hY, hZ, hm, hT⟩ F₁ N₁
    have em : (fun z => if z = x then some (Value.int n t) else m₁ z) = fun z => if z = x then some (Value.int n t) else m z := by
      funext z
      by_cases c1 : z = x
      · simp [c1]
      · simp only [if_neg c1]; exact hm z c1
    rw [em] at F₁
    have hlt : (ns.take i).length ≤ ns.length := by rw [List.length_take]; exact Nat.min_le_right _ _
    have lp : (refsOfT tups).length = (ns.take i).length := by simp [refsOfT, hP.length]
    have ly : ys.length ≤ ns.length := by rw [hY.length]; exact Nat.le_trans (List.length_filter_le _ _) hlt
    have lz : zs.length ≤ ns.length := by rw [hZ.length]; exact Nat.le_trans (List.length_filter_le _ _) hlt
    have hs : ns.take (i + 1) = ns.take i ++ [n] := by rw [List.take_add_one, hn]; rfl
    refine turn n t (its ++ refsOfT tups) ys zs f f1 f2 h tk (tups ++ own) (List.mem_of_getElem? hn) (by rw [List.length_append, lp]; omega) ly lz ?_ F₁ (by simpa using N₁) _ fun d o ys' zs' g g1 g2 m' h' tk' ho hm' F' hys hzs d1 d2 d3 d4 N' => ?_
    · intro p hp b hb
      rcases List.mem_append.mp hp with hp | hp
      · exact hT p hp b hb
      · refine hoff p hp b ?_
        simp only [List.mem_cons, List.not_mem_nil, or_false] at hb
        rcases hb with rfl | rfl | rfl <;> simp
    · show InvEndG _ _ _ _ _ _
      obtain ⟨t1, rfl⟩ := hys
      obtain ⟨t2, rfl⟩ := hzs
      refine InvEndG.intro F' N' (nx := (ak, listOf (its ++ refsOfT (tups ++ [(d, o)])).toArray g) :: (Y, listOf (if more n then ys ++ [Value.int n t1] else ys).toArray g1) :: (Z, listOf (if more n then zs else zs ++ [Value.int n t2]).toArray g2) :: (tups ++ [(d, o)]))
        ⟨_, _, _, _, _, _, rfl, ?_, ?_, ?_, hm', ?_⟩ ?_ ?_ ?_
      · rw [hs, List.map_append]; exact hP.snoc ho
      · rw [hs, List.filter_append]
        cases hmn : more n
        · simpa [hmn] using hY
        · simpa [hmn] using IntsAre.append hY (.cons _ _ .nil)
      · rw [hs, List.filter_append]
        cases hmn : more n
        · simpa [hmn] using IntsAre.append hZ (.cons _ _ .nil)
        · simpa [hmn] using hZ
      · intro p hp b hb
        rcases List.mem_append.mp hp with hp | hp
        · exact hT p hp b hb
        · rw [List.mem_singleton.mp hp]
          simp only [List.mem_cons, List.not_mem_nil, or_false] at hb
          rcases hb with rfl | rfl | rfl
          · exact fun h => d1 h.symm
          · exact fun h => d2 h.symm
          · exact fun h => d3 h.symm
      · intro p hp b hb
        simp only [List.map_cons, List.map_append, List.mem_cons, List.mem_append, List.map_nil, List.not_mem_nil, or_false] at hb
        rcases hb with rfl | rfl | rfl | hb | rfl
        · exact hoff p hp _ (by simp)
        · exact hoff p hp _ (by simp)
        · exact hoff p hp _ (by simp)
        · exact hoff p hp _ (by simp [hb])
        · exact d4 p (List.mem_append.mpr (.inr hp))
      · intro p hp
        simp only [List.mem_cons, List.mem_append, List.not_mem_nil, or_false, refsOfT, List.map_append, List.map_cons, List.map_nil, ← List.append_assoc] at hp ⊢
        rcases hp with h | h | h | h | h
        · exact .inr (.inl h)
        · exact .inr (.inr (.inl h))
        · exact .inr (.inr (.inr (.inl h)))
        · exact .inr (.inr (.inr (.inr (.inl h))))
        · exact .inl h
      · intro p hp
        simp only [List.mem_cons, List.mem_append]
        exact .inr (.inr (.inr (.inr (.inr hp))))
  · rintro m₁ _ h tk ⟨ys, zs, tups, f, f1, f2, rfl, hP, hY, hZ, hm, hT⟩ F₁ N₁
    rw [List.take_length] at hP hY hZ
    refine done ys zs tups f f1 f2 h tk m₁ hP hY hZ ?_ N₁
    have em : (fun z => if z = x then m₁ z else m z) = m₁ := by
      funext z
      by_cases c1 : z = x
      · simp [c1]
      · simp only [if_neg c1]; exact (hm z c1).symm
    rw [em]; exact F₁
end
end Mine
end
namespace Mine
open PySem PySem.W PyProof.Rows in
/-- one step with the library's lines alone -/
theorem clear_mqsplit3 {prog : Program} {w : World} {A : Around} {E : Value → Shared → Prop} {Q : Flow → Shared → Prop} {env : Env} {s : Shared} (h : Q .next s) :
    wpAny (model prog w) A (execs [] env) Q E s := by
  w_top off
  walk1
  exact h
end Mine
section
namespace Mine
open PySem PySem.W PyProof.Rows
theorem PairsT.mem {l : List (Addr × Obj)} {ps : List (Int × Int)} (h : PairsT l ps) {q : Addr × Obj} : q ∈ l → ∃ a b, TupP q.2 a b := by
  induction h with
  | nil => intro h; cases h
  | cons h t ih =>
    intro hq
    rcases List.mem_cons.mp hq with e | hq
    · subst e; exact ⟨_, _, h⟩
    · exact ih hq
/-- a tuple of two objects -/
def TupR (o : Obj) (a b : Addr) : Prop := ∃ n, o = { cls := .type "tuple", data := .seq #[.ref a, .ref b] n }
section
variable {prog : Program} {w : World} {A : Around} {E : Value → Shared → Prop} {s : Shared} {env : Env} {h₀ : Heap} {x : Str} {body : List Stmt} {Q : Flow → Shared → Prop}
theorem iter_splitS {L l ak Y Z fa : Addr} {vs its : List Value} {ns : List Int} {m : Str → Option Value} {e e1 e2 : Nat} {g₀ : Heap} {okq : Int → Prop} {first : Int} {more : Int → Bool}
    (hE : env.locals = L) (_S : HowSpec w g₀ fa ak first more okq) (hok : ∀ q ∈ ns, okq q) (hn : ns.length ≤ 8) (hits : its.length ≤ 900)
    (hh : A.handled = none) (hl : h₀.IsList l vs.toArray) (hi : IntsAre vs ns) (F : Fr h₀ L s.heap m)
    (N : News h₀ L s.heap [(Z, listOf #[] e2), (Y, listOf #[] e1), (ak, listOf its.toArray e)]) (h1 : Y ≠ ak) (h2 : Z ≠ ak) (h3 : Z ≠ Y)
    (turn : ∀ (n : Int) (t : Tok) (us ys zs : List Value) (f f1 f2 : Nat) (h : Heap) (tk : Nat) (rest : List (Addr × Obj)), okq n → us.length ≤ 1000 → ys.length ≤ 8 → zs.length ≤ 8 → OwnOff rest [ak, Y, Z] →
      Fr h₀ L h (fun z => if z = x then some (.int n t) else m z) → News h₀ L h ((ak, listOf us.toArray f) :: (Y, listOf ys.toArray f1) :: (Z, listOf zs.toArray f2) :: rest) →
      ∀ Qt : Flow → Shared → Prop, (∀ (d : Addr) (o : Obj) (ys' zs' : List Value) (g g1 g2 : Nat) (m' : Str → Option Value) (h' : Heap) (tk' : Nat), TupP o first n → (∀ z, z ≠ x → m' z = m z) → Fr h₀ L h' m' →
        (∃ t1, ys' = if more n then ys ++ [Value.int n t1] else ys) → (∃ t1, zs' = if more n then zs else zs ++ [Value.int n t1]) → ak ≠ d → Y ≠ d → Z ≠ d → (∀ p ∈ rest, p.1 ≠ d) →
        News h₀ L h' ((d, o) :: (ak, listOf (us ++ [Value.ref d]).toArray g) :: (Y, listOf ys'.toArray g1) :: (Z, listOf zs'.toArray g2) :: rest) → Qt .next { s with heap := h', toks := tk' }) →
      wpAny (model prog w) A (execs body env) Qt E { s with heap := h, toks := tk })
    (done : ∀ (ys zs : List Value) (tups : List (Addr × Obj)) (f f1 f2 : Nat) (h : Heap) (tk : Nat) (ux : Str → Option Value), PairsT tups (ns.map fun q => (first, q)) → IntsAre ys (ns.filter more) → IntsAre zs (ns.filter fun q => !more q) →
      Fr h₀ L h (fun z => if z = x then ux z else m z) → News h₀ L h ((ak, listOf (its ++ refsOfT tups).toArray f) :: (Y, listOf ys.toArray f1) :: (Z, listOf zs.toArray f2) :: tups) → Q .next { s with heap := h, toks := tk }) :
    wpAny (model prog w) A (pyIter (.ref l)) (fun it s₂ => LoopAtV prog w A h₀ env x body Q E it s₂) E s := by
  subst hE
  exact iter_split first more hh hl hi F N h1 h2 h3 (fun n t us ys zs f f1 f2 h tk rest hm b1 b2 b3 off F' N' Qt k => turn n t us ys zs f f1 f2 h tk rest (hok n hm) (by omega) (by omega) (by omega) off F' N' Qt k) done
end
theorem off3 {d ak : Addr} {o1 o2 : Obj} {Y Z : Addr} {rest : List (Addr × Obj)} (h : ∀ p ∈ (Y, o1) :: (Z, o2) :: rest, p.1 ≠ d) (h' : ak ≠ d) : @Ne Nat Y d ∧ @Ne Nat Z d ∧ @Ne Nat ak d ∧ ∀ p ∈ rest, p.1 ≠ d :=
  ⟨h _ (.head _), h _ (.tail _ (.head _)), h', fun p hp => h p (.tail _ (.tail _ hp))⟩
theorem fnAt_fr {q L : Addr} {h₀ h : Heap} {m : Str → Option Value} (X : FnAt q h₀) (F : Fr h₀ L h m) : FnAt q h := by
  obtain ⟨a, b, c, d, e⟩ := X
  exact ⟨a, b, c, d, F.keep _ _ e⟩
local macro_rules | `(tactic| walk_at "callWith ref") => `(tactic| k_dflt (refine callWith_F (fnAt_fr (by assumption) (by assumption)) ?_))
local macro_rules | `(tactic| walk_at "FnAt") => `(tactic| exact fnAt_fr (by assumption) (by k_asm))
local macro_rules | `(tactic| size_fits) => `(tactic| (simp only [List.size_toArray, PySem.sizeLine_eq]; omega))
local macro_rules | `(tactic| walk_at "pyIter ref") => `(tactic| refine hold ?_)
local macro_rules | `(tactic| walk_at "call ref") => `(tactic| refine hold ?_)
set_option maxRecDepth 100000 in
set_option maxHeartbeats 8000000 in
theorem split_call (w : World) (p : Program) (loose : List Str) (mean : ExcName → Option Value) (mg mb : Str → Option Value)
    (A : Around) (s : Shared) (sl f ak : Addr) (its vs : List Value) (e : Nat) (ns : List Int) (first : Int) (more : Int → Bool) (okq : Int → Prop) (Q E : Value → Shared → Prop) :
    (Mine.hd.heap_39 w.params).In (Hid s.heap [(ak, listOf its.toArray e)]) → Top p loose mean mg mb (Hid s.heap [(ak, listOf its.toArray e)]) → A.handled = none → A.depth + 4 < recursionLimit → A.units + 200 < cLine →
    s.heap.get? ak = some (listOf its.toArray e) → (Hid s.heap [(ak, listOf its.toArray e)]).IsList sl vs.toArray → IntsAre vs ns → FnAt f (Hid s.heap [(ak, listOf its.toArray e)]) → ns.length ≤ 8 → its.length ≤ 900 → HowSpec w (Hid s.heap [(ak, listOf its.toArray e)]) f ak first more okq → (∀ q ∈ ns, okq q) →
    (∀ d Y Z ys zs tups e' o e1 e2 h' tk, Ext ak s.heap h' → h'.get? d = some o → TupR o Y Z → h'.get? Y = some (listOf (List.toArray ys) e1) → h'.get? Z = some (listOf (List.toArray zs) e2) → IntsAre ys (ns.filter more) → IntsAre zs (ns.filter fun q => !more q) →
      h'.get? ak = some (listOf (its ++ refsOfT tups).toArray e') → PairsT tups (ns.map fun q => (first, q)) → (∀ p ∈ tups, h'.get? p.1 = some p.2 ∧ p.1 ≠ ak ∧ s.heap.get? p.1 = none) → (∀ b ∈ [d, Y, Z], b ≠ ak ∧ s.heap.get? b = none) → Q (.ref d) { s with heap := h', toks := tk }) →
    wpAny (model PySem.Challenge.rw_mq0090_01.row.prog w) A (call (.ref 21) [.ref sl, .ref f]) Q E s := by
  k_fill
  intro X T hh hd' hu' hak hl hI hfn hn hits hS hok hQ
  obtain ⟨ah, dp, fr, gd, un⟩ := A
  cases (show ah = none from hh)
  have hd : dp < recursionLimit := by have h9 : dp + 4 < recursionLimit := hd'; omega
  k_dflt (refine' call_cells [(ak, listOf its.toArray e)] ?k0 ?k1 ?k5 ?k6 ?k7 ?k8 ?k9 ?kB ?kN ?_ ?c2 ?c3 ?c4; (case k0 => (intro _ h9; cases h9 with | head => exact hak | tail _ h9 => cases h9)); (case k1 => assumption); (case k5 => assumption); (case k6 => k_is); (case k7 => k_is); (case k8 => assumption); (case k9 => exact BindsTo.of_eq (binds := [(Str.ofString "s", .ref sl), (Str.ofString "predicate", .ref f)]) rfl); (case kB => (intro n x hx; simp only [List.mem_cons, List.not_mem_nil, or_false] at hx; rcases hx with rfl | rfl; (· exact .inl rfl); (· exact .inl rfl))); (case kN => decide); (case c2 => exact rfl); (case c3 => exact rfl); (case c4 => exact rfl))
  intro L h₁ tk cells F0 N0 C0 hlt hL
  have e0 : cells = [] := by cases C0; rfl
  subst e0
  have hltk : ak < L := hlt _ (.head _)
  have F' : Fr (Hid s.heap [(ak, listOf its.toArray e)]) L h₁ (fun y => if y = Str.ofString "predicate" then some (.ref f) else if y = Str.ofString "s" then some (.ref sl) else none) := F0
  have N' : News (Hid s.heap [(ak, listOf its.toArray e)]) L h₁ [(ak, listOf its.toArray e)] := N0
  clear F0 N0 C0 hlt
  have hd2 : dp + 1 + 2 < recursionLimit := by have h9 : dp + 4 < recursionLimit := hd'; omega
  have hu2 : un + 3 + 100 < cLine := by have h9 : un + 200 < cLine := hu'; omega
  w_strict k_steps
  unfold Hold
  k_dflt (refine' iter_splitS ?hE (by assumption) ?hok ?hn ?hits ?hh ?hl ?hI ?F ?N ?h1 ?h2 ?h3 ?turn ?done; (case hok => assumption); (case hn => assumption); (case hits => assumption); (case hh => rfl); (case hl => assumption); (case hI => assumption); (case F => k_asm); (case N => k_asm); (case h1 => k_ne); (case h2 => k_ne); (case h3 => k_ne); (case hE => rfl))
  case turn =>
    intro n8 t8 us8 ys8 zs8 f8 f18 f28 h8 tk8 rest8 ok8 b18 b28 b38 off8 F8 N8 Qt8 hQ9
    w_strict k_steps
    unfold Hold
    k_dflt (refine' how_N (by assumption) ?hg ?hh ?hd ?hu ?hq ?F ?N ?off ?len ?_; (case hg => exact fun _ _ e => e); (case hh => rfl); (case hd => assumption); (case hu => assumption); (case F => k_asm); (case N => k_asm); (case hq => assumption); (case off => k_all); (case len => assumption); k_whole)
    intro x9 tx9 d9 o9 e9 h9 tk9 hm9 ho9 F7 N7 hn9 hd9
    obtain ⟨y1, y2, y4, y3⟩ := off3 hn9 hd9
    clear hn9
    w_strict k_steps
    · rename_i a9 h10 F9 N9
      rw [a9] at hm9
      simp only [List.push_toArray] at N9
      exact hQ9 d9 o9 _ _ _ _ _ _ h10 _ ho9 (fun z hz => if_neg hz) F9 ⟨default, by rw [if_neg (by simp [← hm9])]⟩ ⟨_, by rw [if_neg (by simp [← hm9])]⟩ y4 y1 y2 y3 N9
    · rename_i a9 h10 F9 N9
      rw [a9] at hm9
      simp only [List.push_toArray] at N9
      exact hQ9 d9 o9 _ _ _ _ _ _ h10 _ ho9 (fun z hz => if_neg hz) F9 ⟨_, by rw [if_pos (by simp [← hm9])]⟩ ⟨default, by rw [if_pos (by simp [← hm9])]⟩ y4 y1 y2 y3 N9
  case done =>
    intro ys8 zs8 tups8 f8 f18 f28 h8 tk8 ux8 hP9 hY9 hZ9 F8 N8
    w_strict k_steps
    rename_i D9 h10 F9 N9 l9
    have hfree : ∀ q ∈ (D9, ({ cls := Value.type "tuple", data := Data.seq #[Value.ref _, Value.ref _] } : Obj)) :: (ak, _) :: _, q.1 ≠ ak → s.heap.get? q.1 = none := fun q hq hne => by
      have h0 := (N9 q hq).2.2
      cases e9 : s.heap.get? q.1 with
      | none => rfl
      | some o => rw [hideAll_get _ e9 (by simpa using hne)] at h0; cases h0
    have hak9 := (N9 _ (.tail _ (.head _))).1
    refine hQ D9 _ _ _ _ _ _ _ _ _ h10 _ (fun b o hb e9 => F9.keep b o (hideAll_get _ e9 (by simpa using hb))) (N9 _ (.head _)).1 ⟨_, rfl⟩ (N9 _ (.tail _ (.tail _ (.head _)))).1 (N9 _ (.tail _ (.tail _ (.tail _ (.head _))))).1 hY9 hZ9 hak9 hP9 ?_ ?_
    · intro q hq
      have h0 := N9 q (.tail _ (.tail _ (.tail _ (.tail _ hq))))
      obtain ⟨a, b, t⟩ := hP9.mem hq
      have hne : q.1 ≠ ak := fun e9 => by
        have h1 := h0.1
        rw [e9, hak9] at h1
        obtain ⟨ta, tb, n, t⟩ := t
        rw [t] at h1
        have h2 : Value.type "list" = Value.type "tuple" := congrArg Obj.cls (Option.some.inj h1)
        injection h2 with h3
        exact absurd h3 (by decide)
      exact ⟨h0.1, hne, hfree q (.tail _ (.tail _ (.tail _ (.tail _ hq)))) hne⟩
    · intro b hb
      simp only [List.mem_cons, List.not_mem_nil, or_false] at hb
      rcases hb with rfl | rfl | rfl
      · have hne : b ≠ ak := neN (by omega)
        exact ⟨hne, hfree (b, _) (.head _) hne⟩
      · have hne : b ≠ ak := neN (by omega)
        exact ⟨hne, hfree (b, _) (.tail _ (.tail _ (.head _))) hne⟩
      · have hne : b ≠ ak := neN (by omega)
        exact ⟨hne, hfree (b, _) (.tail _ (.tail _ (.tail _ (.head _)))) hne⟩
end Mine
end
section
namespace Mine
open PySem PySem.W PyProof.Rows

/-- a ledger's entry, and what is left -/
inductive Pick (d : Addr) (o : Obj) : List (Addr × Obj) → List (Addr × Obj) → Prop
  | head {r : List (Addr × Obj)} : Pick d o ((d, o) :: r) r
  | tail {p : Addr × Obj} {r r' : List (Addr × Obj)} : Pick d o r r' → Pick d o (p :: r) (p :: r')
theorem Pick.mem {d : Addr} {o : Obj} {r r' : List (Addr × Obj)} (h : Pick d o r r') : ∀ q ∈ (d, o) :: r', q ∈ r := by
  induction h with
  | head => exact fun _ h => h
  | tail _ ih =>
    intro q hq
    rcases List.mem_cons.mp hq with rfl | hq
    · exact .tail _ (ih _ (.head _))
    · rcases List.mem_cons.mp hq with rfl | hq
      · exact .head _
      · exact .tail _ (ih _ (.tail _ hq))
theorem news_pick {h₀ h : Heap} {L d : Addr} {o : Obj} {r r' : List (Addr × Obj)} (N : News h₀ L h r) (P : Pick d o r r') : News h₀ L h ((d, o) :: r') := fun q hq => N q (P.mem q hq)
theorem sub_hid {h₀ h : Heap} {muts : List (Addr × Obj)} (hs : Sub h₀ h) (hm : ∀ q ∈ muts, h₀.get? q.1 = none) : Sub h₀ (Hid h muts) := fun b o e => by
  refine hideAll_get _ (hs b o e) fun hb => ?_
  obtain ⟨q, hq, rfl⟩ := List.mem_map.mp hb
  rw [hm q hq] at e; cases e
/-- fresh in h, so fresh in the ledger's base and apart from what the ledger holds -/
theorem fresh_off {h₀ h : Heap} {L : Addr} {m : Str → Option Value} {news : List (Addr × Obj)} {d : Addr} (F : Fr h₀ L h m) (N : News h₀ L h news) (hd : h.get? d = none) : d ≠ L ∧ h₀.get? d = none ∧ ∀ q ∈ news, q.1 ≠ d := by
  refine ⟨fun e => ?_, ?_, fun q hq e => ?_⟩
  · obtain ⟨oL, _, _, eL, _⟩ := F.ns
    rw [← e, hd] at eL; cases eL
  · cases e9 : h₀.get? d with
    | none => rfl
    | some o' => rw [F.keep _ _ e9] at hd; cases hd
  · have := (N q hq).1
    rw [e, hd] at this; cases this
/-- what a split is by: the walk finds it in the context -/
def SplitBy (_ak : Addr) (_first : Int) (_more : Int → Bool) (_okq : Int → Prop) : Prop := True
section
variable {w : World} {A : Around} {s : Shared} {h₀ : Heap} {L f ak sl : Addr} {m mg mb : Str → Option Value} {p : Program} {loose : List Str} {mean : ExcName → Option Value} {news rest : List (Addr × Obj)} {first : Int} {more : Int → Bool} {okq : Int → Prop}
theorem split_N {its vs : List Value} {e e0 : Nat} {ns : List Int} {oc : Value} {od : Option Addr} {fd : FuncData} {osl : Array (Option Value)} {Q E : Value → Shared → Prop} (_b : SplitBy ak first more okq) (F : Fr h₀ L s.heap m) (N : News h₀ L s.heap news) (P : Pick ak (listOf its.toArray e) news rest)
    (X : (Mine.hd.heap_39 w.params).In h₀) (T : Top p loose mean mg mb h₀) (hh : A.handled = none) (hd : A.depth + 4 < recursionLimit) (hu : A.units + 200 < cLine) (hl : (sl, listOf vs.toArray e0) ∈ rest) (hI : IntsAre vs ns)
    (hf : (f, (⟨oc, od, .func fd, osl⟩ : Obj)) ∈ rest) (hn : ns.length ≤ 8) (hits : its.length ≤ 900) (off : ∀ q ∈ rest, q.1 ≠ ak) {o56 : Obj} (h56 : ((56 : Addr), o56) ∈ rest)
    (h : ∀ d Y Z ys zs tups e' e1 e2 n h' tk, Fr h₀ L h' m → News h₀ L h' ((d, { cls := .type "tuple", data := .seq #[.ref Y, .ref Z] n }) :: (Y, listOf (List.toArray ys) e1) :: (Z, listOf (List.toArray zs) e2) :: (ak, listOf (its ++ refsOfT tups).toArray e') :: (rest ++ tups)) →
      IntsAre ys (ns.filter more) → IntsAre zs (ns.filter fun q => !more q) → PairsT tups (ns.map fun q => (first, q)) → (@Ne Nat ak d ∧ @Ne Nat ak Y ∧ @Ne Nat ak Z ∧ @Ne Nat 56 d ∧ @Ne Nat 56 Y ∧ @Ne Nat 56 Z) → OwnOff tups (ak :: rest.map (·.1)) → (∀ q ∈ tups, s.heap.get? q.1 = none) →
      Q (.ref d) { s with heap := h', toks := tk })
    (hok : ∀ q ∈ ns, okq q) (hS : ∀ g₀, Sub h₀ g₀ → (∀ q ∈ rest, g₀.get? q.1 = some q.2) → g₀.get? ak = none → HowSpec w g₀ f ak first more okq) :
    wpAny (model PySem.Challenge.rw_mq0090_01.row.prog w) A (call (.ref 21) [.ref sl, .ref f]) Q E s := by
  have N1 := news_pick N P
  have nak := N1 _ (.head _)
  have hsub : Sub h₀ (Hid s.heap [(ak, listOf its.toArray e)]) := sub_hid F.keep fun q hq => by rw [List.mem_singleton.mp hq]; exact nak.2.2
  have hrest : ∀ q ∈ rest, (Hid s.heap [(ak, listOf its.toArray e)]).get? q.1 = some q.2 := fun q hq => hideAll_get _ (N1 q (.tail _ hq)).1 (by simpa using off q hq)
  refine split_call w p loose mean mg mb A s sl f ak its vs e ns first more okq Q E (X.keeps hsub) (T.keeps hsub) hh hd hu nak.1 ⟨_, hrest _ hl, rfl, _, rfl⟩ hI ⟨_, _, _, _, hrest _ hf⟩ hn hits (hS _ hsub hrest (hideAll_none _ (.head _))) hok ?_
  intro d Y Z ys zs tups e' o e1 e2 h' tk hx hd' hT hY hZ hIy hIz hak hP ht hb
  obtain ⟨n, rfl⟩ := hT
  have hLa : L ≠ ak := fun q => nak.2.1 q.symm
  have F' : Fr h₀ L h' m := by
    refine ⟨F.ns.at' fun o e => hx _ o hLa e, fun b o e => hx b o (fun q => ?_) (F.keep b o e), F.above⟩
    rw [q, nak.2.2] at e; cases e
  have fr := fun b hb0 => fresh_off (d := b) F N1 hb0
  refine h d Y Z ys zs tups e' e1 e2 n h' tk F' ?_ hIy hIz hP ?_ ?_ ?_
  · intro q hq
    simp only [List.mem_cons, List.mem_append] at hq
    rcases hq with rfl | rfl | rfl | rfl | hq | hq
    · have := fr d (hb _ (by simp)).2
      exact ⟨hd', this.1, this.2.1⟩
    · have := fr Y (hb _ (by simp)).2
      exact ⟨hY, this.1, this.2.1⟩
    · have := fr Z (hb _ (by simp)).2
      exact ⟨hZ, this.1, this.2.1⟩
    · exact ⟨hak, nak.2⟩
    · exact ⟨hx _ _ (off q hq) (N1 q (.tail _ hq)).1, (N1 q (.tail _ hq)).2⟩
    · have h9 := ht q hq
      have := fr q.1 h9.2.2
      exact ⟨h9.1, this.1, this.2.1⟩
  · have h9 := fun b hb0 => (fr b (hb b hb0).2).2.2
    exact ⟨h9 d (by simp) _ (.head _), h9 Y (by simp) _ (.head _), h9 Z (by simp) _ (.head _), h9 d (by simp) _ (.tail _ h56), h9 Y (by simp) _ (.tail _ h56), h9 Z (by simp) _ (.tail _ h56)⟩
  · intro q hq b hb0
    have h9 := (fr q.1 (ht q hq).2.2).2.2
    rcases List.mem_cons.mp hb0 with rfl | hb0
    · exact (ht q hq).2.1
    · obtain ⟨r, hr, rfl⟩ := List.mem_map.mp hb0
      exact fun e9 => h9 r (.tail _ hr) e9.symm
  · exact fun q hq => (ht q hq).2.2
end
end Mine
end
section
namespace Mine
open PySem PySem.W PyProof.Rows

/-- how place q stands to place p in these floats -/
def moreX (xs : List UInt64) (p q : Int) : Bool := moreF (xs.getD p.toNat f0) (xs.getD q.toNat f0)
/-- a code table: the inner def's code object is not yet there, or it is, and it lies in h -/
def TabOk (pos : Pos) (qual : Str) (h : Heap) (ps : Array Value) : Prop :=
  ps = #[] ∨ ∃ (c' : Addr) (oc : Obj) (vs : Array Value) (t : Tok), ps = #[rawInt pos.line, rawInt pos.col, .ref c'] ∧ h.get? c' = some oc ∧ oc.data = .fields vs ∧ vs[1]? = some (.str qual t)
theorem TabOk.sub {pos : Pos} {qual : Str} {h h' : Heap} {ps : Array Value} (x : TabOk pos qual h ps) (hs : Sub h h') : TabOk pos qual h' ps := by
  rcases x with x | ⟨c', oc, vs, t, x, y, z⟩
  · exact .inl x
  · exact .inr ⟨c', oc, vs, t, x, hs _ _ y, z⟩
section
variable {M : Model} {A : Around} {E : Value → Shared → Prop} {s : Shared} {L a c P : Addr} {h₀ : Heap} {m mg mb : Str → Option Value} {news : List (Addr × Obj)} {g : Obj → List (Addr × Obj)} {cn : Str} {cs : Scope} {ccd : Value} {cl : List (Str × Addr)}
  {p : Program} {loose : List Str} {mean : ExcName → Option Value} {name qual : Str} {params : Arguments} {body : List Stmt} {scope : Scope} {ps : Array Value} {pos : Pos} {firstLine : Nat} {clos : List (Str × Addr)}
theorem nest_any {Q : Value → Shared → Prop} (F : Fr h₀ L s.heap m) (N : News h₀ L s.heap news) (T : Top p loose mean mg mb h₀) (C : CodeHd h₀ c P) (hcd : ccd = .ref c) (U : UpdF P (tabObj ps) news g) (ht : TabOk pos qual h₀ ps)
    (hcl : closureFor scope (envX cn cs L a ccd cl) = pure clos)
    (h : ∀ f c' oc vs t ctv doc h' tk cd, Fr h₀ L h' m →
      News h₀ L h' ((f, fnMade name qual params body scope clos doc ((mg "__name__").getD .none) c' ctv) :: (g (tabObj #[rawInt pos.line, rawInt pos.col, .ref c']) ++ cd)) →
      oc.data = .fields vs → vs[1]? = some (.str qual t) → (h₀.get? c' = some oc ∨ (c', oc) ∈ cd) → (∀ q ∈ news, q.1 < f) → OwnOff cd (f :: news.map (·.1)) → (ps ≠ #[] → #[rawInt pos.line, rawInt pos.col, .ref c'] = ps) → Q (.ref f) { s with heap := h', toks := tk }) :
    wpAny M A (makeFunction name qual params (.stmts body) scope (envX cn cs L a ccd cl) [] [] [] pos firstLine) Q E s := by
  rcases ht with rfl | ⟨c', oc, vs, t, rfl, hc, hdat, hq⟩
  · refine nest_K F N T C hcd U trivial rfl hcl fun f c' oc vs t ctv doc h' tk F' N' hdat hq h1 h2 => ?_
    refine h f c' oc vs t ctv doc h' tk [(c', oc)] F' (fun q hq => N' q ?_) hdat hq (.inr (.head _)) (fun q hq => Nat.lt_trans (h1 q hq) h2) ?_ (fun hn => absurd rfl hn)
    · simp only [List.mem_cons, List.mem_append, List.not_mem_nil, or_false] at hq ⊢
      rcases hq with h | h | h
      · exact .inl h
      · exact .inr (.inr h)
      · exact .inr (.inl h)
    · intro q hq b hb
      rw [List.mem_singleton.mp hq]
      rcases List.mem_cons.mp hb with rfl | hb
      · exact Nat.ne_of_lt h2
      · obtain ⟨r, hr, rfl⟩ := List.mem_map.mp hb
        exact fun e => Nat.lt_irrefl _ (e ▸ h1 r hr)
  · obtain ⟨own, rest, e0, hgr, h1, h2⟩ := U.split
    refine nestHit_K (c' := c') (ps := #[rawInt pos.line, rawInt pos.col, .ref c']) F N T C hcd (by rw [e0]; simp) (by simp [TriplesOk, rawInt]) (by simp [codeAmong, rawInt]) hcl fun f ctv doc h' tk F' N' hlt => ?_
    refine h f c' oc vs t ctv doc h' tk [] F' ?_ hdat hq (.inl hc) hlt (fun _ hq => (nomatch hq)) (fun _ => rfl)
    rw [hgr, List.append_nil, ← e0]
    exact N'
end
/-- where the inner def stands, and its qualified name -/
abbrev lpos : Pos := { line := 81, col := 4, endLine := 83, endCol := 50 }
abbrev lqual : Str := Str.ofString "_law_laid" ++ Str.ofString ".<locals>." ++ Str.ofString "_law_by_how_much"
/-- what _law_laid may change: asked and its own code's table -/
abbrev lmuts (ak : Addr) (its : List Value) (e : Nat) (ps : Array Value) : List (Addr × Obj) := [(ak, listOf its.toArray e), (56, tabObj ps)]
theorem lmuts_sub {h h' : Heap} {ak : Addr} {its its' : List Value} {e e' : Nat} {ps ps' : Array Value} (k : Sub (Hid h (lmuts ak its e ps)) h') : Sub (Hid h (lmuts ak its e ps)) (Hid h' (lmuts ak its' e' ps')) := sub_hid k fun q hq => by
  refine hideAll_none _ ?_
  simp only [List.mem_cons, List.not_mem_nil, or_false] at hq
  rcases hq with rfl | rfl
  · exact .head _
  · exact .tail _ (.head _)
/-- what _law_laid does, for lists of at most n places -/
def LaidSpec (w : World) (xs : List UInt64) (n : Nat) : Prop :=
  ∀ (p : Program) (loose : List Str) (mean : ExcName → Option Value) (mg mb : Str → Option Value) (A : Around) (s : Shared) (pl tl ak : Addr) (its vs fs : List Value) (e : Nat) (ps : Array Value) (ns : List Int) (Q E : Value → Shared → Prop),
    (Mine.hd.heap_39 w.params).In (Hid s.heap (lmuts ak its e ps)) → Top p loose mean mg mb (Hid s.heap (lmuts ak its e ps)) → CodeHd (Hid s.heap (lmuts ak its e ps)) 60 56 → TabOk lpos lqual (Hid s.heap (lmuts ak its e ps)) ps →
    A.handled = none → A.depth + n + 8 < recursionLimit → A.units + 3 * n + 300 < cLine → s.heap.get? ak = some (listOf its.toArray e) → s.heap.get? 56 = some (tabObj ps) →
    (Hid s.heap (lmuts ak its e ps)).IsList pl vs.toArray → IntsAre vs ns → ns.length ≤ n → n ≤ 8 → (Hid s.heap (lmuts ak its e ps)).IsList tl fs.toArray → FloatsAre fs xs → its.length + ns.length * ns.length ≤ 900 → (∀ q ∈ ns, 0 ≤ q ∧ q < (xs.length : Int)) →
    (∀ D us e' ps' tups e2 h' tk, (∀ b o, b ≠ ak → b ≠ 56 → s.heap.get? b = some o → h'.get? b = some o) → h'.get? D = some (listOf (List.toArray us) e2) → s.heap.get? D = none → IntsAre us (laidF (moreX xs) n ns).1 →
      h'.get? ak = some (listOf (its ++ refsOfT tups).toArray e') → PairsT tups (laidF (moreX xs) n ns).2 → (∀ q ∈ tups, h'.get? q.1 = some q.2 ∧ s.heap.get? q.1 = none) → h'.get? 56 = some (tabObj ps') → (ps ≠ #[] → ps' = ps) →
      TabOk lpos lqual (Hid h' (lmuts ak (its ++ refsOfT tups) e' ps')) ps' → Q (.ref D) { s with heap := h', toks := tk }) →
    wpAny (model PySem.Challenge.rw_mq0090_01.row.prog w) A (call (.ref 61) [.ref pl, .ref tl, .ref ak]) Q E s
section
variable {w : World} {A : Around} {s : Shared} {h₀ : Heap} {L ak pl tl c' : Addr} {m mg mb : Str → Option Value} {p : Program} {loose : List Str} {mean : ExcName → Option Value} {news r1 rest : List (Addr × Obj)} {xs : List UInt64} {n : Nat} {oc : Obj} {cv : Array Value} {tq : Tok}
theorem laid_N {its vs fs : List Value} {e e0 : Nat} {ns : List Int} {Q E : Value → Shared → Prop} (S : LaidSpec w xs n) (F : Fr h₀ L s.heap m) (N : News h₀ L s.heap news) (P : Pick ak (listOf its.toArray e) news r1) (P2 : Pick 56 (tabObj #[rawInt lpos.line, rawInt lpos.col, .ref c']) r1 rest)
    (X : (Mine.hd.heap_39 w.params).In h₀) (T : Top p loose mean mg mb h₀) (C : CodeHd h₀ 60 56) (hdat : oc.data = .fields cv) (hq : cv[1]? = some (.str lqual tq)) (hc : h₀.get? c' = some oc ∨ (c', oc) ∈ rest) (hh : A.handled = none) (hd : A.depth + n + 8 < recursionLimit) (hu : A.units + 3 * n + 300 < cLine)
    (hl : (pl, listOf vs.toArray e0) ∈ rest) (hI : IntsAre vs ns) (hn : ns.length ≤ n) (hn8 : n ≤ 8) (htl : h₀.IsList tl fs.toArray) (hfs : FloatsAre fs xs) (hits : its.length + ns.length * ns.length ≤ 900) (hok : ∀ q ∈ ns, 0 ≤ q ∧ q < (xs.length : Int))
    (off : ∀ q ∈ rest, q.1 ≠ ak) (off2 : ∀ q ∈ rest, q.1 ≠ 56) (hne : @Ne Nat ak 56)
    (h : ∀ D us tups e' e2 h' tk, Fr h₀ L h' m → News h₀ L h' ((D, listOf (List.toArray us) e2) :: (ak, listOf (its ++ refsOfT tups).toArray e') :: (56, tabObj #[rawInt lpos.line, rawInt lpos.col, .ref c']) :: (rest ++ tups)) →
      IntsAre us (laidF (moreX xs) n ns).1 → PairsT tups (laidF (moreX xs) n ns).2 → (@Ne Nat ak D ∧ @Ne Nat 56 D) → OwnOff tups [ak, 56] → Q (.ref D) { s with heap := h', toks := tk }) :
    wpAny (model PySem.Challenge.rw_mq0090_01.row.prog w) A (call (.ref 61) [.ref pl, .ref tl, .ref ak]) Q E s := by
  have N0 := news_pick N P
  have N1 : News h₀ L s.heap ((ak, listOf its.toArray e) :: (56, tabObj #[rawInt lpos.line, rawInt lpos.col, .ref c']) :: rest) := fun q hq => by
    rcases List.mem_cons.mp hq with rfl | hq
    · exact N0 _ (.head _)
    · exact N0 _ (.tail _ (P2.mem q hq))
  have nak := N1 _ (.head _)
  have n56 := N1 _ (.tail _ (.head _))
  have hsub : Sub h₀ (Hid s.heap (lmuts ak its e #[rawInt lpos.line, rawInt lpos.col, .ref c'])) := sub_hid F.keep fun q hq => by
    rcases List.mem_cons.mp hq with rfl | hq
    · exact nak.2.2
    · rw [List.mem_singleton.mp hq]; exact n56.2.2
  have hrest : ∀ q ∈ rest, (Hid s.heap (lmuts ak its e #[rawInt lpos.line, rawInt lpos.col, .ref c'])).get? q.1 = some q.2 := fun q hq => hideAll_get _ (N1 q (.tail _ (.tail _ hq))).1 (by simpa using ⟨off q hq, off2 q hq⟩)
  have hcc : (Hid s.heap (lmuts ak its e #[rawInt lpos.line, rawInt lpos.col, .ref c'])).get? c' = some oc := by
    rcases hc with hc | hc
    · exact hsub _ _ hc
    · exact hrest _ hc
  refine S p loose mean mg mb A s pl tl ak its vs fs e _ ns Q E (X.keeps hsub) (T.keeps hsub) (C.keeps hsub) (.inr ⟨c', oc, cv, tq, rfl, hcc, hdat, hq⟩) hh hd hu nak.1 n56.1 ⟨_, hrest _ hl, rfl, _, rfl⟩ hI hn hn8 (htl.at fun o e9 => hsub _ o e9) hfs hits hok ?_
  intro D us e' ps' tups e2 h' tk hx hD hD0 hus hak hP ht h56' hps _
  cases hps (by simp)
  have hne0 : ∀ b o, h₀.get? b = some o → b ≠ ak ∧ b ≠ 56 := fun b o e9 => ⟨fun q => (by rw [q, nak.2.2] at e9; cases e9), fun q => (by rw [q, n56.2.2] at e9; cases e9)⟩
  have F' : Fr h₀ L h' m := ⟨F.ns.at' fun o e9 => hx _ o (fun q => nak.2.1 q.symm) (fun q => n56.2.1 q.symm) e9, fun b o e9 => hx b o (hne0 b o e9).1 (hne0 b o e9).2 (F.keep b o e9), F.above⟩
  have fr := fun b hb0 => fresh_off (d := b) F N1 hb0
  refine h D us tups e' e2 h' tk F' ?_ hus hP ⟨(fr D hD0).2.2 _ (.head _), (fr D hD0).2.2 _ (.tail _ (.head _))⟩ ?_
  · intro q hq
    simp only [List.mem_cons, List.mem_append] at hq
    rcases hq with rfl | rfl | rfl | hq | hq
    · have := fr D hD0
      exact ⟨hD, this.1, this.2.1⟩
    · exact ⟨hak, nak.2⟩
    · exact ⟨h56', n56.2⟩
    · have := N1 q (.tail _ (.tail _ hq))
      exact ⟨hx _ _ (off q hq) (off2 q hq) this.1, this.2⟩
    · have h9 := ht q hq
      have := fr q.1 h9.2
      exact ⟨h9.1, this.1, this.2.1⟩
  · intro q hq b hb0
    have h9 := (fr q.1 (ht q hq).2).2.2
    simp only [List.mem_cons, List.not_mem_nil, or_false] at hb0
    rcases hb0 with rfl | rfl
    · exact fun e9 => h9 _ (.head _) e9.symm
    · exact fun e9 => h9 _ (.tail _ (.head _)) e9.symm
end
end Mine
end
section
namespace Mine
open PySem PySem.W PyProof.Rows
/-- a place of these floats -/
structure Within (k : Int) (xs : List UInt64) : Prop where
  lo : 0 ≤ k
  hi : k < (xs.length : Int)
  small : xs.length ≤ 1000
section
variable {prog : Program} {w : World} {A : Around} {E : Value → Shared → Prop} {s : Shared}
/-- an item of a list of floats at an open place -/
theorem item_float {value slice : PySem.Expr} {l : Addr} {fs : List Value} {xs : List UInt64} {k : Int} {u : Tok} {Q : Value → Shared → Prop}
    (hl : s.heap.IsList l fs.toArray) (hf : FloatsAre fs xs) (hk : 0 ≤ k ∧ k < (xs.length : Int)) (hn : xs.length ≤ 1000) (h : ∀ t, Q (.float (xs.getD k.toNat f0) t) s)
    (hs : subscripted slice false (.ref l) (.int k u) = operate [.ref l, .int k u] (getItem (.ref l) (.int k u)) := by with_unfolding_all rfl) :
    wpAny (model prog w) A (subscriptTail value slice (.ref l) (.int k u)) Q E s := by
  have hlt : k.toNat < xs.length := by omega
  have e : xs[k.toNat]? = some (xs.getD k.toNat f0) := by rw [List.getD_eq_getElem?_getD, List.getElem?_eq_getElem hlt]; rfl
  obtain ⟨t, ht⟩ := hf.get _ _ e
  have h63 : k < 2 ^ 63 := by omega
  exact tail_any hl.typeIs slot_list_getitem.lookup (wpAny_getItem_list hl hk.1 h63 (by simpa using ht) (h t)) hs
theorem item_floatF {h₀ : Heap} {L : Addr} {m : Str → Option Value} {value slice : PySem.Expr} {l : Addr} {fs : List Value} {xs : List UInt64} {k : Int} {u : Tok} {Q : Value → Shared → Prop} (F : Fr h₀ L s.heap m)
    (hl : h₀.IsList l fs.toArray) (hf : FloatsAre fs xs) (hk : Within k xs) (h : ∀ t, Q (.float (xs.getD k.toNat f0) t) s)
    (hs : subscripted slice false (.ref l) (.int k u) = operate [.ref l, .int k u] (getItem (.ref l) (.int k u)) := by with_unfolding_all rfl) :
    wpAny (model prog w) A (subscriptTail value slice (.ref l) (.int k u)) Q E s := item_float (hl.at fun o e => F.keep l o e) hf ⟨hk.lo, hk.hi⟩ hk.small h hs
end

/-- there is room for what a laying asks -/
structure Room (its : List Value) (ns : List Int) (n : Nat) : Prop where
  le : its.length + (ns.length + 1) * (ns.length + 1) ≤ 900
  ln : ns.length ≤ n
  n8 : n + 1 ≤ 8
theorem filter_two (f : Int → Bool) : ∀ ps : List Int, (ps.filter fun q => f q).length + (ps.filter fun q => !f q).length = ps.length
  | [] => rfl
  | a :: r => by
    have ih := filter_two f r
    simp only [List.filter_cons]
    cases f a <;> simp <;> omega
theorem laidF_asked_len (more : Int → Int → Bool) : ∀ (n : Nat) (ps : List Int), ps.length ≤ n → (laidF more n ps).2.length ≤ ps.length * ps.length
  | 0, ps, _ => by simp [laidF]
  | n + 1, [], _ => by simp [laidF]
  | n + 1, p :: ps, h => by
    have l1 := List.length_filter_le (fun q => more p q) ps
    have l2 := List.length_filter_le (fun q => !more p q) ps
    simp only [List.length_cons, Nat.add_le_add_iff_right] at h
    have a1 := laidF_asked_len more n _ (Nat.le_trans l1 h)
    have a2 := laidF_asked_len more n _ (Nat.le_trans l2 h)
    have hs := filter_two (fun q => more p q) ps
    simp only [laidF, List.length_append, List.length_map, List.length_cons]
    generalize (ps.filter fun q => more p q).length = a at *
    generalize (ps.filter fun q => !more p q).length = b at *
    have e : (ps.length + 1) * (ps.length + 1) = a * a + b * b + 2 * (a * b) + 2 * a + 2 * b + 1 := by
      rw [← hs]
      simp only [Nat.add_mul, Nat.mul_add, Nat.mul_comm b a]
      omega
    omega
section
variable {its : List Value} {ns : List Int} {n : Nat} {n0 : Int} {f : Int → Bool} {tups tups1 : List (Addr × Obj)} {g : Int → Int × Int}
theorem Room.split (R : Room its ns n) : its.length ≤ 900 ∧ ns.length ≤ 8 := by
  have h1 := R.le; have h2 := R.ln; have h3 := R.n8
  have := Nat.zero_le ((ns.length + 1) * (ns.length + 1))
  exact ⟨by omega, by omega⟩
theorem Room.sq (a b : Nat) : (a + b + 1) * (a + b + 1) = a * a + b * b + 2 * (a * b) + 2 * a + 2 * b + 1 := by
  simp only [Nat.add_mul, Nat.mul_add, Nat.mul_comm b a]
  omega
theorem Room.one (R : Room its ns n) (hp : PairsT tups (ns.map g)) : (its ++ refsOfT tups).length + (ns.filter fun q => f q).length * (ns.filter fun q => f q).length ≤ 900 := by
  have h1 := R.le
  have h2 := hp.length
  have hs := filter_two f ns
  have e := Room.sq (ns.filter fun q => f q).length (ns.filter fun q => !f q).length
  rw [hs] at e
  simp only [List.length_append, refsOfT, List.length_map] at h2 ⊢
  omega
theorem Room.two {more : Int → Int → Bool} (R : Room its ns n) (hp : PairsT tups (ns.map g)) (hp1 : PairsT tups1 (laidF more n (ns.filter fun q => f q)).2) :
    (its ++ refsOfT tups ++ refsOfT tups1).length + (ns.filter fun q => !f q).length * (ns.filter fun q => !f q).length ≤ 900 := by
  have h1 := R.le
  have h2 := hp.length
  have h3 := hp1.length
  have h4 := laidF_asked_len more n (ns.filter fun q => f q) (Nat.le_trans (List.length_filter_le _ _) R.ln)
  have hs := filter_two f ns
  have e := Room.sq (ns.filter fun q => f q).length (ns.filter fun q => !f q).length
  rw [hs] at e
  simp only [List.length_append, refsOfT, List.length_map] at h2 h3 ⊢
  omega
theorem Room.fl (R : Room its ns n) : (ns.filter fun q => f q).length ≤ n := Nat.le_trans (List.length_filter_le _ _) R.ln
end
section
variable {prog : Program} {w : World} {A : Around} {E : Value → Shared → Prop} {s : Shared} {h₀ : Heap} {L : Addr} {m : Str → Option Value} {news : List (Addr × Obj)}
/-- two lists of the ledger added -/
theorem add_N {a b : Addr} {us vs : List Value} {e1 e2 : Nat} {Q : Value → Shared → Prop} (F : Fr h₀ L s.heap m) (N : News h₀ L s.heap news) (ha : (a, listOf us.toArray e1) ∈ news) (hb : (b, listOf vs.toArray e2) ∈ news) (hz : us.length + vs.length ≤ 1000)
    (h : ∀ D h', Fr h₀ L h' m → News h₀ L h' ((D, listOf (List.toArray (us ++ vs)) 0) :: news) → (∀ q ∈ news, q.1 < D) → Q (.ref D) { s with heap := h' }) :
    wpAny (model prog w) A (binaryOp .Add (.ref a) (.ref b)) Q E s := by
  refine add_arrays F N ⟨_, (N _ ha).1, rfl, _, rfl⟩ ⟨_, (N _ hb).1, rfl, _, rfl⟩ (fun h' F' N' => ?_) (by simp only [List.size_toArray, sizeLine_eq]; omega)
  exact h _ h' F' N' fun q hq => Heap.lt_size (N q hq).1
end
end Mine
end
namespace Mine
open PySem PySem.W PyProof.Rows in
/-- one step with the library's lines alone -/
theorem clear_mqlaid {prog : Program} {w : World} {A : Around} {E : Value → Shared → Prop} {Q : Flow → Shared → Prop} {env : Env} {s : Shared} (h : Q .next s) :
    wpAny (model prog w) A (execs [] env) Q E s := by
  w_top off
  walk1
  exact h
end Mine
section
namespace Mine
open PySem PySem.W PyProof.Rows
local macro_rules | `(tactic| walk_at "exec FunctionDef") => `(tactic| refine hold ?_)
local macro_rules | `(tactic| walk_at "mq pick") => `(tactic| first | exact Pick.head | (refine' Pick.tail ?b; (case b => walk_at "mq pick")))
local macro_rules | `(tactic| walk_at "call ref") => `(tactic| ((with_reducible show wpAny _ _ (call (Value.ref 21) _) _ _ _); refine hold ?_))
local macro_rules | `(tactic| walk_at "subscriptTail Name Name ref int") => `(tactic| (with_unfolding_all refine item_floatF (by k_asm) (by assumption) (by assumption) (by assumption) ?_ rfl); intros)
local macro_rules | `(tactic| walk_at "call builtin:max") => `(tactic| k_dflt (apply max2_N <;> first | assumption | rfl | intros))
local macro_rules | `(tactic| walk_at "eval Name") => `(tactic| (k_here; (with_reducible show wpAny _ _ (eval (Expr.Name _ _) (envX _ _ _ _ _ _)) _ _ _); k_dflt (refine nameX_L (by k_asm) rfl ?_ rfl rfl (by decide))))
set_option maxRecDepth 100000 in
set_option maxHeartbeats 8000000 in
theorem laid_cons (w : World) (xs : List UInt64) (n : Nat) (SP : LaidSpec w xs n) (hn7 : n + 1 ≤ 8) (hx : xs.length ≤ 8) (p : Program) (loose : List Str) (mean : ExcName → Option Value) (mg mb : Str → Option Value) (ps : Array Value)
    (A : Around) (s : Shared) (pl tl ak : Addr) (its vs fs : List Value) (e : Nat) (n0 : Int) (ns : List Int) (Q E : Value → Shared → Prop) :
    (Mine.hd.heap_39 w.params).In (Hid s.heap (lmuts ak its e ps)) → Top p loose mean mg mb (Hid s.heap (lmuts ak its e ps)) → CodeHd (Hid s.heap (lmuts ak its e ps)) 60 56 → TabOk lpos lqual (Hid s.heap (lmuts ak its e ps)) ps →
    A.handled = none → A.depth + (n + 1) + 8 < recursionLimit → A.units + 3 * (n + 1) + 300 < cLine → s.heap.get? ak = some (listOf its.toArray e) → s.heap.get? 56 = some (tabObj ps) →
    (Hid s.heap (lmuts ak its e ps)).IsList pl vs.toArray → IntsAre vs (n0 :: ns) → ns.length ≤ n → (Hid s.heap (lmuts ak its e ps)).IsList tl fs.toArray → FloatsAre fs xs → its.length + (ns.length + 1) * (ns.length + 1) ≤ 900 → (∀ q ∈ ns, 0 ≤ q ∧ q < (xs.length : Int)) → (0 ≤ n0 ∧ n0 < (xs.length : Int)) →
    (∀ D us e' ps' tups e2 h' tk, (∀ b o, b ≠ ak → b ≠ 56 → s.heap.get? b = some o → h'.get? b = some o) → h'.get? D = some (listOf (List.toArray us) e2) → s.heap.get? D = none → IntsAre us (laidF (moreX xs) (n + 1) (n0 :: ns)).1 →
      h'.get? ak = some (listOf (its ++ refsOfT tups).toArray e') → PairsT tups (laidF (moreX xs) (n + 1) (n0 :: ns)).2 → (∀ q ∈ tups, h'.get? q.1 = some q.2 ∧ s.heap.get? q.1 = none) → h'.get? 56 = some (tabObj ps') → (ps ≠ #[] → ps' = ps) →
      TabOk lpos lqual (Hid h' (lmuts ak (its ++ refsOfT tups) e' ps')) ps' → Q (.ref D) { s with heap := h', toks := tk }) →
    wpAny (model PySem.Challenge.rw_mq0090_01.row.prog w) A (call (.ref 61) [.ref pl, .ref tl, .ref ak]) Q E s := by
  k_fill
  intro X T C ht hh hd' hu' hak h56 hl hI hn htl hfs hits hok hok0 hQ
  obtain ⟨ah, dp, fr, gd, un⟩ := A
  cases (show ah = none from hh)
  have hd : dp < recursionLimit := by have h9 : dp + (n + 1) + 8 < recursionLimit := hd'; omega
  have hu : un + 3 + 64 < cLine := by have h9 : un + 3 * (n + 1) + 300 < cLine := hu'; omega
  have hits1 : its.length ≤ 900 := by have := Nat.zero_le ((ns.length + 1) * (ns.length + 1)); omega
  k_dflt (refine' call_cells (lmuts ak its e ps) ?k0 ?k1 ?k5 ?k6 ?k7 ?k8 ?k9 ?kB ?kN ?_ ?c2 ?c3 ?c4; (case k0 => (intro _ h9; cases h9 with | head => exact hak | tail _ h9 => (cases h9 with | head => exact h56 | tail _ h9 => cases h9))); (case k1 => assumption); (case k5 => assumption); (case k6 => k_is); (case k7 => k_is); (case k8 => assumption); (case k9 => exact BindsTo.of_eq (binds := [(Str.ofString "places", .ref pl), (Str.ofString "told", .ref tl), (Str.ofString "asked", .ref ak)]) rfl); (case kB => (intro n x hx; simp only [List.mem_cons, List.not_mem_nil, or_false] at hx; rcases hx with rfl | rfl | rfl; (· exact .inl rfl); (· exact .inr ⟨rfl, rfl⟩); (· exact .inr ⟨rfl, rfl⟩))); (case kN => decide); (case c2 => exact rfl); (case c3 => exact rfl); (case c4 => exact rfl))
  intro L h₁ tk cells F0 N0 C0 hlt hL
  obtain ⟨o1, o2, o3, rfl, d1, d2, d3⟩ := CellsAre.three C0
  have l1 : @LT.lt Nat _ ak L := hlt _ (.head _)
  have l2 : @LT.lt Nat _ 56 L := hlt _ (.tail _ (.head _))
  have F' : Fr (Hid s.heap (lmuts ak its e ps)) L h₁ (fun y => if y = Str.ofString "places" then some (.ref pl) else none) := F0
  have N' : News (Hid s.heap (lmuts ak its e ps)) L h₁ [(L + 1 + 1 + 1, o1), (L + 1 + 1, o2), (L + 1, o3), (ak, listOf its.toArray e), (56, tabObj ps)] := N0
  have d1' : o1.data = .cell none := d1
  have d2' : o2.data = .cell (some (.ref ak)) := d2
  have d3' : o3.data = .cell (some (.ref tl)) := d3
  clear F0 N0 C0 d1 d2 d3
  have hd4 : dp + 1 + 4 < recursionLimit := by have h9 : dp + (n + 1) + 8 < recursionLimit := hd'; omega
  have hd8 : dp + 1 + n + 8 < recursionLimit := by have h9 : dp + (n + 1) + 8 < recursionLimit := hd'; omega
  have hu4 : un + 3 + 200 < cLine := by have h9 : un + 3 * (n + 1) + 300 < cLine := hu'; omega
  have hu8 : un + 3 + 3 * n + 300 < cLine := by have h9 : un + 3 * (n + 1) + 300 < cLine := hu'; omega
  have hsb : SplitBy ak n0 (moreX xs n0) (fun q => 0 ≤ q ∧ q < xs.length) := trivial
  have hn8 : ns.length ≤ 8 := by omega
  have hok' : ∀ q ∈ ns, (fun q => 0 ≤ q ∧ q < (xs.length : Int)) q := hok
  have hne : @Ne Nat ak 56 := fun e9 => by
    have e8 : ak = 56 := e9
    rw [e8, h56] at hak
    have h9 : Data.fields ps = Data.seq its.toArray e := congrArg Obj.data (Option.some.inj hak)
    cases h9
  have RM : Room its ns n := ⟨hits, hn, hn7⟩
  clear hd' hu' hn hits hn7 hlt hn8
  have hn8 : ns.length ≤ 8 := RM.split.2
  w_strict k_steps
  · rename_i h9 _ _ _ _ _
    simp at h9
  · unfold Hold
    k_dflt (refine' nestDef_K ?d0 ?k0 ?a0 ?_; (case d0 => exact rfl); (case k0 => exact rfl); (case a0 => exact rfl))
    k_dflt (refine' nest_any ?F ?N ?T ?C ?cd ?U ?t ?cl ?_; (case F => k_asm); (case N => k_asm); (case T => k_asm); (case cd => exact rfl); (case C => kn_code); (case U => k_updF); (case t => assumption); (case cl => exact rfl); k_whole)
    intro f9 c9 oc9 vs9 t9 ct9 dc9 h9a tk9 cd9 F5 N5 dd1 dd2 dd3 ll1 ll2 pp9
    (try dsimp only at N5)
    (try dsimp only [List.cons_append, List.nil_append] at N5)
    (try dsimp only [List.map] at ll2)
    (try k_lt ll1)
    w_strict k_steps
    unfold Hold
    k_dflt (refine' split_N (by assumption) ?F ?N ?P ?X ?T ?hh ?hd ?hu ?hl ?hI ?hf ?hn ?hits ?off ?h56 ?_ ?hok ?_; (case F => k_asm); (case N => k_asm); (case P => walk_at "mq pick"); (case X => assumption); (case T => assumption); (case hh => rfl); (case hd => assumption); (case hu => assumption); (case hl => k_mem); (case hI => assumption); (case hf => k_mem); (case hn => assumption); (case hits => assumption); (case off => k_all); (case h56 => k_mem); (case hok => assumption))
    intro d0 Y0 Z0 ys0 zs0 tu0 e0 e10 e20 n0' h0a tk0 F6 N6 hy0 hz0 hp0 ho0 ht0 hu0
    (try dsimp only [List.cons_append, List.nil_append] at N6)
    (try dsimp only [List.map] at ht0)
    w_strict k_steps
    · rename_i l8 h8a ll8 a8 t8 h8b o8 d8 h9b D9 ws9 h9c hI9 hC9 hL9 ll9 h0b h0c h0 F0 N0
      obtain ⟨hoa, hob, hoc, hod, hoe, hof⟩ := ho0
      have N1 : News (Hid s.heap (lmuts ak its e ps)) L h0 ((ak, listOf (its ++ refsOfT tu0).toArray e0) :: (56, tabObj #[rawInt lpos.line, rawInt lpos.col, .ref c9]) :: (Y0, listOf ys0.toArray e10) :: (Z0, listOf zs0.toArray e20) :: (L + 1 + 1 + 1, o8) :: (L + 1 + 1, o2) :: (L + 1, o3) :: (cd9 ++ tu0)) := fun q hq => N0 q (by
        simp only [List.mem_cons, List.mem_append] at hq ⊢
        rcases hq with h | h | h | h | h | h | h | h | h <;> simp only [h, true_or, or_true])
      clear N0
      have hyA : IntsAre ys0 (ns.filter fun q => moreX xs n0 q) := hy0
      have hzA : IntsAre zs0 (ns.filter fun q => !moreX xs n0 q) := hz0
      have hpA : PairsT tu0 (ns.map fun q => (n0, q)) := hp0
      refine laid_N SP F0 N1 .head .head X T C dd1 dd2 (dd3.imp_right fun h => ?m) rfl hd8 hu8 (.head _) hyA RM.fl ?n8 htl hfs (RM.one hpA) ?ok ?off ?off2 hne ?_
      case m => simp only [List.mem_cons, List.mem_append, h, true_or, or_true]
      case n8 => exact Nat.le_of_succ_le RM.n8
      case ok => exact fun q hq => hok q (List.mem_filter.mp hq).1
      case off =>
        intro r hr
        simp only [List.mem_cons, List.mem_append] at hr
        rcases hr with rfl | rfl | rfl | rfl | rfl | hr | hr
        · exact fun e9 => hob e9.symm
        · exact fun e9 => hoc e9.symm
        · exact neN (by omega)
        · exact neN (by omega)
        · exact neN (by omega)
        · exact ll2 r hr ak (by simp)
        · exact ht0 r hr ak (.head _)
      case off2 =>
        intro r hr
        simp only [List.mem_cons, List.mem_append] at hr
        rcases hr with rfl | rfl | rfl | rfl | rfl | hr | hr
        · exact fun e9 => hoe e9.symm
        · exact fun e9 => hof e9.symm
        · exact neN (by omega)
        · exact neN (by omega)
        · exact neN (by omega)
        · exact ll2 r hr 56 (by simp)
        · exact ht0 r hr 56 (by simp)
      intro D1 us1 tu1 e1' ea1 h1 tk1 F1 N1' hu1 hP1 ho1 hf1
      dsimp only [List.cons_append] at N1'
      clear F0 N1
      w_strict k_steps
      rename_i B1 h2 F2 N2 lB1
      refine add_N F2 N2 (.tail _ (.head _)) (.head _) ?z1 ?_
      case z1 =>
        have z9 := hu1.length
        rw [laidF_len _ _ _ RM.fl] at z9
        have z8 := RM.fl (f := fun q => moreX xs n0 q)
        have z7 := RM.n8
        rw [z9]
        show _ + 1 ≤ 1000
        omega
      intro C1 h3 F3 N3 lC1
      have N4 : News (Hid s.heap (lmuts ak its e ps)) L h3 ((ak, listOf (its ++ refsOfT tu0 ++ refsOfT tu1).toArray e1') :: (56, tabObj #[rawInt lpos.line, rawInt lpos.col, .ref c9]) :: (C1, listOf (List.toArray (us1 ++ [Value.int n0 t8])) 0) :: (Z0, listOf zs0.toArray e20) :: (L + 1 + 1 + 1, o8) :: (L + 1 + 1, o2) :: (L + 1, o3) :: ((cd9 ++ tu0) ++ tu1)) := fun q hq => N3 q (by
        simp only [List.mem_cons, List.mem_append] at hq ⊢
        rcases hq with h | h | h | h | h | h | h | (h | h) | h <;> first | exact Or.inl h | simp only [h, true_or, or_true])
      have lCa : @LT.lt Nat _ ak C1 := lC1 (ak, _) (.tail _ (.tail _ (.head _)))
      have lCb : @LT.lt Nat _ 56 C1 := lC1 (56, _) (.tail _ (.tail _ (.tail _ (.head _))))
      clear N3 F2 N2 lC1 lB1
      w_strict k_steps
      refine laid_N SP (by assumption) N4 .head .head X T C dd1 dd2 (dd3.imp_right fun h => ?m) rfl hd8 hu8 (.tail _ (.head _)) hzA RM.fl ?n8 htl hfs (RM.two hpA hP1) ?ok ?off ?off2 hne ?_
      case m => simp only [List.mem_cons, List.mem_append, h, true_or, or_true]
      case n8 => exact Nat.le_of_succ_le RM.n8
      case ok => exact fun q hq => hok q (List.mem_filter.mp hq).1
      case off =>
        intro r hr
        simp only [List.mem_cons, List.mem_append] at hr
        rcases hr with rfl | rfl | rfl | rfl | rfl | (hr | hr) | hr
        · exact neN (by omega)
        · exact fun e9 => hoc e9.symm
        · exact neN (by omega)
        · exact neN (by omega)
        · exact neN (by omega)
        · exact ll2 r hr ak (by simp)
        · exact ht0 r hr ak (.head _)
        · exact hf1 r hr ak (.head _)
      case off2 =>
        intro r hr
        simp only [List.mem_cons, List.mem_append] at hr
        rcases hr with rfl | rfl | rfl | rfl | rfl | (hr | hr) | hr
        · exact neN (by omega)
        · exact fun e9 => hof e9.symm
        · exact neN (by omega)
        · exact neN (by omega)
        · exact neN (by omega)
        · exact ll2 r hr 56 (by simp)
        · exact ht0 r hr 56 (by simp)
        · exact hf1 r hr 56 (by simp)
      intro D2 us2 tu2 e2' ea2 h4 tk4 F4 N4' hu2 hP2 ho2 hf2
      dsimp only [List.cons_append] at N4'
      w_strict k_steps
      refine add_N F4 N4' (.tail _ (.tail _ (.tail _ (.head _)))) (.head _) ?z2 ?_
      case z2 =>
        have z9 := hu1.length
        rw [laidF_len _ _ _ RM.fl] at z9
        have z8 := RM.fl (f := fun q => moreX xs n0 q)
        have z7 := RM.n8
        have y9 := hu2.length
        rw [laidF_len _ _ _ RM.fl] at y9
        have y8 := RM.fl (f := fun q => !moreX xs n0 q)
        rw [y9, List.length_append, z9]
        show _ + 1 + _ ≤ 1000
        omega
      intro G h5 F5 N5 lG
      have lGa : @LT.lt Nat _ ak G := lG (ak, _) (.tail _ (.head _))
      have lGb : @LT.lt Nat _ 56 G := lG (56, _) (.tail _ (.tail _ (.head _)))
      have free : ∀ b, (Hid s.heap (lmuts ak its e ps)).get? b = none → b ≠ ak → b ≠ 56 → s.heap.get? b = none := fun b h0 b1 b2 => by
        cases e9 : s.heap.get? b with
        | none => rfl
        | some o => rw [hideAll_get _ e9 (by simpa using ⟨b1, b2⟩)] at h0; cases h0
      have hG := N5 _ (.head _)
      have ha5 := (N5 _ (.tail _ (.tail _ (.head _)))).1
      have hb5 := (N5 _ (.tail _ (.tail _ (.tail _ (.head _))))).1
      have hin : ∀ q, q ∈ cd9 ∨ q ∈ tu0 ∨ q ∈ tu1 ∨ q ∈ tu2 → h5.get? q.1 = some q.2 ∧ (Hid s.heap (lmuts ak its e ps)).get? q.1 = none := fun q hq => by
        have := N5 q (by
          simp only [List.mem_cons, List.mem_append]
          rcases hq with h | h | h | h <;> simp only [h, true_or, or_true])
        exact ⟨this.1, this.2.2⟩
      refine hQ G _ e2' _ (tu0 ++ (tu1 ++ tu2)) 0 h5 _ (fun b o b1 b2 e9 => F5.keep b o (hideAll_get _ e9 (by simpa using ⟨b1, b2⟩))) hG.1 (free _ hG.2.2 (neN (by omega)) (neN (by omega))) ?_ ?_ ?_ ?_ hb5 pp9 ?_
      · rw [List.append_assoc]
        exact IntsAre.append hu1 (.cons _ _ hu2)
      · rw [show its ++ refsOfT (tu0 ++ (tu1 ++ tu2)) = its ++ refsOfT tu0 ++ refsOfT tu1 ++ refsOfT tu2 by simp [refsOfT]]
        exact ha5
      · exact hpA.append (hP1.append hP2)
      · intro q hq
        simp only [List.mem_append] at hq
        have h9 := hin q (.inr hq)
        refine ⟨h9.1, free _ h9.2 ?_ ?_⟩
        · rcases hq with h | h | h
          · exact ht0 q h ak (.head _)
          · exact hf1 q h ak (.head _)
          · exact hf2 q h ak (.head _)
        · rcases hq with h | h | h
          · exact ht0 q h 56 (by simp)
          · exact hf1 q h 56 (by simp)
          · exact hf2 q h 56 (by simp)
      · refine .inr ⟨c9, oc9, vs9, t9, rfl, ?_, dd1, dd2⟩
        rcases dd3 with h | h
        · exact lmuts_sub F5.keep _ _ h
        · exact hideAll_get _ (hin _ (.inl h)).1 (by simpa using ⟨ll2 _ h ak (by simp), ll2 _ h 56 (by simp)⟩)
    · rename_i l8 h8a ll8 a8 t8 h8b o8 d8 h9b D9 ws9 h9c F9 N9 hI9 hC9 hL9 ll9 g9 hs9 hr9 hk9
      intro A2 s2 its2 e2 q tq Q2 hh2 hd2 hu2 hsub2 hak2 hlen2 hokq hQ2
      obtain ⟨ah2, dp2, fr2, gd2, un2⟩ := A2
      cases (show ah2 = none from hh2)
      have hf2 := hsub2 _ _ (hr9 _ (.tail _ (.head _)))
      have hc3 := hsub2 _ _ (hr9 _ (.tail _ (.tail _ (.tail _ (.head _)))))
      have hc2 := hsub2 _ _ (hr9 _ (.tail _ (.tail _ (.tail _ (.tail _ (.head _))))))
      have hc1 := hsub2 _ _ (hr9 _ (.tail _ (.tail _ (.tail _ (.tail _ (.tail _ (.head _)))))))
      have hcd2 : s2.heap.get? c9 = some oc9 := by
        rcases dd3 with dd3 | dd3
        · exact hsub2 _ _ (hs9 _ _ dd3)
        · exact hsub2 _ _ (hr9 _ (.tail _ (.tail _ (.tail _ (.tail _ (.tail _ (.tail _ (.tail _ dd3))))))))
      have dc3 : o8.data = .cell (some (.int n0 t8)) := d8
      have m9 : ∀ q ∈ [(ak, listOf its2.toArray e2), (L + 1 + 1 + 1, o8), (L + 1 + 1, o2), (L + 1, o3)], (Hid s.heap (lmuts ak its e ps)).get? q.1 = none := by
        intro r hr
        simp only [List.mem_cons, List.not_mem_nil, or_false] at hr
        rcases hr with rfl | rfl | rfl | rfl
        · exact hideAll_none _ (.head _)
        · exact (N9 _ (.tail _ (.tail _ (.tail _ (.head _))))).2.2
        · exact (N9 _ (.tail _ (.tail _ (.tail _ (.tail _ (.head _)))))).2.2
        · exact (N9 _ (.tail _ (.tail _ (.tail _ (.tail _ (.tail _ (.head _))))))).2.2
      have ks2 : Sub (Hid s.heap (lmuts ak its e ps)) (Hid s2.heap [(ak, listOf its2.toArray e2), (L + 1 + 1 + 1, o8), (L + 1 + 1, o2), (L + 1, o3)]) := sub_hid (hs9.trans' hsub2) m9
      have X2 := X.keeps ks2
      have C2 := C.keeps ks2
      have T2 := T.keeps ks2
      have hl2 : (Hid s2.heap [(ak, listOf its2.toArray e2), (L + 1 + 1 + 1, o8), (L + 1 + 1, o2), (L + 1, o3)]).IsList tl fs.toArray := htl.at fun o e9 => ks2 _ o e9
      have hd3 : dp2 < recursionLimit := by have h9 : dp2 + 2 < recursionLimit := hd2; omega
      have hu3 : un2 + 3 + 64 < cLine := by have h9 : un2 + 100 < cLine := hu2; omega
      have wq : Within q xs := ⟨hokq.1, hokq.2, by omega⟩
      have w0 : Within n0 xs := ⟨hok0.1, hok0.2, by omega⟩
      have la : @LT.lt Nat _ ak (L + 1) := Nat.lt_succ_of_lt l1
      refine call_muts (binds := [(Str.ofString "place", .int q tq)]) [(ak, listOf its2.toArray e2), (L + 1 + 1 + 1, o8), (L + 1 + 1, o2), (L + 1, o3)] ?_ T2 hf2 rfl ⟨c9, oc9, vs9, t9, rfl, hcd2, dd1, dd2⟩ hd3 (BindsTo.of_eq rfl) (locs rfl) ?_ rfl rfl rfl (by decide)
      · intro r hr
        simp only [List.mem_cons, List.not_mem_nil, or_false] at hr
        rcases hr with rfl | rfl | rfl | rfl
        · exact hak2
        · exact hc3
        · exact hc2
        · exact hc1
      generalize qualnameIn _ _ _ = qn
      clear hL hk9
      intro L2 h2 F2 N2 lt2 hL2
      have lk2 : @LT.lt Nat _ ak L2 := lt2 _ (.head _)
      have lk3 : @LT.lt Nat _ (L + 1 + 1 + 1) L2 := lt2 _ (.tail _ (.head _))
      clear lt2 hcd2 hf2 ks2 m9 X T hs9 hr9 hsub2 N9 F9 ht hl hQ dd1 dd2 dd3 hak hak2 h56 hd2 hu2 ll2 pp9 SP C hI ll1 ll8 ll9 hI9 hC9 hL9 a8 d8 d1' hd hu hd4 hd8 hu4 hu8 hok' hsb hne hn8 hits1 htl hok hokq hok0 hx
      w_strict k_steps
      rename_i D3 _ ll3 _ _ _ _ _ _ h3 tk3 F3 N3
      have ho3 := (N3 _ (.head _)).1
      have ha3 := (N3 _ (.tail _ (.head _))).1
      simp only [List.push_toArray] at ha3
      refine hQ2 _ _ D3 _ _ h3 tk3 ?_ ?_ ?_ ⟨_, _, _, rfl⟩ ho3 ha3
      · rfl
      · intro b o hb e9
        by_cases b3 : b = L + 1 + 1 + 1
        · subst b3; rw [hc3] at e9; cases e9; exact (N3 _ (.tail _ (.tail _ (.head _)))).1
        by_cases b2 : b = L + 1 + 1
        · subst b2; rw [hc2] at e9; cases e9; exact (N3 _ (.tail _ (.tail _ (.tail _ (.head _))))).1
        by_cases b1 : b = L + 1
        · subst b1; rw [hc1] at e9; cases e9; exact (N3 _ (.tail _ (.tail _ (.tail _ (.tail _ (.head _)))))).1
        exact F3.keep b o (hideAll_get _ e9 (by simpa using ⟨hb, b3, b2, b1⟩))
      · have h0 := (N3 _ (.head _)).2.2
        cases e9 : s2.heap.get? D3 with
        | none => rfl
        | some o => rw [hideAll_get _ e9 (by
            simp only [List.map_cons, List.map_nil, List.mem_cons, List.not_mem_nil, or_false, not_or]
            exact ⟨neN (by omega), neN (by omega), neN (by omega), neN (by omega)⟩)] at h0; cases h0
end Mine
end
namespace Mine
open PySem PySem.W PyProof.Rows in
/-- one step with the library's lines alone -/
theorem clear_mqlaidc {prog : Program} {w : World} {A : Around} {E : Value → Shared → Prop} {Q : Flow → Shared → Prop} {env : Env} {s : Shared} (h : Q .next s) :
    wpAny (model prog w) A (execs [] env) Q E s := by
  w_top off
  walk1
  exact h
end Mine
section
namespace Mine
open PySem PySem.W PyProof.Rows
/-- LaidSpec at the empty list -/
def LaidSpecNil (w : World) (xs : List UInt64) (n : Nat) : Prop :=
  ∀ (p : Program) (loose : List Str) (mean : ExcName → Option Value) (mg mb : Str → Option Value) (A : Around) (s : Shared) (pl tl ak : Addr) (its vs fs : List Value) (e : Nat) (ps : Array Value) (Q E : Value → Shared → Prop),
    (Mine.hd.heap_39 w.params).In (Hid s.heap (lmuts ak its e ps)) → Top p loose mean mg mb (Hid s.heap (lmuts ak its e ps)) → CodeHd (Hid s.heap (lmuts ak its e ps)) 60 56 → TabOk lpos lqual (Hid s.heap (lmuts ak its e ps)) ps →
    A.handled = none → A.depth + n + 8 < recursionLimit → A.units + 3 * n + 300 < cLine → s.heap.get? ak = some (listOf its.toArray e) → s.heap.get? 56 = some (tabObj ps) →
    (Hid s.heap (lmuts ak its e ps)).IsList pl vs.toArray → IntsAre vs [] →
    (∀ D us e' ps' tups e2 h' tk, (∀ b o, b ≠ ak → b ≠ 56 → s.heap.get? b = some o → h'.get? b = some o) → h'.get? D = some (listOf (List.toArray us) e2) → s.heap.get? D = none → IntsAre us (laidF (moreX xs) n []).1 →
      h'.get? ak = some (listOf (its ++ refsOfT tups).toArray e') → PairsT tups (laidF (moreX xs) n []).2 → (∀ q ∈ tups, h'.get? q.1 = some q.2 ∧ s.heap.get? q.1 = none) → h'.get? 56 = some (tabObj ps') → (ps ≠ #[] → ps' = ps) →
      TabOk lpos lqual (Hid h' (lmuts ak (its ++ refsOfT tups) e' ps')) ps' → Q (.ref D) { s with heap := h', toks := tk }) →
    wpAny (model PySem.Challenge.rw_mq0090_01.row.prog w) A (call (.ref 61) [.ref pl, .ref tl, .ref ak]) Q E s
set_option maxRecDepth 100000 in
set_option maxHeartbeats 8000000 in
theorem laid_nil (w : World) (p : Program) (loose : List Str) (mean : ExcName → Option Value) (mg mb : Str → Option Value) (ps : Array Value)
    (A : Around) (s : Shared) (pl tl ak : Addr) (its vs : List Value) (e : Nat) (Q E : Value → Shared → Prop) :
    (Mine.hd.heap_39 w.params).In (Hid s.heap (lmuts ak its e ps)) → Top p loose mean mg mb (Hid s.heap (lmuts ak its e ps)) → CodeHd (Hid s.heap (lmuts ak its e ps)) 60 56 →
    A.handled = none → A.depth < recursionLimit → A.units + 100 < cLine → s.heap.get? ak = some (listOf its.toArray e) → s.heap.get? 56 = some (tabObj ps) →
    (Hid s.heap (lmuts ak its e ps)).IsList pl vs.toArray → IntsAre vs [] →
    (∀ D h' tk, (∀ b o, b ≠ ak → b ≠ 56 → s.heap.get? b = some o → h'.get? b = some o) → h'.get? D = some (listOf #[] 0) → s.heap.get? D = none →
      h'.get? ak = some (listOf its.toArray e) → h'.get? 56 = some (tabObj ps) → Sub (Hid s.heap (lmuts ak its e ps)) h' → Q (.ref D) { s with heap := h', toks := tk }) →
    wpAny (model PySem.Challenge.rw_mq0090_01.row.prog w) A (call (.ref 61) [.ref pl, .ref tl, .ref ak]) Q E s := by
  k_fill
  intro X T C hh hd' hu' hak h56 hl hI hQ
  obtain ⟨ah, dp, fr, gd, un⟩ := A
  cases (show ah = none from hh)
  have hd : dp < recursionLimit := hd'
  have hu : un + 3 + 64 < cLine := by have h9 : un + 100 < cLine := hu'; omega
  k_dflt (refine' call_cells (lmuts ak its e ps) ?k0 ?k1 ?k5 ?k6 ?k7 ?k8 ?k9 ?kB ?kN ?_ ?c2 ?c3 ?c4; (case k0 => (intro _ h9; cases h9 with | head => exact hak | tail _ h9 => (cases h9 with | head => exact h56 | tail _ h9 => cases h9))); (case k1 => assumption); (case k5 => assumption); (case k6 => k_is); (case k7 => k_is); (case k8 => assumption); (case k9 => exact BindsTo.of_eq (binds := [(Str.ofString "places", .ref pl), (Str.ofString "told", .ref tl), (Str.ofString "asked", .ref ak)]) rfl); (case kB => (intro n x hx; simp only [List.mem_cons, List.not_mem_nil, or_false] at hx; rcases hx with rfl | rfl | rfl; (· exact .inl rfl); (· exact .inr ⟨rfl, rfl⟩); (· exact .inr ⟨rfl, rfl⟩))); (case kN => decide); (case c2 => exact rfl); (case c3 => exact rfl); (case c4 => exact rfl))
  intro L h₁ tk cells F0 N0 C0 hlt hL
  obtain ⟨o1, o2, o3, rfl, d1, d2, d3⟩ := CellsAre.three C0
  have l1 : @LT.lt Nat _ ak L := hlt _ (.head _)
  have l2 : @LT.lt Nat _ 56 L := hlt _ (.tail _ (.head _))
  have F' : Fr (Hid s.heap (lmuts ak its e ps)) L h₁ (fun y => if y = Str.ofString "places" then some (.ref pl) else none) := F0
  have N' : News (Hid s.heap (lmuts ak its e ps)) L h₁ [(L + 1 + 1 + 1, o1), (L + 1 + 1, o2), (L + 1, o3), (ak, listOf its.toArray e), (56, tabObj ps)] := N0
  have d1' : o1.data = .cell none := d1
  have d2' : o2.data = .cell (some (.ref ak)) := d2
  have d3' : o3.data = .cell (some (.ref tl)) := d3
  clear F0 N0 C0 d1 d2 d3 hlt
  have hne : @Ne Nat ak 56 := fun e9 => by
    have e8 : ak = 56 := e9
    rw [e8, h56] at hak
    have h9 : Data.fields ps = Data.seq its.toArray e := congrArg Obj.data (Option.some.inj hak)
    cases h9
  w_strict k_steps
  · rename_i D h5 F5 N5 lG
    have lGa : @LT.lt Nat _ ak D := by omega
    have lGb : @LT.lt Nat _ 56 D := by omega
    have h0 := (N5 _ (.head _)).2.2
    refine hQ D h5 _ (fun b o b1 b2 e9 => F5.keep b o (hideAll_get _ e9 (by simpa using ⟨b1, b2⟩))) (N5 _ (.head _)).1 ?_ (N5 (ak, _) (by simp)).1 (N5 (56, _) (by simp)).1 F5.keep
    cases e9 : s.heap.get? D with
    | none => rfl
    | some o => rw [hideAll_get _ e9 (by
        simp only [List.map_cons, List.map_nil, List.mem_cons, List.not_mem_nil, or_false, not_or]
        exact ⟨neN (by omega), neN (by omega)⟩)] at h0; cases h0
theorem laid_call (w : World) (xs : List UInt64) (hx : xs.length ≤ 8) : ∀ n, n ≤ 8 → LaidSpec w xs n := by
  have nil : ∀ n, LaidSpecNil w xs n := fun n p loose mean mg mb A s pl tl ak its vs fs e ps Q E X T C ht hh hd hu hak h56 hl hI hQ => by
    refine laid_nil w p loose mean mg mb ps A s pl tl ak its vs e Q E X T C hh (by omega) (by omega) hak h56 hl hI fun D h' tk hx hD hD0 ha hb hsub => ?_
    refine hQ D [] e ps [] 0 h' tk hx hD hD0 (by cases n <;> exact .nil) (by simpa [refsOfT] using ha) (by cases n <;> exact .nil) (fun q hq => by cases hq) hb (fun _ => rfl) ?_
    exact TabOk.sub ht (lmuts_sub hsub)
  intro n
  induction n with
  | zero =>
    intro _ p loose mean mg mb A s pl tl ak its vs fs e ps ns Q E X T C ht hh hd hu hak h56 hl hI hn hn8 htl hfs hits hok hQ
    cases ns with
    | nil => exact nil 0 p loose mean mg mb A s pl tl ak its vs fs e ps Q E X T C ht hh hd hu hak h56 hl hI hQ
    | cons a r => simp at hn
  | succ n ih =>
    intro hle p loose mean mg mb A s pl tl ak its vs fs e ps ns Q E X T C ht hh hd hu hak h56 hl hI hn hn8 htl hfs hits hok hQ
    cases ns with
    | nil => exact nil (n + 1) p loose mean mg mb A s pl tl ak its vs fs e ps Q E X T C ht hh hd hu hak h56 hl hI hQ
    | cons a r =>
      exact laid_cons w xs n (ih (by omega)) hle hx p loose mean mg mb ps A s pl tl ak its vs fs e a r Q E X T C ht hh hd hu hak h56 hl hI (by simpa using hn) htl hfs (by simpa using hits) (fun q hq => hok q (.tail _ hq)) (hok a (.head _)) hQ
end Mine
end
section
namespace Mine
open PySem PySem.W PyProof.Rows PySem.Calls

/-! Sorting tuples of two ints, by their order. -/
theorem ints_of_get : ∀ {vs : List Value} {ns : List Int}, vs.length = ns.length → (∀ (j : Nat) (v : Value), vs[j]? = some v → ∃ t, v = Value.int (ns.getD j 0) t) → IntsAre vs ns
  | [], [], _, _ => .nil
  | [], _ :: _, h, _ => by simp at h
  | _ :: _, [], h, _ => by simp at h
  | v :: vs, n :: ns, h, hg => by
    obtain ⟨t, rfl⟩ := hg 0 v rfl
    exact .cons n t (ints_of_get (by simpa using h) fun j w hw => by simpa using hg (j + 1) w (by simpa using hw))
theorem ints_getD : ∀ {vs : List Value} {ns : List Int}, IntsAre vs ns → ∀ i, i < ns.length → ∃ t, vs.getD i Value.none = Value.int (ns.getD i 0) t
  | _, _, .cons k t _, 0, _ => ⟨t, rfl⟩
  | _, _, .cons _ _ h, i + 1, hi => by simpa using ints_getD h i (by simpa using hi)
theorem natInts_length (n : Nat) : (natInts n).length = n := by simp [natInts]
theorem natInts_getD {n i : Nat} (h : i < n) : (natInts n).getD i 0 = (i : Int) := by simp [natInts, h]
theorem natInts_mem {n : Nat} {k : Int} : k ∈ natInts n ↔ 0 ≤ k ∧ k < n := by
  simp only [natInts, List.mem_map, List.mem_range]
  constructor
  · rintro ⟨i, hi, rfl⟩; omega
  · rintro ⟨a, b⟩; exact ⟨k.toNat, by omega, by omega⟩
/-- the rank of a pair -/
def rank (p : Int × Int) : Int := p.1 * 100000 + p.2
def Small (p : Int × Int) : Prop := 0 ≤ p.2 ∧ p.2 < 1000
theorem rank_lt {p q : Int × Int} (hp : Small p) (hq : Small q) : rank p < rank q ↔ Lp p q := by
  unfold rank Lp
  obtain ⟨a, b⟩ := hp; obtain ⟨c, d⟩ := hq
  constructor
  · intro h; omega
  · intro h; omega
theorem PairsT.get {l : List (Addr × Obj)} {ps : List (Int × Int)} (h : PairsT l ps) : ∀ i, i < ps.length → ∃ d o, l[i]? = some (d, o) ∧ TupP o (ps.getD i (0, 0)).1 (ps.getD i (0, 0)).2 := by
  induction h with
  | nil => intro i hi; simp at hi
  | cons ht _ ih =>
    intro i hi
    cases i with
    | zero => exact ⟨_, _, rfl, ht⟩
    | succ i => simpa using ih i (by simpa using hi)
section
variable {prog : Program} {w : World} {A : Around} {E : Value → Shared → Prop} {s : Shared} {h₀ : Heap} {L : Addr} {m : Str → Option Value} {news : List (Addr × Obj)}
/-- the comparison of two tuples of two ints -/
theorem lt_pairs {x y : Addr} {ox oy : Obj} {a b i j : Int} {C : Bool → Shared → Prop} (hx : s.heap.get? x = some ox) (dx : TupP ox a i) (hy : s.heap.get? y = some oy) (dy : TupP oy b j)
    (h : C (decide (a < b ∨ (a = b ∧ i < j))) s) : wpAny (model prog w) A (keyLt' (tuples' true) (.ref x) (.ref y)) C (fun _ _ => False) s := by
  obtain ⟨ta, ti, n, rfl⟩ := dx
  obtain ⟨tb, tj, k, rfl⟩ := dy
  refine kat_lt hx rfl hy rfl ?_
  show KatLex prog w A true (decide (2 < 2)) C [(.int a ta, .int b tb), (.int i ti, .int j tj)] 0 s
  refine kat_cons (wpAny_eqBool_int ?_)
  by_cases hab : a = b
  · subst hab
    rw [show (a == a) = true by simp]
    refine kat_yes (kat_cons (wpAny_eqBool_int ?_))
    by_cases hij : i = j
    · subst hij
      rw [show (i == i) = true by simp]
      refine kat_yes (kat_nil ?_)
      simpa using h
    · rw [show (i == j) = false by simpa using hij]
      have h' : C (decide (i < j)) s := by simpa using h
      exact kat_no (kat_one _ _ (PyProof.Rows.lt_int h'))
  · rw [show (a == b) = false by simpa using hab]
    refine kat_no ?_
    show wpAny _ _ (oneLt' true _ _) _ _ _
    refine oneLt_int ?_
    simpa [hab] using h
theorem katTups {h : Heap} : ∀ {l : List (Addr × Obj)} {ps : List (Int × Int)}, PairsT l ps → (∀ q ∈ l, h.get? q.1 = some q.2) → ∃ fs, KatTups h (refsOfT l) fs ∧ fs.length = ps.length ∧ ∀ v ∈ fs, ∃ k t, v = Value.int k t
  | _, _, .nil, _ => ⟨[], KatTups.nil, rfl, fun _ hv => nomatch hv⟩
  | _, _, .cons (d := d) ht t, hm => by
    obtain ⟨fs, h1, h2, h3⟩ := katTups t fun q hq => hm q (.tail _ hq)
    obtain ⟨ta, tb, n, rfl⟩ := ht
    refine ⟨Value.int _ ta :: fs, KatTups.cons (hm _ (.head _)) rfl rfl rfl h1, by simp [h2], fun v hv => ?_⟩
    rcases List.mem_cons.mp hv with rfl | hv
    · exact ⟨_, _, rfl⟩
    · exact h3 v hv
/-- the whole sorting of n tuples (n ≥ 2): what order it finds -/
theorem sort_run {l : List (Addr × Obj)} {ps : List (Int × Int)} {G : Array Nat → Shared → Prop} (hP : PairsT l ps) (hs : ∀ p ∈ ps, Small p) (h2 : 2 ≤ ps.length) (hl : ∀ q ∈ l, s.heap.get? q.1 = some q.2)
    (h : ∀ p, KPerm ps.length p → KSorted (fun i => rank (ps.getD i (0, 0))) p ps.length → G p s) :
    wpAny (model prog w) A (keyKind' (List.toArray (refsOfT l))) (fun κ s' => (kas_sort ps.length).kasWp (kas_ask prog w A κ (refsOfT l)) G s') (fun _ _ => False) s := by
  obtain ⟨fs, hk, hlen, hint⟩ := katTups hP hl
  refine kat_kind (T := Value.type "int") hk (by omega) (fun v hv => ?_) rfl ?_
  · obtain ⟨k, t, rfl⟩ := hint v hv
    exact Looks.now
  · have hb : (Value.type "int" != Value.type "tuple") = true := rfl
    rw [hb]
    refine kq_sort (f := fun i => rank (ps.getD i (0, 0))) (n := ps.length) (I := fun s' => s' = s) (fun i j C s' hi hj hI hC => ?_) (by omega) rfl (fun p s' hp hI hks => by subst hI; exact h p hp hks)
    subst hI
    obtain ⟨d, o, e1, t1⟩ := hP.get i hi
    obtain ⟨d', o', e2, t2⟩ := hP.get j hj
    have r1 : (refsOfT l).getD i Value.none = .ref d := by simp [refsOfT, e1]
    have r2 : (refsOfT l).getD j Value.none = .ref d' := by simp [refsOfT, e2]
    show wpAny (model prog w) A (keyLt' (tuples' true) ((refsOfT l).getD i Value.none) ((refsOfT l).getD j Value.none)) C (fun _ _ => False) s'
    rw [r1, r2]
    refine lt_pairs (hl (d, o) (List.mem_of_getElem? e1)) t1 (hl (d', o') (List.mem_of_getElem? e2)) t2 ?_
    have hm1 : ps.getD i (0, 0) ∈ ps := by rw [List.getD_eq_getElem?_getD, List.getElem?_eq_getElem hi]; exact List.getElem_mem hi
    have hm2 : ps.getD j (0, 0) ∈ ps := by rw [List.getD_eq_getElem?_getD, List.getElem?_eq_getElem hj]; exact List.getElem_mem hj
    have hr := rank_lt (hs _ hm1) (hs _ hm2)
    have := hC s' rfl
    rw [show decide (rank (ps.getD i (0, 0)) < rank (ps.getD j (0, 0))) = decide ((ps.getD i (0, 0)).1 < (ps.getD j (0, 0)).1 ∨ (ps.getD i (0, 0)).1 = (ps.getD j (0, 0)).1 ∧ (ps.getD i (0, 0)).2 < (ps.getD j (0, 0)).2) from decide_eq_decide.mpr hr] at this
    exact this
end
end Mine
end
section
namespace Mine
open PySem PySem.W PyProof.Rows PySem.Calls

theorem perm_map {n : Nat} {p : Array Nat} (hp : KPerm n p) {α : Type} (xs : List α) (d : α) (hn : xs.length = n) : (p.toList.map fun i => xs.getD i d).Perm xs := by
  have h1 : p.toList.Perm (List.range n) := by simpa using Array.perm_iff_toList_perm.mp hp
  have h2 := h1.map fun i => xs.getD i d
  have e : (List.range n).map (fun i => xs.getD i d) = xs := by
    subst hn
    apply List.ext_getElem
    · simp
    · intro i h1 h2
      simp only [List.getElem_map, List.getElem_range]
      rw [List.getD_eq_getElem?_getD, List.getElem?_eq_getElem h2]; rfl
  rw [e] at h2
  exact h2
theorem sorted_pw {n : Nat} {p : Array Nat} {f : Nat → Int} (hp : KPerm n p) (hs : KSorted f p n) : p.toList.Pairwise fun i j => f i ≤ f j := by
  rw [List.pairwise_iff_getElem]
  intro i j hi hj hij
  have hz := hp.size
  have hi' : i < p.size := by simpa using hi
  have hj' : j < p.size := by simpa using hj
  have := hs i j (Nat.le_of_lt hij) (by omega)
  unfold kf at this
  have e1 : p.getD i 0 = p.toList[i] := by simp [Array.getD, hi']
  have e2 : p.getD j 0 = p.toList[j] := by simp [Array.getD, hj']
  rw [e1, e2] at this
  exact this
theorem nodup_perm {n : Nat} {p : Array Nat} (hp : KPerm n p) : p.toList.Nodup := by
  have h1 : p.toList.Perm (List.range n) := by simpa using Array.perm_iff_toList_perm.mp hp
  exact h1.nodup_iff.mpr List.nodup_range
theorem perm_lt {n : Nat} {p : Array Nat} (hp : KPerm n p) {i : Nat} (hi : i ∈ p.toList) : i < n := by
  have h1 : p.toList.Perm (List.range n) := by simpa using Array.perm_iff_toList_perm.mp hp
  simpa using h1.mem_iff.mp hi
theorem rank_inj {p q : Int × Int} (hp : Small p) (hq : Small q) (h : rank p = rank q) : p = q := by
  unfold rank at h
  obtain ⟨a, b⟩ := hp; obtain ⟨c, d⟩ := hq
  exact Prod.ext (by omega) (by omega)
/-- the pairs in the found order rise strictly -/
theorem pairs_rise {n : Nat} {p : Array Nat} {ps : List (Int × Int)} (hp : KPerm n p) (hn : ps.length = n) (hs : KSorted (fun i => rank (ps.getD i (0, 0))) p n) (hd : ps.Nodup) (hsm : ∀ q ∈ ps, Small q) :
    (p.toList.map fun i => ps.getD i (0, 0)).Pairwise Lp := by
  have h1 : (p.toList.map fun i => ps.getD i (0, 0)).Pairwise fun a b => rank a ≤ rank b := by
    rw [List.pairwise_map]; exact sorted_pw hp hs
  have hpm := perm_map hp ps (0, 0) hn
  have h2 : (p.toList.map fun i => ps.getD i (0, 0)).Nodup := hpm.nodup_iff.mpr hd
  have h3 : (p.toList.map fun i => ps.getD i (0, 0)).Pairwise fun a b => rank a ≤ rank b ∧ a ≠ b := h1.and h2
  refine List.Pairwise.imp_of_mem (fun {a b} ha hb h => ?_) h3
  have sa := hsm a (hpm.mem_iff.mp ha)
  have sb := hsm b (hpm.mem_iff.mp hb)
  refine (rank_lt sa sb).mp ?_
  have := h.2
  have h4 : rank a ≠ rank b := fun e => this (rank_inj sa sb e)
  have := h.1
  omega
theorem PairsT.mapD {l : List (Addr × Obj)} {ps : List (Int × Int)} (h : PairsT l ps) : ∀ is : List Nat, (∀ i ∈ is, i < ps.length) → PairsT (is.map fun i => l.getD i (0, default)) (is.map fun i => ps.getD i (0, 0))
  | [], _ => .nil
  | i :: is, hi => by
    obtain ⟨d, o, e, t⟩ := h.get i (hi i (.head _))
    have : l.getD i (0, default) = (d, o) := by rw [List.getD_eq_getElem?_getD, e]; rfl
    simp only [List.map_cons, this]
    exact .cons t (PairsT.mapD h is fun j hj => hi j (.tail _ hj))
section
variable {prog : Program} {w : World} {A : Around} {E : Value → Shared → Prop} {s : Shared} {h₀ : Heap} {L a : Addr} {m : Str → Option Value} {news : List (Addr × Obj)}
theorem zip_snd (vs : List Value) : (vs.toArray.zip vs.toArray).map (·.2) = vs.toArray := by
  apply Array.toList_inj.mp
  rw [Array.toList_map, Array.toList_zip]
  exact List.map_snd_zip (Nat.le_refl _)
theorem arr_few (κ : SortKind) (vs : List Value) : (arrOf (SortSt.mk' κ (vs.toArray.zip vs.toArray) #[] 7 none)).map (·.2) = vs.toArray := zip_snd vs
/-- list.sort of fewer than two items -/
theorem sort_few {vs : List Value} {n : Nat} {P : PySem.Fin → Shared → Prop} (F : Fr h₀ L s.heap m) (N : News h₀ L s.heap news) (ho : s.heap.get? a = some (seqObj "list" vs.toArray n)) (haL : a ≠ L) (ha0 : h₀.get? a = none) (hna : ∀ p ∈ news, p.1 ≠ a)
    (h2 : vs.length < 2) (h : ∀ h' c, Fr h₀ L h' m → News h₀ L h' ((a, seqObj "list" vs.toArray c) :: news) → P (.done (.ret .none)) { s with heap := h' }) :
    wpAny (model prog w) A (Builtin.«list.sort» ⟨[.ref a], []⟩) P E s := by
  have s1 := Heap.SameBut.update s.heap a (Obj.mapSeq fun _ => (#[] : Array Value))
  obtain ⟨e1, ho1⟩ : ∃ e1, (s.heap.update a (Obj.mapSeq fun _ => (#[] : Array Value))).get? a = some (seqObj "list" #[] e1) := ⟨_, get?_update_seq ho fun _ => #[]⟩
  have F3 : Fr h₀ L (((s.heap.update a (Obj.mapSeq fun _ => (#[] : Array Value))).push (seqObj "tuple" vs.toArray 0)).push (seqObj "list" #[] 0)) m := ((kas_fr F s1 haL ha0).push _).push _
  have N2 : News h₀ L (((s.heap.update a (Obj.mapSeq fun _ => (#[] : Array Value))).push (seqObj "tuple" vs.toArray 0)).push (seqObj "list" #[] 0)) news :=
    (kas_news N s1 hna).grown fun b x e => Heap.get?_push_of_some _ (Heap.get?_push_of_some _ e)
  have na : (((s.heap.update a (Obj.mapSeq fun _ => (#[] : Array Value))).push (seqObj "tuple" vs.toArray 0)).push (seqObj "list" #[] 0)).get? a = some (seqObj "list" #[] e1) := Heap.get?_push_of_some _ (Heap.get?_push_of_some _ ho1)
  rw [list_sort_plain]
  refine wpAny_bind (listItems_at ho rfl ?_)
  refine wpAny_bind (listUpdate_at ho rfl ?_ (by rw [List.size_toArray, sizeLine_eq]; omega) (Nat.zero_le _))
  refine wpAny_bind (seqEpoch_at ho1 rfl ?_)
  refine wpAny_bind (wpAny_newTuple ?_ (by show vs.length ≤ _; rw [sizeLine_eq]; omega))
  refine wpAny_bind (wpAny_newList ?_ (Nat.zero_le _))
  refine wpAny_holding ?_
  show wpAny (model prog w) A _ P E { s with heap := ((s.heap.update a (Obj.mapSeq fun _ => (#[] : Array Value))).push (seqObj "tuple" vs.toArray 0)).push (seqObj "list" #[] 0) }
  dsimp only
  have hn2 : vs.toArray.size < 2 := by rw [List.size_toArray]; exact h2
  rw [if_pos hn2, if_pos hn2]
  refine wpAny_bind (wpAny_pure ?_)
  rw [StateT.run_pure]
  refine wpAny_bind (wpAny_pure ?_)
  dsimp only
  have hout : (arrOf (SortSt.mk' general' (vs.toArray.zip vs.toArray) #[] 7 none)).map (·.2) = vs.toArray := by
    exact arr_few _ vs
  rw [hout]
  have s2 := Heap.SameBut.update (((s.heap.update a (Obj.mapSeq fun _ => (#[] : Array Value))).push (seqObj "tuple" vs.toArray 0)).push (seqObj "list" #[] 0)) a (Obj.mapSeq fun _ => vs.toArray)
  obtain ⟨c2, hc2⟩ : ∃ c2, ((((s.heap.update a (Obj.mapSeq fun _ => (#[] : Array Value))).push (seqObj "tuple" vs.toArray 0)).push (seqObj "list" #[] 0)).update a (Obj.mapSeq fun _ => vs.toArray)).get? a = some (seqObj "list" vs.toArray c2) := ⟨_, get?_update_seq na fun _ => vs.toArray⟩
  refine wpAny_bind (seqEpoch_at na rfl ?_)
  refine wpAny_bind (listUpdate_at na rfl ?_ (Nat.zero_le _) (by rw [List.size_toArray, sizeLine_eq]; omega))
  simp only [bne_self_eq_false, Bool.false_eq_true, if_false]
  refine wpAny_pure (h _ c2 (kas_fr F3 s2 haL ha0) fun p hp => ?_)
  rcases List.mem_cons.mp hp with rfl | hp
  · exact ⟨hc2, haL, ha0⟩
  · exact kas_news N2 s2 hna p hp
/-- list.sort of tuples of two ints -/
theorem sort_pairs {l : List (Addr × Obj)} {ps : List (Int × Int)} {n : Nat} {P : PySem.Fin → Shared → Prop} (F : Fr h₀ L s.heap m) (N : News h₀ L s.heap news) (ho : s.heap.get? a = some (seqObj "list" (refsOfT l).toArray n)) (haL : a ≠ L) (ha0 : h₀.get? a = none) (hna : ∀ p ∈ news, p.1 ≠ a)
    (hP : PairsT l ps) (hs : ∀ p ∈ ps, Small p) (hd : ps.Nodup) (h64 : ps.length < 64) (hl : ∀ q ∈ l, q ∈ news)
    (h : ∀ h' l' ps' c, Fr h₀ L h' m → News h₀ L h' ((a, seqObj "list" (refsOfT l').toArray c) :: news) → PairsT l' ps' → (∀ q ∈ l', q ∈ l) → ps'.Perm ps → ps'.Pairwise Lp → P (.done (.ret .none)) { s with heap := h' }) :
    wpAny (model prog w) A (Builtin.«list.sort» ⟨[.ref a], []⟩) P E s := by
  have hlen : (refsOfT l).length = ps.length := by simp [refsOfT, hP.length]
  by_cases h2 : ps.length < 2
  · refine sort_few F N ho haL ha0 hna (by omega) fun h' c F' N' => h h' l ps c F' N' hP (fun _ hq => hq) (.refl _) ?_
    match ps, h2 with
    | [], _ => exact .nil
    | [_], _ => exact List.pairwise_singleton _ _
  · refine kat_list_sort F N ho haL ha0 hna (by omega) (by omega) fun e1 h' F' N' => ?_
    rw [hlen]
    refine sort_run (s := { s with heap := h' }) hP hs (by omega) (fun q hq => (N' q (.tail _ (hl q hq))).1) fun p hp hks => ?_
    refine KasFin.intro F' N' (.head hna) fun h'' c F'' N'' => ?_
    have hin : ∀ i ∈ p.toList, i < ps.length := fun i hi => perm_lt hp hi
    have e : (p.toList.map fun i => (refsOfT l).getD i Value.none) = refsOfT (p.toList.map fun i => l.getD i (0, default)) := by
      simp only [refsOfT, List.map_map]
      refine List.map_congr_left fun i hi => ?_
      have hi' : i < l.length := by rw [hP.length]; exact hin i hi
      simp [hi']
    rw [e] at N''
    refine h h'' _ _ c F'' N'' (hP.mapD _ hin) (fun q hq => ?_) (perm_map hp ps (0, 0) rfl) (pairs_rise hp rfl hks hd hs)
    obtain ⟨i, hi, rfl⟩ := List.mem_map.mp hq
    have hi' : i < l.length := by rw [hP.length]; exact hin i hi
    rw [List.getD_eq_getElem?_getD, List.getElem?_eq_getElem hi']
    exact List.getElem_mem hi'
/-- sorted(asked) -/
theorem sorted_pairs {l : List (Addr × Obj)} {ps : List (Int × Int)} {al : Addr} {e : Nat} {Q : Value → Shared → Prop} (F : Fr h₀ L s.heap m) (N : News h₀ L s.heap news) (hal : (al, listOf (refsOfT l).toArray e) ∈ news)
    (hP : PairsT l ps) (hs : ∀ p ∈ ps, Small p) (hd : ps.Nodup) (h64 : ps.length < 64) (hl : ∀ q ∈ l, q ∈ news)
    (h : ∀ D h' l' ps' c, Fr h₀ L h' m → News h₀ L h' ((D, listOf (refsOfT l').toArray c) :: news) → (∀ q ∈ news, q.1 < D) → PairsT l' ps' → (∀ q ∈ l', q ∈ l) → ps'.Perm ps → ps'.Pairwise Lp → Q (.ref D) { s with heap := h' }) :
    wpAny (model prog w) A (call (.builtin "sorted") [.ref al]) Q E s := by
  have hlen : (refsOfT l).length = ps.length := by simp [refsOfT, hP.length]
  have hli : s.heap.IsList al (refsOfT l).toArray := ⟨_, (N _ hal).1, rfl, _, rfl⟩
  refine Calls.call_function_entry kind_sorted plain_sorted entry_sorted (args_sorted1 _) ?_
  unfold Builtin.«sorted»
  refine wpAny_bind (m := checkCount "sorted" 1 1 _) (wpAny_pure ?_)
  refine wpAny_bind (collect_list hli ?_ (by rw [sizeLine_eq]; omega))
  refine wpAny_bind (wpAny_newList ?_ (by rw [sizeLine_eq]; omega))
  have hsz : ((s.heap.push (seqObj "list" #[] 0)).update s.heap.objs.size (Obj.mapSeq (· ++ (refsOfT l).toArray))).objs.size = s.heap.objs.size + 1 := by
    rw [Heap.size_update, size_push']
  have hoL : (((s.heap.push (seqObj "list" #[] 0)).update s.heap.objs.size (Obj.mapSeq (· ++ (refsOfT l).toArray))).push (seqObj "list" (refsOfT l).toArray 0)).get? (s.heap.objs.size + 1) = some (seqObj "list" (refsOfT l).toArray 0) := by
    rw [← hsz]; exact Heap.get?_push_size _ rfl
  have keep : ∀ b o, s.heap.get? b = some o → (((s.heap.push (seqObj "list" #[] 0)).update s.heap.objs.size (Obj.mapSeq (· ++ (refsOfT l).toArray))).push (seqObj "list" (refsOfT l).toArray 0)).get? b = some o := fun b o q => by
    have hlt : b < s.heap.objs.size := Heap.lt_size q
    rw [Heap.get?_push_ne _ _ _ (by rw [hsz]; exact Nat.ne_of_lt (Nat.lt_succ_of_lt hlt)), Heap.get?_update_ne _ _ _ _ (Nat.ne_of_lt hlt), Heap.get?_push_ne _ _ _ (Nat.ne_of_lt hlt)]
    exact q
  have hL : L < s.heap.objs.size := F.ns.lt
  show wpAny _ _ _ _ _ { s with heap := ((s.heap.push (seqObj "list" #[] 0)).update s.heap.objs.size (Obj.mapSeq (· ++ (refsOfT l).toArray))).push (seqObj "list" (refsOfT l).toArray 0) }
  rw [hsz]
  refine wpAny_bind (wpAny_holding (wpAny_call_entry slot_list_sort ⟨_, hoL, rfl⟩ entry_list_sort ?body (args_list_sort _)))
  case body =>
    refine sort_pairs (s := { s with heap := ((s.heap.push (seqObj "list" #[] 0)).update s.heap.objs.size (Obj.mapSeq (· ++ (refsOfT l).toArray))).push (seqObj "list" (refsOfT l).toArray 0) })
      (F.kept keep) (N.grown keep) hoL (Nat.ne_of_gt (Nat.lt_succ_of_lt hL)) (Heap.get?_none_of_le (Nat.le_trans F.above (Nat.le_succ_of_le (Nat.le_of_lt hL))))
      (fun p hp => Nat.ne_of_lt (Nat.lt_succ_of_lt (Heap.lt_size (N p hp).1))) hP hs hd h64 hl fun h' l' ps' c F' N' k1 k2 k3 k4 => ?_
    exact ⟨_, rfl, wpAny_pure ⟨_, rfl, h _ h' l' ps' c F' N' (fun q hq => Nat.lt_succ_of_lt (Heap.lt_size (N q hq).1)) k1 k2 k3 k4⟩⟩
end
end Mine
end
section
namespace Mine
open PySem PySem.W PyProof.Rows PySem.Calls
section
variable {prog : Program} {w : World} {A : Around} {E : Value → Shared → Prop} {s : Shared} {h₀ : Heap} {L a : Addr} {m : Str → Option Value} {news : List (Addr × Obj)}
/-- collecting a range -/
theorem collect_rng {r : Addr} {n : Nat} {t u v : Tok} {Q : List Value → Shared → Prop} (hh : A.handled = none) (hr : IsRange s.heap r 0 (n : Int) 1 t u v) (hn : n ≤ 1000)
    (h : ∀ h' tk vs, Sub s.heap h' → IntsAre vs (natInts n) → Q vs { s with heap := h', toks := tk }) : wpAny (model prog w) A (collect (.ref r)) Q E s := by
  have hsm : Builtin.Range.small 0 (n : Int) 1 = true := small_one (by omega) (by omega) (by omega) (by omega)
  have hrs : Builtin.Range.rangeSize 0 (n : Int) 1 = (n : Int) := by rw [rangeSize_one]; split <;> omega
  have hS0 : (s.heap.push { cls := .type "list", data := .seq ([] : List Value).toArray }).get? s.heap.objs.size = some { cls := .type "list", data := .seq #[] } := Heap.get?_push_size _ rfl
  have key : ∀ R : Result → Shared → Prop, (∀ h' tk acc' c', (∀ b o, b ≠ s.heap.objs.size → (s.heap.push { cls := .type "list", data := .seq ([] : List Value).toArray }).get? b = some o → h'.get? b = some o) → h'.get? s.heap.objs.size = some { cls := .type "list", dict := none, data := .seq acc' c', slots := #[] } →
      ItemsOf (fun i v => ∃ t, v = .int (0 + i * 1) t) acc' n → R (.ok (.ret (.ref s.heap.objs.size))) { s with heap := h', toks := tk }) →
      codeAny (model prog w) A (.builtin "list.__iadd__" ⟨[.ref s.heap.objs.size, .ref r], []⟩) R { s with heap := s.heap.push { cls := .type "list", data := .seq ([] : List Value).toArray } } := fun R hR => by
    refine codeAny_builtin F.entry_list_iadd ?_
    rw [Around.under_plainId F.plain_list_iadd _]
    exact wpAny_extend_range (R := R) (s := { s with heap := s.heap.push { cls := .type "list", data := .seq ([] : List Value).toArray } }) (A := A) (n := n) hh (Heap.get?_push_of_some _ hr) hsm hrs (by omega) s.heap.objs.size (.ref s.heap.objs.size) 0 hS0 hR
  unfold collect
  refine wpAny_bind (wpAny_runValue (codeAny_builtin F.entry_proto_collect ?_))
  rw [Around.under_plainId F.plain_proto_collect _]
  show wpAny _ A.in1 (newList [] >>= fun l => again (.builtin "list.__iadd__" ⟨[l, .ref r], []⟩)) _ _ s
  refine wpAny_bind (wpAny_newObj_type ?_)
  refine wpAny_pure ⟨plainId_quiet F.plain_list_iadd _, key _ fun h' tk acc' c' hk hS hacc => ?_⟩
  show wpAny _ A (load s.heap.objs.size >>= _) _ _ _
  refine wpAny_bind (wpAny_load hS ?_)
  refine wpAny_pure (h h' tk acc'.toList (fun b o e => hk b o (Nat.ne_of_lt (Heap.lt_size e)) (Heap.get?_push_of_some _ e)) (ints_of_get ?_ fun j v hj => ?_))
  · rw [natInts_length, Array.length_toList, hacc.1]
  · obtain ⟨t, rfl⟩ := hacc.2 j v (by simpa using hj)
    have hj' : j < n := by
      have := (List.getElem?_eq_some_iff.mp hj).1
      rw [Array.length_toList, hacc.1] at this
      exact this
    exact ⟨t, by rw [natInts_getD hj', show (0 : Int) + (j : Int) * 1 = (j : Int) by omega]⟩
/-- what the key does: a new tuple of g k and k -/
def KeyOk (prog : Program) (w : World) (A : Around) (h₀ : Heap) (L : Addr) (m : Str → Option Value) (news : List (Addr × Obj)) (f : Addr) (g : Int → Int) (n : Nat) : Prop :=
  ∀ (s : Shared) (k : Int) (t : Tok) (Q : Value → Shared → Prop), Fr h₀ L s.heap m → News h₀ L s.heap news → 0 ≤ k → k < n →
    (∀ T o h' tk, Sub s.heap h' → s.heap.get? T = none → TupP o (g k) k → h'.get? T = some o → Q (.ref T) { s with heap := h', toks := tk }) →
    wpAny (model prog w) A (call (.ref f) [.int k t]) Q (fun _ _ => False) s
theorem keys_run {kS D f : Addr} {oD : Obj} {g : Int → Int} {n : Nat} {Fin : List Value → Nat → Shared → Prop} (hkey : KeyOk prog w A h₀ L m news f g n) :
    ∀ (r : List Value) (ms : List Int) (tobs : List (Addr × Obj)) (done : List Int) (e : Nat) (s : Shared), IntsAre r ms → (∀ k ∈ ms, 0 ≤ k ∧ k < n) → Fr h₀ L s.heap m →
      News h₀ L s.heap ((kS, seqObj "list" (refsOfT tobs).toArray e) :: (D, oD) :: (tobs ++ news)) → (∀ q ∈ (D, oD) :: (tobs ++ news), q.1 ≠ kS) → (∀ q ∈ tobs, q.1 ≠ D) → PairsT tobs (done.map fun k => (g k, k)) →
      (∀ tobs' e' h' tk, Fr h₀ L h' m → News h₀ L h' ((kS, seqObj "list" (refsOfT tobs').toArray e') :: (D, oD) :: (tobs' ++ news)) → (∀ q ∈ (D, oD) :: (tobs' ++ news), q.1 ≠ kS) → (∀ q ∈ tobs', q.1 ≠ D) →
        PairsT tobs' ((done ++ ms).map fun k => (g k, k)) → Fin (refsOfT tobs') e' { s with heap := h', toks := tk }) →
      KatKeys prog w A h₀ L m kS (.ref f) Fin r (refsOfT tobs) e s
  | _, _, tobs, done, e, s, .nil, _, F, N, ok, oD', hP, hF => by
    have := hF tobs e s.heap s.toks F N ok oD' (by simpa using hP)
    exact KatKeys.nil this
  | _, _, tobs, done, e, s, .cons (vs := r) (ns := ms) k t hI, hms, F, N, ok, oD', hP, hF => by
    have hk := hms k (.head _)
    refine KatKeys.cons (hkey s k t _ F (fun q hq => N q (.tail _ (.tail _ (List.mem_append_right _ hq)))) hk.1 hk.2 fun T o h' tk hs hT0 ho hT => ?_)
    have F' := fr_sub F hs
    obtain ⟨TL, Tb, Tn⟩ := fresh_off F N hT0
    have N' : News h₀ L h' ((kS, seqObj "list" (refsOfT tobs).toArray e) :: (T, o) :: (D, oD) :: (tobs ++ news)) := fun q hq => by
      rcases List.mem_cons.mp hq with rfl | hq
      · exact news_sub N hs _ (.head _)
      · rcases List.mem_cons.mp hq with rfl | hq
        · exact ⟨hT, TL, Tb⟩
        · exact news_sub N hs _ (.tail _ hq)
    have hTk : T ≠ kS := fun e9 => Tn _ (.head _) e9.symm
    refine KatBack.intro F' N' (.head fun q hq => ?_) fun h'' c F'' N'' => ?_
    · rcases List.mem_cons.mp hq with rfl | hq
      · exact hTk
      · exact ok q hq
    · have er : refsOfT tobs ++ [Value.ref T] = refsOfT (tobs ++ [(T, o)]) := by simp [refsOfT]
      rw [er] at N'' ⊢
      refine keys_run (D := D) (oD := oD) hkey r ms (tobs ++ [(T, o)]) (done ++ [k]) c _ hI (fun k' hk' => hms k' (.tail _ hk')) F'' (fun q hq => N'' q ?_) (fun q hq => ?_) (fun q hq => ?_) ?_ fun tobs' e' h3 tk3 F3 N3 o3 d3 p3 => ?_
      · simp only [List.mem_cons, List.mem_append, List.not_mem_nil, or_false] at hq ⊢
        rcases hq with h | h | (h | h) | h <;> simp only [h, true_or, or_true]
      · simp only [List.mem_cons, List.mem_append, List.not_mem_nil, or_false] at hq
        rcases hq with h | (h | h) | h
        · exact ok q (by simp only [List.mem_cons, List.mem_append, h, true_or])
        · exact ok q (by simp only [List.mem_cons, List.mem_append, h, true_or, or_true])
        · rw [h]; exact hTk
        · exact ok q (by simp only [List.mem_cons, List.mem_append, h, or_true])
      · rcases List.mem_append.mp hq with h | h
        · exact oD' q h
        · rw [List.mem_singleton.mp h]
          exact fun e9 => Tn _ (.tail _ (.head _)) e9.symm
      · rw [List.map_append]
        exact hP.snoc ho
      · have := hF tobs' e' h3 tk3 F3 N3 o3 d3 (by simpa using p3)
        exact this
/-- list.sort by a key that gives tuples of g k and k; two items and more -/
theorem sort_keyed {n0 n : Nat} {f : Addr} {g : Int → Int} {vs : List Value} {P : PySem.Fin → Shared → Prop} (hkey : KeyOk prog w A h₀ L m news f g n) (F : Fr h₀ L s.heap m) (N : News h₀ L s.heap news) (ho : s.heap.get? a = some (seqObj "list" vs.toArray n0)) (haL : a ≠ L) (ha0 : h₀.get? a = none) (hna : ∀ p ∈ news, p.1 ≠ a)
    (hI : IntsAre vs (natInts n)) (h2 : 2 ≤ n) (h64 : n < 64)
    (h : ∀ h' tk out ks c, Fr h₀ L h' m → News h₀ L h' ((a, seqObj "list" (List.toArray out) c) :: news) → IntsAre out ks → ks.Perm (natInts n) → ks.Pairwise (Lx g) → P (.done (.ret .none)) { s with heap := h', toks := tk }) :
    wpAny (model prog w) A (ksk_tree a (.ref f) false) P E s := by
  have hlen : vs.length = n := by rw [hI.length, natInts_length]
  refine kat_keyed F N ho haL ha0 hna (by omega) (by omega) fun kS e1 h' F' N' l0 l1 => ?_
  refine keys_run (D := a) hkey vs (natInts n) [] [] 0 _ hI (fun k hk => natInts_mem.mp hk) F' N' (fun q hq => ?_) (fun _ hq => (nomatch hq)) .nil fun tobs e' h3 tk3 F3 N3 o3 d3 p3 => ?_
  · rcases List.mem_cons.mp hq with rfl | hq
    · exact Nat.ne_of_lt l0
    · exact Nat.ne_of_lt (l1 q (by simpa using hq))
  · simp only [List.nil_append] at p3
    have hps : ((natInts n).map fun k => (g k, k)).length = n := by simp [natInts_length]
    have hsm : ∀ q ∈ (natInts n).map fun k => (g k, k), Small q := fun q hq => by
      obtain ⟨k, hk, rfl⟩ := List.mem_map.mp hq
      have := natInts_mem.mp hk
      exact ⟨this.1, by show k < 1000; omega⟩
    have hnd : (natInts n).Nodup := by
      unfold natInts
      exact List.Pairwise.map _ (fun a b h => by omega) List.nodup_range
    have hnd2 : ((natInts n).map fun k => (g k, k)).Nodup := List.Pairwise.map _ (fun a b h e => h (Prod.mk.inj e).2) hnd
    have hrun := sort_run (prog := prog) (w := w) (A := A) (s := { s with heap := h3, toks := tk3 }) (G := fun p s3 => KatFin h₀ L m kS a (refsOfT tobs) e' e1 (p.toList.map fun i => vs.getD i Value.none) (fun s4 => P (.done (.ret .none)) s4) s3) p3 hsm (by omega) (fun q hq => (N3 q (.tail _ (.tail _ (List.mem_append_left _ hq)))).1) (fun p hp hks => ?_)
    · rw [hps] at hrun
      rw [hlen]
      exact hrun
    · rw [hps] at hp hks
      refine KatFin.intro F3 N3 (.head o3) fun h4 c4 F4 N4 => KasFin.intro F4 N4 (.tail (o3 _ (.head _)).symm (.head fun q hq => ?_)) fun h5 c5 F5 N5 => ?_
      · rcases List.mem_append.mp hq with hq | hq
        · exact d3 q hq
        · exact hna q hq
      · have hin : ∀ i ∈ p.toList, i < n := fun i hi => perm_lt hp hi
        have N6 : News h₀ L h5 ((a, seqObj "list" (List.toArray (p.toList.map fun i => vs.getD i Value.none)) c5) :: news) := fun q hq => by
          rcases List.mem_cons.mp hq with rfl | hq
          · exact N5 _ (.tail _ (.head _))
          · exact N5 _ (.tail _ (.tail _ (List.mem_append_right _ hq)))
        refine h h5 tk3 _ (p.toList.map fun i => (natInts n).getD i 0) c5 F5 N6 ?_ (perm_map hp _ _ (natInts_length n)) ?_
        · refine ints_map hI (fun i hi => by rw [natInts_length]; exact hin i hi)
        · have hr := pairs_rise hp hps hks hnd2 hsm
          rw [List.pairwise_map] at hr ⊢
          refine List.Pairwise.imp_of_mem (fun {i j} hi hj hlt => ?_) hr
          have ei : ((natInts n).map fun k => (g k, k)).getD i (0, 0) = (g (i : Int), (i : Int)) := by simp [natInts, hin i hi]
          have ej : ((natInts n).map fun k => (g k, k)).getD j (0, 0) = (g (j : Int), (j : Int)) := by simp [natInts, hin j hj]
          rw [ei, ej] at hlt
          rw [natInts_getD (hin i hi), natInts_getD (hin j hj)]
          exact hlt
where
  ints_map {vs : List Value} {ns : List Int} (hI : IntsAre vs ns) {is : List Nat} (hi : ∀ i ∈ is, i < ns.length) : IntsAre (is.map fun i => vs.getD i Value.none) (is.map fun i => ns.getD i 0) := by
    induction is with
    | nil => exact .nil
    | cons i is ih =>
      obtain ⟨t, e⟩ := ints_getD hI i (hi i (.head _))
      simp only [List.map_cons, e]
      exact .cons _ _ (ih fun j hj => hi j (.tail _ hj))
end
end Mine
end
section
namespace Mine
open PySem PySem.W PyProof.Rows PySem.Calls
section
variable {prog : Program} {w : World} {A : Around} {E : Value → Shared → Prop} {s : Shared} {h₀ : Heap} {L a : Addr} {m : Str → Option Value} {news : List (Addr × Obj)}
theorem arr_one (κ : SortKind) (k v : Value) : (arrOf (SortSt.mk' κ (#[k].zip #[v]) #[] 7 none)).map (·.2) = #[v] := by
  show (#[k].zip #[v]).map (·.2) = #[v]
  apply Array.toList_inj.mp
  rw [Array.toList_map, Array.toList_zip]
  rfl
/-- list.sort of one item by a key -/
theorem sort_keyed1 {n0 : Nat} {f : Addr} {g : Int → Int} {t : Tok} {P : PySem.Fin → Shared → Prop} (hkey : KeyOk prog w A h₀ L m news f g 1) (F : Fr h₀ L s.heap m) (N : News h₀ L s.heap news) (ho : s.heap.get? a = some (seqObj "list" #[Value.int 0 t] n0)) (haL : a ≠ L) (ha0 : h₀.get? a = none) (hna : ∀ p ∈ news, p.1 ≠ a)
    (h : ∀ h' tk c, Fr h₀ L h' m → News h₀ L h' ((a, seqObj "list" #[Value.int 0 t] c) :: news) → P (.done (.ret .none)) { s with heap := h', toks := tk }) :
    wpAny (model prog w) A (ksk_tree a (.ref f) false) P E s := by
  have ha : a < s.heap.objs.size := Heap.lt_size ho
  have s1 := Heap.SameBut.update s.heap a (Obj.mapSeq fun _ => (#[] : Array Value))
  obtain ⟨e1, ho1⟩ : ∃ e1, (s.heap.update a (Obj.mapSeq fun _ => (#[] : Array Value))).get? a = some (seqObj "list" #[] e1) := ⟨_, get?_update_seq ho fun _ => #[]⟩
  have F1 := kas_fr F s1 haL ha0
  have N1 := kas_news N s1 hna
  have hz1 : (s.heap.update a (Obj.mapSeq fun _ => (#[] : Array Value))).objs.size = s.heap.objs.size := Heap.size_update ..
  have hkS : ((s.heap.update a (Obj.mapSeq fun _ => (#[] : Array Value))).push (seqObj "tuple" #[Value.int 0 t] 0)).objs.size = s.heap.objs.size + 1 := by rw [size_push', hz1]
  have ns1 : ∀ b, b < s.heap.objs.size → b ≠ s.heap.objs.size + 1 := fun b hb => Nat.ne_of_lt (Nat.lt_succ_of_lt hb)
  generalize hH : ((s.heap.update a (Obj.mapSeq fun _ => (#[] : Array Value))).push (seqObj "tuple" #[Value.int 0 t] 0)).push (seqObj "list" #[] 0) = H
  have F2 : Fr h₀ L H m := by rw [← hH]; exact (F1.push _).push _
  have nk : H.get? (s.heap.objs.size + 1) = some (seqObj "list" #[] 0) := by rw [← hH, ← hkS]; exact Heap.get?_push_size _ rfl
  have na : H.get? a = some (seqObj "list" #[] e1) := by rw [← hH]; exact Heap.get?_push_of_some _ (Heap.get?_push_of_some _ ho1)
  have N2 : News h₀ L H news := fun q hq => ⟨by rw [← hH]; exact Heap.get?_push_of_some _ (Heap.get?_push_of_some _ (N1 q hq).1), (N1 q hq).2⟩
  unfold ksk_tree
  refine wpAny_bind (listItems_at ho rfl ?_)
  refine wpAny_bind (listUpdate_at ho rfl ?_ (by rw [sizeLine_eq]; exact Nat.le_of_ble_eq_true rfl) (Nat.zero_le _))
  refine wpAny_bind (seqEpoch_at ho1 rfl ?_)
  refine wpAny_bind (wpAny_newTuple ?_ (by show 1 ≤ _; rw [sizeLine_eq]; omega))
  refine wpAny_bind (wpAny_newList ?_ (Nat.zero_le _))
  refine wpAny_holding ?_
  show wpAny (model prog w) A (ksk_rest a (.ref f) false #[Value.int 0 t] e1 (.ref ((s.heap.update a (Obj.mapSeq fun _ => (#[] : Array Value))).push (seqObj "tuple" #[Value.int 0 t] 0)).objs.size)) P E
    { s with heap := ((s.heap.update a (Obj.mapSeq fun _ => (#[] : Array Value))).push (seqObj "tuple" #[Value.int 0 t] 0)).push (seqObj "list" #[] 0) }
  rw [hkS, hH]
  unfold ksk_rest
  refine wpAny_bind (wpAny_rule ?_)
  rw [show (#[Value.int 0 t] : Array Value) = List.toArray [Value.int 0 t] from rfl, List.forIn_toArray, List.forIn_cons]
  refine wpAny_bind (wpAny_bind (wpAny_bind (wpAny_attempt ?_)))
  refine wpAny_mono (hkey _ 0 t (fun v s' => ∃ T o h' tk, v = .ref T ∧ s' = { s with heap := h', toks := tk } ∧ Sub H h') F2 N2 (by omega) (by decide) fun T o h' tk hs hT0 ho' hT => ⟨T, o, h', tk, rfl, rfl, hs⟩) (fun v s' hv => ?_) fun _ _ x => x.elim
  obtain ⟨T, o, h', tk, rfl, rfl, hs⟩ := hv
  dsimp only
  have nk' := hs _ _ nk
  have s2 := Heap.SameBut.update h' (s.heap.objs.size + 1) (Obj.mapSeq (·.push (Value.ref T)))
  have k0 : h₀.get? (s.heap.objs.size + 1) = none := Heap.get?_none_of_le (Nat.le_trans F.above (Nat.le_succ_of_le (Nat.le_of_lt F.ns.lt)))
  have kL : s.heap.objs.size + 1 ≠ L := fun e9 => by
    have h9 : s.heap.objs.size + 1 < s.heap.objs.size := e9 ▸ F.ns.lt
    omega
  obtain ⟨c2, hc2⟩ : ∃ c2, (h'.update (s.heap.objs.size + 1) (Obj.mapSeq (·.push (Value.ref T)))).get? (s.heap.objs.size + 1) = some (seqObj "list" #[Value.ref T] c2) := ⟨_, get?_update_seq nk' (·.push (Value.ref T))⟩
  have F3 := kas_fr (fr_sub F2 hs) s2 kL k0
  have N3 : News h₀ L (h'.update (s.heap.objs.size + 1) (Obj.mapSeq (·.push (Value.ref T)))) news := kas_news (news_sub N2 hs) s2 fun q hq => ns1 _ (Heap.lt_size (N q hq).1)
  have na3 : (h'.update (s.heap.objs.size + 1) (Obj.mapSeq (·.push (Value.ref T)))).get? a = some (seqObj "list" #[] e1) := (s2.2 a (ns1 a ha)).trans (hs _ _ na)
  refine wpAny_bind (listUpdate_at nk' rfl ?_ (Nat.zero_le _) (by rw [sizeLine_eq]; exact Nat.le_of_ble_eq_true rfl))
  refine wpAny_pure ?_
  dsimp only
  rw [List.forIn_nil]
  refine wpAny_pure ?_
  refine wpAny_bind (listItems_at hc2 rfl ?_)
  unfold ksk_end
  dsimp only
  have h12 : (#[Value.int 0 t] : Array Value).size < 2 := Nat.le_refl _
  rw [if_neg (by simp), if_pos h12, if_pos h12]
  refine wpAny_bind (wpAny_pure ?_)
  rw [StateT.run_pure]
  refine wpAny_bind (wpAny_pure ?_)
  dsimp only
  unfold ksk_tail
  dsimp only
  generalize h'.update (s.heap.objs.size + 1) (Obj.mapSeq (·.push (Value.ref T))) = H3 at F3 N3 na3 hc2 ⊢
  have s4 := Heap.SameBut.update H3 (s.heap.objs.size + 1) (Obj.mapSeq fun _ => (#[] : Array Value))
  have na4 : (H3.update (s.heap.objs.size + 1) (Obj.mapSeq fun _ => (#[] : Array Value))).get? a = some (seqObj "list" #[] e1) := (s4.2 a (ns1 a ha)).trans na3
  have F4 := kas_fr F3 s4 kL k0
  have N4 := kas_news N3 s4 fun q hq => ns1 _ (Heap.lt_size (N q hq).1)
  refine wpAny_bind (listUpdate_at hc2 rfl ?_ (by rw [sizeLine_eq]; exact Nat.le_of_ble_eq_true rfl) (Nat.zero_le _))
  refine wpAny_bind (wpAny_letGo ?_)
  refine wpAny_bind (seqEpoch_at na4 rfl ?_)
  simp only [Bool.false_eq_true, if_false]
  rw [arr_one]
  have s5 := Heap.SameBut.update (H3.update (s.heap.objs.size + 1) (Obj.mapSeq fun _ => (#[] : Array Value))) a (Obj.mapSeq fun _ => (#[Value.int 0 t] : Array Value))
  obtain ⟨c5, hc5⟩ : ∃ c5, ((H3.update (s.heap.objs.size + 1) (Obj.mapSeq fun _ => (#[] : Array Value))).update a (Obj.mapSeq fun _ => (#[Value.int 0 t] : Array Value))).get? a = some (seqObj "list" #[Value.int 0 t] c5) := ⟨_, get?_update_seq na4 fun _ => #[Value.int 0 t]⟩
  refine wpAny_bind (listUpdate_at na4 rfl ?_ (Nat.zero_le _) (by rw [sizeLine_eq]; exact Nat.le_of_ble_eq_true rfl))
  simp only [bne_self_eq_false, Bool.false_eq_true, if_false]
  refine wpAny_pure (h _ _ c5 (kas_fr F4 s5 haL ha0) fun q hq => ?_)
  rcases List.mem_cons.mp hq with rfl | hq
  · exact ⟨hc5, haL, ha0⟩
  · exact kas_news N4 s5 hna q hq
/-- sorted(range(n), key=f) -/
theorem sorted_keyed {r f : Addr} {g : Int → Int} {n : Nat} {t u v : Tok} {Q : Value → Shared → Prop} (hh : A.handled = none) (hkey : KeyOk prog w A.in1.in1 h₀ L m news f g n) (F : Fr h₀ L s.heap m) (N : News h₀ L s.heap news)
    (hr : IsRange s.heap r 0 (n : Int) 1 t u v) (h1 : 1 ≤ n) (h64 : n < 64)
    (h : ∀ D h' tk out ks c, Fr h₀ L h' m → News h₀ L h' ((D, listOf (List.toArray out) c) :: news) → (∀ q ∈ news, q.1 < D) → IntsAre out ks → ks.Perm (natInts n) → ks.Pairwise (Lx g) → Q (.ref D) { s with heap := h', toks := tk }) :
    wpAny (model prog w) A (call (.builtin "sorted") [.ref r] [(Str.ofString "key", .ref f)]) Q E s := by
  refine call_function_entry_kw kind_sorted plain_sorted entry_sorted (ksk_s1 _ _) ?_
  unfold Builtin.«sorted»
  refine wpAny_bind (m := checkCount "sorted" 1 1 _) (wpAny_pure ?_)
  refine wpAny_bind (collect_rng hh hr (by omega) fun h1' tk1 vs k1 hI => ?_)
  have hlen : vs.length = n := by rw [hI.length, natInts_length]
  refine wpAny_bind (wpAny_newList ?_ (by rw [sizeLine_eq]; omega))
  have F1 := fr_sub F k1
  have N1 := news_sub N k1
  have hL : L < h1'.objs.size := F1.ns.lt
  have hoL : (h1'.push (seqObj "list" vs.toArray 0)).get? h1'.objs.size = some (seqObj "list" vs.toArray 0) := Heap.get?_push_size _ rfl
  have hDL : h1'.objs.size ≠ L := Nat.ne_of_gt hL
  have hD0 : h₀.get? h1'.objs.size = none := Heap.get?_none_of_le (Nat.le_trans F1.above (Nat.le_of_lt hL))
  have hDn : ∀ p ∈ news, p.1 ≠ h1'.objs.size := fun p hp => Nat.ne_of_lt (Heap.lt_size (N1 p hp).1)
  refine wpAny_bind (wpAny_holding (wpAny_call_entry_kw slot_list_sort ⟨_, hoL, rfl⟩ entry_list_sort ?body (ksk_l1 _ _)))
  case body =>
    rw [ksk_t1]
    by_cases hn : n < 2
    · have hn1 : n = 1 := by omega
      subst hn1
      obtain ⟨t0, rfl⟩ : ∃ t0, vs = [Value.int 0 t0] := by
        cases hI with
        | cons k t0 hI' => cases hI'; exact ⟨t0, rfl⟩
      refine sort_keyed1 (s := { s with heap := h1'.push (seqObj "list" [Value.int 0 t0].toArray 0), toks := tk1 }) (t := t0) hkey (F1.push _) (N1.grown fun b o e => Heap.get?_push_of_some _ e) hoL hDL hD0 hDn fun h' tk c F' N' => ?_
      exact ⟨_, rfl, wpAny_pure ⟨_, rfl, h _ h' tk [Value.int 0 t0] [0] c F' N' (fun q hq => Heap.lt_size (N1 q hq).1) (.cons 0 t0 .nil) (.refl _) (List.pairwise_singleton _ _)⟩⟩
    · refine sort_keyed (s := { s with heap := h1'.push (seqObj "list" vs.toArray 0), toks := tk1 }) hkey (F1.push _) (N1.grown fun b o e => Heap.get?_push_of_some _ e) hoL hDL hD0 hDn hI (by omega) h64 fun h' tk out ks c F' N' a1 a2 a3 => ?_
      exact ⟨_, rfl, wpAny_pure ⟨_, rfl, h _ h' tk out ks c F' N' (fun q hq => Heap.lt_size (N1 q hq).1) a1 a2 a3⟩⟩
end
end Mine
end
section
namespace Mine
open PySem PySem.W PyProof.Rows PySem.Calls

/-! A comprehension with two generators over ranges, the second with one test. -/
abbrev E2 (elt : Expr) (x y : Str) (px py : Pos) (it0 it1 c : Expr) (scope : Scope) (pos : Pos) : Expr := .ListComp elt [⟨.Name x px, it0, [], 0⟩, ⟨.Name y py, it1, [c], 0⟩] scope pos
theorem turn_inner (elt : Expr) (x y : Str) (px py : Pos) (it0 it1 c : Expr) (scope : Scope) (pos : Pos) (it acc : Value) (env : Env) : compTurn (E2 elt x y px py it0 it1 c scope pos) 1 it acc env = (do
    standAt it1.pos
    match ← pyNext it with
    | none => pure (.done .next)
    | some v =>
      letOwnedTupleGo (.Name y py) it v
      assign (.Name y py) env v
      let mut ok := true
      for c in [c] do
        if ok then ok ← isTrue c env (eval c env)
      if ok then
        (do let _ ← call (.builtin "list.append") [acc, ← eval elt env])
      again (.compLoop (E2 elt x y px py it0 it1 c scope pos) 1 it acc env)) := by rfl
theorem turn_outer (elt : Expr) (x y : Str) (px py : Pos) (it0 it1 c : Expr) (scope : Scope) (pos : Pos) (it acc : Value) (env : Env) : compTurn (E2 elt x y px py it0 it1 c scope pos) 0 it acc env = (do
    standAt it0.pos
    match ← pyNext it with
    | none => pure (.done .next)
    | some v =>
      letOwnedTupleGo (.Name x px) it v
      assign (.Name x px) env v
      let mut ok := true
      for c in ([] : List Expr) do
        if ok then ok ← isTrue c env (eval c env)
      if ok then
        let xv ← eval it1 env
        standAt it1.pos
        let xv ← foldedSetIterable it1 env xv
        let _ ← runOwn (.compStart (E2 elt x y px py it0 it1 c scope pos) 1 (← holding [xv] (pyIter xv)) acc env) env
      again (.compLoop (E2 elt x y px py it0 it1 c scope pos) 0 it acc env)) := by rfl
section
variable {prog : Program} {w : World} {A : Around} {R : Result → Shared → Prop} {s : Shared} {elt : Expr} {x y : Str} {px py : Pos} {it0 it1 c : Expr} {scope : Scope} {pos : Pos} {it acc : Value} {env : Env}
theorem inner_loop (I : Nat → Shared → Prop)
    (turn : ∀ n s, I n s → wpAny (model prog w) A (pyNext it) (fun r s₁ => match r with
      | none => R (.ok .next) s₁
      | some v => wpAny (model prog w) A (assign (.Name y py) env v) (fun _ s₂ => wpAny (model prog w) A (isTrue c env (eval c env)) (fun ok s₃ =>
          if ok = true then wpAny (model prog w) A (eval elt env) (fun z s₄ => wpAny (model prog w) A (call (.builtin "list.append") [acc, z]) (fun _ s₅ => ∃ m, m < n ∧ I m s₅) (fun _ _ => False) s₄) (fun _ _ => False) s₃
          else ∃ m, m < n ∧ I m s₃) (fun _ _ => False) s₂) (fun _ _ => False) s₁) (fun _ _ => False) s)
    (n : Nat) (h : I n s) (ht : ∀ v, letOwnedTupleGo (.Name y py) it v = pure () := by intro _; rfl) :
    codeAny (model prog w) A (.compLoop (E2 elt x y px py it0 it1 c scope pos) 1 it acc env) R s := by
  refine codeAny_loop rfl I (fun n s hI => ?_) n h
  show wpAny _ A ((compTurn (E2 elt x y px py it0 it1 c scope pos) 1 it acc env).onRaise (fun x => do noteFrame x env; theTreesLotGoes x)) _ _ s
  refine wpAny_noted (wpAny_noRaise ?_)
  rw [turn_inner]
  refine wpAny_bind (wpAny_standAt (wpAny_bind (wpAny_mono (turn n s hI) (fun r s₁ h₁ => ?_) fun _ _ h' => h')))
  cases r with
  | none => exact wpAny_pure h₁
  | some v =>
    refine wpAny_bind (wpAny_of_eq (ht v) ?_)
    refine wpAny_bind (wpAny_mono h₁ (fun _ s₂ h₂ => wpAny_bind (wpAny_tests_one (wpAny_mono h₂ (fun ok s₃ h₃ => ?_) fun _ _ h' => h'))) fun _ _ h' => h')
    cases ok with
    | false => exact wpAny_pure ⟨rfl, h₃⟩
    | true =>
      exact wpAny_bind (wpAny_bind (wpAny_mono h₃ (fun x s₄ h₄ => wpAny_bind (wpAny_mono h₄ (fun _ s₅ h₅ => wpAny_pure (wpAny_pure ⟨rfl, h₅⟩)) fun _ _ h' => h')) fun _ _ h' => h'))
theorem inner_start (h0 : codeAny (model prog w) A (.compLoop (E2 elt x y px py it0 it1 c scope pos) 1 it acc env) R s)
    (h : wpAny (model prog w) A (pyIter it) (fun it' s' => codeAny (model prog w) A (.compLoop (E2 elt x y px py it0 it1 c scope pos) 1 it' acc env) R s') (fun _ _ => False) s) :
    codeAny (model prog w) A (.compStart (E2 elt x y px py it0 it1 c scope pos) 1 it acc env) R s := by
  refine codeAny_of_tree ?_
  show wpAny _ _ ((compStart (E2 elt x y px py it0 it1 c scope pos) 1 it acc env).onRaise (fun x => do noteFrame x env; standAt theWindowsPlace)) _ _ s
  refine wpAny_notedAt (wpAny_noRaise ?_)
  unfold compStart
  show wpAny _ _ (ask >>= _) _ _ s
  refine wpAny_bind (wpAny_askSetting (wpAny_ite ?_))
  split
  · first
      | exact wpAny_bind (wpAny_pure (wpAny_pure (And.intro rfl h0)))
      | exact wpAny_pure (And.intro rfl h0)
  · first
      | exact wpAny_bind (wpAny_rule (wpAny_bind (wpAny_standAt (wpAny_bind (wpAny_mono h (fun it' s' h' => wpAny_pure (And.intro rfl h')) fun _ _ x => x)))))
      | (refine wpAny_bind (wpAny_rule ?_); show wpAny _ _ (standAt it1.pos >>= _) _ _ s; exact wpAny_bind (wpAny_standAt (wpAny_bind (wpAny_mono h (fun it' s' h' => wpAny_pure (And.intro rfl h')) fun _ _ x => x))))
theorem outer_loop (I : Nat → Shared → Prop)
    (turn : ∀ n s, I n s → wpAny (model prog w) A (pyNext it) (fun r s₁ => match r with
      | none => R (.ok .next) s₁
      | some v => wpAny (model prog w) A (assign (.Name x px) env v) (fun _ s₂ => wpAny (model prog w) A (eval it1 env) (fun xv s₃ => wpAny (model prog w) A (pyIter xv) (fun it' s₄ =>
          codeAny (model prog w) A (.compStart (E2 elt x y px py it0 it1 c scope pos) 1 it' acc env) (fun r s₅ => match r with | .ok _ => ∃ m, m < n ∧ I m s₅ | .error _ => False) s₄) (fun _ _ => False) s₃) (fun _ _ => False) s₂) (fun _ _ => False) s₁) (fun _ _ => False) s)
    (n : Nat) (h : I n s) (ht : ∀ v, letOwnedTupleGo (.Name x px) it v = pure () := by intro _; rfl) (hs : ∀ v, foldedSetIterable it1 env v = pure v := by intro _; rfl) :
    codeAny (model prog w) A (.compLoop (E2 elt x y px py it0 it1 c scope pos) 0 it acc env) R s := by
  refine codeAny_loop rfl I (fun n s hI => ?_) n h
  show wpAny _ A ((compTurn (E2 elt x y px py it0 it1 c scope pos) 0 it acc env).onRaise (fun x => do noteFrame x env; theTreesLotGoes x)) _ _ s
  refine wpAny_noted (wpAny_noRaise ?_)
  rw [turn_outer]
  refine wpAny_bind (wpAny_standAt (wpAny_bind (wpAny_mono (turn n s hI) (fun r s₁ h₁ => ?_) fun _ _ h' => h')))
  cases r with
  | none => exact wpAny_pure h₁
  | some v =>
    refine wpAny_bind (wpAny_of_eq (ht v) ?_)
    refine wpAny_bind (wpAny_mono h₁ (fun _ s₂ h₂ => wpAny_bind (wpAny_tests_nil ?_)) fun _ _ h' => h')
    rw [if_pos rfl]
    refine wpAny_bind (wpAny_mono h₂ (fun xv s₃ h₃ => wpAny_bind (wpAny_standAt (wpAny_bind (wpAny_of_eq (hs xv) (wpAny_bind (wpAny_holding (wpAny_mono h₃ (fun it' s₄ h₄ => ?_) fun _ _ h' => h'))))))) fun _ _ h' => h')
    refine wpAny_bind (wpAny_runOwn (h := none) (codeAny_mono h₄ fun r s₅ h₅ => ?_))
    cases r with
    | ok f => exact wpAny_pure ⟨rfl, h₅⟩
    | error e => exact h₅.elim
end
end Mine
end
section
namespace Mine
open PySem PySem.W PyProof.Rows PySem.Calls
/-- what the list at D holds: new tuples of these pairs; B is kept -/
def AccP (B : Heap) (D : Addr) (h : Heap) (ps : List (Int × Int)) : Prop :=
  ∃ tups e, h.get? D = some (listOf (List.toArray (refsOfT tups)) e) ∧ PairsT tups ps ∧ (∀ q ∈ tups, h.get? q.1 = some q.2 ∧ B.get? q.1 = none) ∧ Sub B h
theorem pairs_cls {l : List (Addr × Obj)} {ps : List (Int × Int)} (h : PairsT l ps) {q : Addr × Obj} (hq : q ∈ l) : q.2.cls = .type "tuple" := by
  obtain ⟨a, b, ta, tb, n, e⟩ := h.mem hq
  rw [e]
theorem AccP.keeps {B h h' : Heap} {D : Addr} {ps : List (Int × Int)} (x : AccP B D h ps) (k : Sub h h') : AccP B D h' ps := by
  obtain ⟨tups, e, h1, h2, h3, h4⟩ := x
  exact ⟨tups, e, k _ _ h1, h2, fun q hq => ⟨k _ _ (h3 q hq).1, (h3 q hq).2⟩, h4.trans' k⟩
theorem AccP.move {B h h' : Heap} {D X : Addr} {oX : Obj} {ps : List (Int × Int)} (x : AccP B D h ps) (hX : h.get? X = some oX) (hc : ∀ xs n, oX.data ≠ .seq xs n) (hD : X ≠ D) (hB : B.get? X = none) (k : ∀ b o, b ≠ X → h.get? b = some o → h'.get? b = some o) : AccP B D h' ps := by
  obtain ⟨tups, e, h1, h2, h3, h4⟩ := x
  refine ⟨tups, e, k _ _ hD.symm h1, h2, fun q hq => ⟨k _ _ (fun e9 => ?_) (h3 q hq).1, (h3 q hq).2⟩, fun b o e9 => k b o (fun q => by rw [q, hB] at e9; cases e9) (h4 b o e9)⟩
  have h9 := (h3 q hq).1
  rw [e9, hX] at h9
  obtain ⟨a, b, ta, tb, n, e8⟩ := h2.mem hq
  exact hc _ _ (by rw [Option.some.inj h9, e8])
theorem AccP.push {B h h' : Heap} {D T : Addr} {oT : Obj} {ps : List (Int × Int)} {i j : Int} (x : AccP B D h ps) (hT : h.get? T = some oT) (hTB : B.get? T = none) (ht : TupP oT i j) (hDB : B.get? D = none)
    {tups : List (Addr × Obj)} {e : Nat} (hD : h.get? D = some (listOf (List.toArray (refsOfT tups)) e)) (hP : PairsT tups ps) (hq : ∀ q ∈ tups, h.get? q.1 = some q.2 ∧ B.get? q.1 = none)
    (hD' : h'.PlainList D ((List.toArray (refsOfT tups)).push (.ref T))) (k : ∀ b o, b ≠ D → h.get? b = some o → h'.get? b = some o) : AccP B D h' (ps ++ [(i, j)]) := by
  obtain ⟨_, _, _, _, _, h4⟩ := x
  obtain ⟨n, hD'⟩ := hD'
  have ne : ∀ q : Addr × Obj, h.get? q.1 = some q.2 → q.2.cls = .type "tuple" → q.1 ≠ D := fun q e1 e2 e3 => by
    rw [e3, hD] at e1
    rw [← Option.some.inj e1] at e2
    have h2 : Value.type "list" = Value.type "tuple" := e2
    injection h2 with h3
    exact absurd h3 (by decide)
  refine ⟨tups ++ [(T, oT)], n, ?_, hP.snoc ht, fun q hq' => ?_, fun b o e9 => k b o (fun q => by rw [q, hDB] at e9; cases e9) (h4 b o e9)⟩
  · rw [hD']; simp [refsOfT]
  · rcases List.mem_append.mp hq' with hq' | hq'
    · exact ⟨k _ _ (ne q (hq q hq').1 (pairs_cls hP hq')) (hq q hq').1, (hq q hq').2⟩
    · rw [List.mem_singleton.mp hq']
      obtain ⟨ta, tb, m, e1⟩ := ht
      exact ⟨k _ _ (ne (T, oT) hT (by rw [e1])) hT, hTB⟩
/-- what a row gives -/
def rowP (met : Int → Int → Bool) (i a : Int) (j : Nat) : List (Int × Int) := (((List.range j).map fun (t : Nat) => a + (t : Int)).filter (met i)).map fun k => (i, k)
theorem rowP_succ (met : Int → Int → Bool) (i a : Int) (j : Nat) : rowP met i a (j + 1) = rowP met i a j ++ (if met i (a + (j : Int)) then [(i, a + (j : Int))] else []) := by
  unfold rowP
  rw [List.range_succ, List.map_append, List.filter_append, List.map_append]
  cases h : met i (a + (j : Int)) <;> simp [h]
theorem rowP_len (met : Int → Int → Bool) (i a : Int) (j : Nat) : (rowP met i a j).length ≤ j := by
  unfold rowP
  rw [List.length_map]
  exact Nat.le_trans (List.length_filter_le _ _) (by simp)
section
variable {prog : Program} {w : World} {A : Around} {R : Result → Shared → Prop} {s : Shared} {elt : Expr} {x y : Str} {px py : Pos} {it0 it1 c : Expr} {scope : Scope} {pos : Pos} {env : Env}
theorem ns_cls {h : Heap} {C : Addr} {m : Str → Option Value} (hn : h.Ns C m) {D : Addr} {o : Obj} (hD : h.get? D = some o) (hs : ∃ xs n, o.data = .seq xs n) : C ≠ D := fun e => by
  obtain ⟨oC, es, ep, e1, e2, _⟩ := hn
  obtain ⟨xs, n, e3⟩ := hs
  rw [e, hD] at e1
  rw [Option.some.inj e1, e2] at e3
  cases e3
/-- the inner loop, over a .. a + nn - 1 -/
theorem inner_run {B : Heap} {C I D : Addr} {cenv : Env} (met : Int → Int → Bool) {i a : Int} {ti : Tok} {nn : Nat} {m₀ : Str → Option Value} {ps₀ : List (Int × Int)} (hh : A.handled = none) (hC : cenv.locals = C)
    (hy : cenv.kindOf y = some .local) (hp : (cenv.scope.kind == .class || (cenv.scope.kind == .module && cenv.locals != cenv.globals)) = false) (hxy : x ≠ y)
    (hB : B.get? I = none ∧ B.get? C = none ∧ B.get? D = none) (hroom : ps₀.length + nn ≤ 1000)
    (hst : IsRangeIter s.heap I (a + ((0 : Nat) : Int) * 1) ((nn : Int) - ((0 : Nat) : Int)) 1) (hA : AccP B D s.heap ps₀) (hn : s.heap.Ns C m₀) (hm : m₀ x = some (.int i ti))
    (htest : ∀ (j : Nat) tj s₃ m₃, j < nn → s₃.heap.Ns C m₃ → m₃ x = some (.int i ti) → m₃ y = some (.int (a + (j : Int)) tj) → Sub B s₃.heap →
      wpAny (model prog w) A (isTrue c cenv (eval c cenv)) (fun ok s₄ => ok = met i (a + (j : Int)) ∧ Keeps s₃ s₄) (fun _ _ => False) s₃)
    (helt : ∀ (j : Nat) tj s₃ m₃, j < nn → s₃.heap.Ns C m₃ → m₃ x = some (.int i ti) → m₃ y = some (.int (a + (j : Int)) tj) → Sub B s₃.heap →
      wpAny (model prog w) A (eval elt cenv) (fun z s₄ => (∃ T o, z = .ref T ∧ s₃.heap.get? T = none ∧ TupP o i (a + (j : Int)) ∧ s₄.heap.get? T = some o) ∧ Keeps s₃ s₄) (fun _ _ => False) s₃)
    (hR : ∀ h' tk m', AccP B D h' (ps₀ ++ rowP met i a nn) → h'.Ns C m' → (∀ b o, b ≠ C → b ≠ I → b ≠ D → s.heap.get? b = some o → h'.get? b = some o) → R (.ok .next) { s with heap := h', toks := tk }) :
    codeAny (model prog w) A (.compLoop (E2 elt x y px py it0 it1 c scope pos) 1 (.ref I) (.ref D) cenv) R s := by
  subst hC
  have W := Walks.range (prog := prog) (w := w) hh I a 1 nn
  refine inner_loop (fun k s' => ∃ h' tk m' j, s' = { s with heap := h', toks := tk } ∧ IsRangeIter h' I (a + ((j : Nat) : Int) * 1) ((nn : Int) - ((j : Nat) : Int)) 1 ∧ AccP B D h' (ps₀ ++ rowP met i a j) ∧ h'.Ns cenv.locals m' ∧ m' x = some (.int i ti) ∧
    j ≤ nn ∧ k = nn + 1 - j ∧ (∀ b o, b ≠ cenv.locals → b ≠ I → b ≠ D → s.heap.get? b = some o → h'.get? b = some o)) ?_ (nn + 1)
    ⟨s.heap, s.toks, m₀, 0, rfl, hst, by simpa [rowP] using hA, hn, hm, Nat.zero_le _, rfl, fun _ _ _ _ _ e => e⟩
  rintro k s' ⟨H, tk, m', j, rfl, hst', hA', hn', hm', hj, rfl, hk⟩
  have hDobj : ∃ oD, H.get? D = some oD ∧ (∃ xs n, oD.data = .seq xs n) ∧ oD.cls = .type "list" := by
    obtain ⟨tups, e, h1, _⟩ := hA'
    exact ⟨_, h1, ⟨_, _, rfl⟩, rfl⟩
  obtain ⟨oD, hD1, hD2, hD3⟩ := hDobj
  have hCD : cenv.locals ≠ D := ns_cls hn' hD1 hD2
  have hIobj : ∃ oI, H.get? I = some oI ∧ oI.cls = .type "range_iterator" ∧ ∃ fs, oI.data = .fields fs := ⟨_, hst', rfl, _, rfl⟩
  obtain ⟨oI, hI1, hI2, fs, hI3⟩ := hIobj
  have hID : I ≠ D := fun e9 => by
    rw [e9, hD1] at hI1
    rw [← Option.some.inj hI1, hD3] at hI2
    injection hI2 with h3
    exact absurd h3 (by decide)
  have hCI : cenv.locals ≠ I := fun e9 => by
    obtain ⟨oC, es, ep, e1, e2, _⟩ := hn'
    rw [e9, hI1] at e1
    rw [← Option.some.inj e1, hI3] at e2
    cases e2
  by_cases hlt : j < nn
  · refine W.item j _ _ _ hlt hst' fun v h₁ tk₁ hPv hst₁ hk₁ => ?_
    obtain ⟨tj, rfl⟩ := hPv
    rw [Int.mul_one]
    have hk₁' : ∀ b o, b ≠ I → H.get? b = some o → h₁.get? b = some o := fun b o hb e => hk₁ b o (by simpa using hb) e
    have hA₁ := hA'.move hI1 (fun xs n e9 => by rw [hI3] at e9; cases e9) hID hB.1 hk₁'
    have hn₁ : h₁.Ns cenv.locals m' := hn'.at' fun o e => hk₁' _ o hCI e
    refine wpAny_assign_Name (wpAny_storeName_local hy hn₁ (fun h₂ hn₂ hs₂ => ?_) hp)
    have up₂ : ∀ b o, b ≠ cenv.locals → h₁.get? b = some o → h₂.get? b = some o := fun b o hb e => hs₂.extBut b o hb e
    obtain ⟨oC, es, ep, hoC, hdC, _⟩ := id hn₁
    have hA₂ : AccP B D h₂ (ps₀ ++ rowP met i a j) := hA₁.move hoC (fun xs n e9 => by rw [hdC] at e9; cases e9) hCD hB.2.1 up₂
    have hst₂ : IsRangeIter h₂ I (a + ((j + 1 : Nat) : Int) * 1) ((nn : Int) - ((j + 1 : Nat) : Int)) 1 := up₂ _ _ hCI.symm hst₁
    have hmx : (fun z => if z = y then some (Value.int (a + (j : Int)) tj) else m' z) x = some (.int i ti) := by simp [hxy, hm']
    have hBA : Sub B h₂ := by obtain ⟨_, _, _, _, _, h4⟩ := hA₂; exact h4
    refine wpAny_mono (htest j tj _ _ hlt hn₂ hmx (by simp) hBA) (fun ok s₃ h₃ => ?_) fun _ _ e => e
    obtain ⟨rfl, h₃, tk₃, rfl, hk₃⟩ := h₃
    have hkeep₃ : ∀ b o, b ≠ cenv.locals → b ≠ I → b ≠ D → s.heap.get? b = some o → h₃.get? b = some o := fun b o b1 b2 b3 e => hk₃ b o (up₂ b o b1 (hk₁' b o b2 (hk b o b1 b2 b3 e)))
    have hA₃ := hA₂.keeps hk₃
    cases hmt : met i (a + (j : Int)) with
    | false =>
      rw [if_neg (by simp)]
      refine ⟨nn + 1 - (j + 1), by omega, h₃, tk₃, _, j + 1, rfl, hk₃ _ _ hst₂, ?_, hn₂.keeps hk₃, hmx, hlt, rfl, hkeep₃⟩
      rw [rowP_succ, hmt]; simpa using hA₃
    | true =>
      rw [if_pos rfl]
      have hBA₃ : Sub B h₃ := hBA.trans' hk₃
      refine wpAny_mono (helt j tj _ _ hlt (hn₂.keeps hk₃) hmx (by simp) hBA₃) (fun z s₄ h₄ => ?_) fun _ _ e => e
      obtain ⟨⟨T, oT, rfl, hT0, hTP, hT1⟩, h₄, tk₄, rfl, hk₄⟩ := h₄
      have hA₄ := hA₃.keeps hk₄
      obtain ⟨tups, e, hD4, hP4, hq4, hB4⟩ := id hA₄
      have hTB : B.get? T = none := by
        cases e9 : B.get? T with
        | none => rfl
        | some o => have h9 := hBA₃ T o e9; rw [hT0] at h9; cases h9
      have hlen : tups.length ≤ 1000 := by
        have h9 := hP4.length
        have h8 := rowP_len met i a j
        rw [List.length_append] at h9
        omega
      refine wpAny_list_append_plain (hsz := by simp only [List.size_toArray, refsOfT, List.length_map, sizeLine_eq]; omega) ⟨e, hD4⟩ fun h₅ hl₅ hs₅ => ?_
      have up₅ : ∀ b o, b ≠ D → h₄.get? b = some o → h₅.get? b = some o := fun b o hb e => hs₅.extBut b o hb e
      refine ⟨nn + 1 - (j + 1), by omega, h₅, tk₄, _, j + 1, rfl, up₅ _ _ hID (hk₄ _ _ (hk₃ _ _ hst₂)), ?_, ((hn₂.keeps hk₃).keeps hk₄).sameBut hs₅ hCD, hmx, hlt, rfl, fun b o b1 b2 b3 e9 => up₅ b o b3 (hk₄ b o (hkeep₃ b o b1 b2 b3 e9))⟩
      rw [rowP_succ, hmt, if_pos rfl, ← List.append_assoc]
      exact hA₄.push hT1 hTB hTP hB.2.2 hD4 hP4 hq4 hl₅ up₅
  · have hin : j = nn := by omega
    subst hin
    refine W.done _ _ _ hst' fun h₁ tk₁ hk₁ => ?_
    have hk₁' : ∀ b o, b ≠ I → H.get? b = some o → h₁.get? b = some o := fun b o hb e => hk₁ b o (by simpa using hb) e
    refine hR h₁ tk₁ m' (hA'.move hI1 (fun xs n e9 => by rw [hI3] at e9; cases e9) hID hB.1 hk₁') (hn'.at' fun o e => hk₁' _ o hCI e) fun b o b1 b2 b3 e => hk₁' b o b2 (hk b o b1 b2 b3 e)
end
end Mine
end
section
namespace Mine
open PySem PySem.W PyProof.Rows PySem.Calls
def rowsP (met : Int → Int → Bool) (n i : Nat) : List (Int × Int) := (List.range i).flatMap fun (k : Nat) => rowP met (k : Int) ((k : Int) + 1) (n - 1 - k)
theorem rowsP_succ (met : Int → Int → Bool) (n i : Nat) : rowsP met n (i + 1) = rowsP met n i ++ rowP met (i : Int) ((i : Int) + 1) (n - 1 - i) := by
  unfold rowsP
  rw [List.range_succ, List.flatMap_append]
  simp
theorem rowsP_len (met : Int → Int → Bool) (n : Nat) : ∀ i, (rowsP met n i).length ≤ i * n
  | 0 => by simp [rowsP]
  | i + 1 => by
    rw [rowsP_succ, List.length_append]
    have h1 := rowsP_len met n i
    have h2 := rowP_len met (i : Int) ((i : Int) + 1) (n - 1 - i)
    have h3 : (i + 1) * n = i * n + n := Nat.succ_mul i n
    omega
section
variable {prog : Program} {w : World} {A : Around} {R : Result → Shared → Prop} {s : Shared} {elt : Expr} {x y : Str} {px py : Pos} {it0 it1 c : Expr} {scope : Scope} {pos : Pos} {env : Env}
/-- what the parts of the comprehension do in its own frame -/
structure PairEnv (prog : Program) (w : World) (A : Around) (B : Heap) (cenv : Env) (x y : Str) (it1 c elt : Expr) (n : Nat) (met : Int → Int → Bool) : Prop where
  src : ∀ (i : Nat) ti s₃ m₃, i < n → s₃.heap.Ns cenv.locals m₃ → m₃ x = some (.int (i : Int) ti) → Sub B s₃.heap →
    wpAny (model prog w) A (eval it1 cenv) (fun xv s₄ => (∃ r t u v, xv = .ref r ∧ IsRange s₄.heap r ((i : Int) + 1) (n : Int) 1 t u v) ∧ Keeps s₃ s₄) (fun _ _ => False) s₃
  test : ∀ (i j : Nat) ti tj s₃ m₃, i < n → i + 1 + j < n → s₃.heap.Ns cenv.locals m₃ → m₃ x = some (.int (i : Int) ti) → m₃ y = some (.int ((i : Int) + 1 + (j : Int)) tj) → Sub B s₃.heap →
    wpAny (model prog w) A (isTrue c cenv (eval c cenv)) (fun ok s₄ => ok = met (i : Int) ((i : Int) + 1 + (j : Int)) ∧ Keeps s₃ s₄) (fun _ _ => False) s₃
  elt : ∀ (i j : Nat) ti tj s₃ m₃, i < n → i + 1 + j < n → s₃.heap.Ns cenv.locals m₃ → m₃ x = some (.int (i : Int) ti) → m₃ y = some (.int ((i : Int) + 1 + (j : Int)) tj) → Sub B s₃.heap →
    wpAny (model prog w) A (eval elt cenv) (fun z s₄ => (∃ T o, z = .ref T ∧ s₃.heap.get? T = none ∧ TupP o (i : Int) ((i : Int) + 1 + (j : Int)) ∧ s₄.heap.get? T = some o) ∧ Keeps s₃ s₄) (fun _ _ => False) s₃
theorem outer_run {B : Heap} {C I D : Addr} {cenv : Env} (met : Int → Int → Bool) {n : Nat} {m₀ : Str → Option Value} (hh : A.handled = none) (hC : cenv.locals = C)
    (hx : cenv.kindOf x = some .local) (hy : cenv.kindOf y = some .local) (hp : (cenv.scope.kind == .class || (cenv.scope.kind == .module && cenv.locals != cenv.globals)) = false) (hxy : x ≠ y) (hn8 : n ≤ 8)
    (hB : B.get? I = none ∧ B.get? C = none ∧ B.get? D = none) (P : PairEnv prog w A B cenv x y it1 c elt n met)
    (hst : IsRangeIter s.heap I ((0 : Int) + ((0 : Nat) : Int) * 1) ((n : Int) - ((0 : Nat) : Int)) 1) (hA : AccP B D s.heap []) (hn : s.heap.Ns C m₀) (hBs : B.objs.size ≤ s.heap.objs.size)
    (hR : ∀ h' tk m', AccP B D h' (rowsP met n n) → h'.Ns C m' → R (.ok .next) { s with heap := h', toks := tk })
    (hfold : ∀ v, foldedSetIterable it1 cenv v = pure v) :
    codeAny (model prog w) A (.compLoop (E2 elt x y px py it0 it1 c scope pos) 0 (.ref I) (.ref D) cenv) R s := by
  subst hC
  have W := Walks.range (prog := prog) (w := w) hh I 0 1 n
  refine outer_loop (hs := hfold) (fun k s' => ∃ h' tk m' i, s' = { s with heap := h', toks := tk } ∧ IsRangeIter h' I ((0 : Int) + ((i : Nat) : Int) * 1) ((n : Int) - ((i : Nat) : Int)) 1 ∧ AccP B D h' (rowsP met n i) ∧ h'.Ns cenv.locals m' ∧
    i ≤ n ∧ k = n + 1 - i) ?_ (n + 1) ⟨s.heap, s.toks, m₀, 0, rfl, hst, hA, hn, Nat.zero_le _, rfl⟩
  rintro k s' ⟨H, tk, m', i, rfl, hst', hA', hn', hi, rfl⟩
  have hDobj : ∃ oD, H.get? D = some oD ∧ (∃ xs n, oD.data = .seq xs n) ∧ oD.cls = .type "list" := by
    obtain ⟨tups, e, h1, _⟩ := hA'
    exact ⟨_, h1, ⟨_, _, rfl⟩, rfl⟩
  obtain ⟨oD, hD1, hD2, hD3⟩ := hDobj
  have hCD : cenv.locals ≠ D := ns_cls hn' hD1 hD2
  have hIobj : ∃ oI, H.get? I = some oI ∧ oI.cls = .type "range_iterator" ∧ ∃ fs, oI.data = .fields fs := ⟨_, hst', rfl, _, rfl⟩
  obtain ⟨oI, hI1, hI2, fs, hI3⟩ := hIobj
  have hID : I ≠ D := fun e9 => by
    rw [e9, hD1] at hI1
    rw [← Option.some.inj hI1, hD3] at hI2
    injection hI2 with h3
    exact absurd h3 (by decide)
  have hCI : cenv.locals ≠ I := fun e9 => by
    obtain ⟨oC, es, ep, e1, e2, _⟩ := hn'
    rw [e9, hI1] at e1
    rw [← Option.some.inj e1, hI3] at e2
    cases e2
  by_cases hlt : i < n
  · refine W.item i _ _ _ hlt hst' fun v h₁ tk₁ hPv hst₁ hk₁ => ?_
    obtain ⟨ti, rfl⟩ := hPv
    rw [show (0 : Int) + (i : Int) * 1 = (i : Int) by omega]
    have hk₁' : ∀ b o, b ≠ I → H.get? b = some o → h₁.get? b = some o := fun b o hb e => hk₁ b o (by simpa using hb) e
    have hA₁ := hA'.move hI1 (fun xs n e9 => by rw [hI3] at e9; cases e9) hID hB.1 hk₁'
    have hn₁ : h₁.Ns cenv.locals m' := hn'.at' fun o e => hk₁' _ o hCI e
    refine wpAny_assign_Name (wpAny_storeName_local hx hn₁ (fun h₂ hn₂ hs₂ => ?_) hp)
    have up₂ : ∀ b o, b ≠ cenv.locals → h₁.get? b = some o → h₂.get? b = some o := fun b o hb e => hs₂.extBut b o hb e
    obtain ⟨oC, es, ep, hoC, hdC, _⟩ := id hn₁
    have hA₂ : AccP B D h₂ (rowsP met n i) := hA₁.move hoC (fun xs n e9 => by rw [hdC] at e9; cases e9) hCD hB.2.1 up₂
    have hst₂ : IsRangeIter h₂ I ((0 : Int) + ((i + 1 : Nat) : Int) * 1) ((n : Int) - ((i + 1 : Nat) : Int)) 1 := up₂ _ _ hCI.symm hst₁
    have hmx : (fun z => if z = x then some (Value.int (i : Int) ti) else m' z) x = some (.int (i : Int) ti) := by simp
    have hBA : Sub B h₂ := by obtain ⟨_, _, _, _, _, h4⟩ := hA₂; exact h4
    refine wpAny_mono (P.src i ti _ _ hlt hn₂ hmx hBA) (fun xv s₃ h₃ => ?_) fun _ _ e => e
    obtain ⟨⟨r, t, u, v, rfl, hr⟩, h₃, tk₃, rfl, hk₃⟩ := h₃
    have hA₃ := hA₂.keeps hk₃
    have hn₃ := hn₂.keeps hk₃
    have hsm : Builtin.Range.small ((i : Int) + 1) (n : Int) 1 = true := small_one (by omega) (by omega) (by omega) (by omega)
    have hrs : Builtin.Range.rangeSize ((i : Int) + 1) (n : Int) 1 = ((n - 1 - i : Nat) : Int) := by rw [rangeSize_one]; split <;> omega
    refine wpAny_pyIter_range hr hsm ?_
    rw [hrs]
    have hJ : (h₃.push { cls := .type "range_iterator", data := .fields #[rawInt ((i : Int) + 1), rawInt ((n - 1 - i : Nat) : Int), rawInt 1] }).get? h₃.objs.size = some { cls := .type "range_iterator", data := .fields #[rawInt ((i : Int) + 1), rawInt ((n - 1 - i : Nat) : Int), rawInt 1] } := Heap.get?_push_size _ rfl
    generalize hH4 : h₃.push { cls := .type "range_iterator", data := .fields #[rawInt ((i : Int) + 1), rawInt ((n - 1 - i : Nat) : Int), rawInt 1] } = h₄ at hJ ⊢
    have hk₄ : Sub h₃ h₄ := fun b o e => by rw [← hH4]; exact Heap.get?_push_of_some _ e
    have hJ0 : IsRangeIter h₄ h₃.objs.size (((i : Int) + 1) + ((0 : Nat) : Int) * 1) (((n - 1 - i : Nat) : Int) - ((0 : Nat) : Int)) 1 := by
      have e1 : ((i : Int) + 1) + ((0 : Nat) : Int) * 1 = (i : Int) + 1 := by omega
      have e2 : ((n - 1 - i : Nat) : Int) - ((0 : Nat) : Int) = ((n - 1 - i : Nat) : Int) := by omega
      rw [e1, e2]; exact hJ
    have hJB : B.get? h₃.objs.size = none := by
      cases e9 : B.get? h₃.objs.size with
      | none => rfl
      | some o => exact absurd (Heap.lt_size (hk₃ _ _ (hBA _ _ e9))) (Nat.lt_irrefl _)
    have hIJ : I ≠ h₃.objs.size := Nat.ne_of_lt (Heap.lt_size (hk₃ _ _ hst₂))
    have W' := Walks.range (prog := prog) (w := w) hh h₃.objs.size ((i : Int) + 1) 1 (n - 1 - i)
    have loop : codeAny (model prog w) A (.compLoop (E2 elt x y px py it0 it1 c scope pos) 1 (.ref h₃.objs.size) (.ref D) cenv)
        (fun r s₅ => match r with | .ok _ => ∃ m, m < n + 1 - i ∧ ∃ h' tk m' i, s₅ = { s with heap := h', toks := tk } ∧ IsRangeIter h' I ((0 : Int) + ((i : Nat) : Int) * 1) ((n : Int) - ((i : Nat) : Int)) 1 ∧ AccP B D h' (rowsP met n i) ∧ h'.Ns cenv.locals m' ∧ i ≤ n ∧ m = n + 1 - i | .error _ => False)
        { s with heap := h₄, toks := tk₃ } := by
      have hl := rowsP_len met n i
      have hl2 : i * n ≤ 64 := Nat.le_trans (Nat.mul_le_mul (show i ≤ 8 by omega) hn8) (by decide)
      refine inner_run (s := { s with heap := h₄, toks := tk₃ }) (B := B) met hh rfl hy hp hxy ⟨hJB, hB.2.1, hB.2.2⟩ (by omega) hJ0 (hA₃.keeps hk₄) (hn₃.keeps hk₄) hmx (fun j tj s₃ m₃ hj hn3 hm3 hy3 hS => P.test i j ti tj s₃ m₃ hlt (by omega) hn3 hm3 hy3 hS)
        (fun j tj s₃ m₃ hj hn3 hm3 hy3 hS => P.elt i j ti tj s₃ m₃ hlt (by omega) hn3 hm3 hy3 hS) fun h' tk' m'' hA'' hn'' hk'' => ?_
      refine ⟨n + 1 - (i + 1), by omega, h', tk', m'', i + 1, rfl, hk'' _ _ hCI.symm hIJ hID (hk₄ _ _ (hk₃ _ _ hst₂)), ?_, hn'', hlt, rfl⟩
      rw [rowsP_succ]
      exact hA''
    exact inner_start loop (W'.self 0 _ _ _ hJ0 loop)
  · have hin : i = n := by omega
    subst hin
    refine W.done _ _ _ hst' fun h₁ tk₁ hk₁ => ?_
    have hk₁' : ∀ b o, b ≠ I → H.get? b = some o → h₁.get? b = some o := fun b o hb e => hk₁ b o (by simpa using hb) e
    exact hR h₁ tk₁ m' (hA'.move hI1 (fun xs n e9 => by rw [hI3] at e9; cases e9) hID hB.1 hk₁') (hn'.at' fun o e => hk₁' _ o hCI e)
/-- [(i, j) for i in range(n) for j in range(i + 1, n) if met(i, j)] -/
theorem comp_pairs {E : Value → Shared → Prop} {cl : List (Str × Addr)} {Q : Value → Shared → Prop} (met : Int → Int → Bool) (hh : A.handled = none)
    (hclos : closureFor scope env = pure cl) (hcell : ∀ z ∈ scope.names, z.2 ≠ .cell) (hkind : scope.kind = .function)
    (hnames : ∀ z ∈ scope.names, z.2 = .local → scope.names.lookup z.1 = some .local) (hx : scope.names.lookup x = some .local) (hy : scope.names.lookup y = some .local) (hxy : x ≠ y)
    (h : wpAny (model prog w) A (eval it0 env) (fun xv s₁ => ∃ (r : Addr) (n : Nat) (t u v : Tok), xv = .ref r ∧ IsRange s₁.heap r 0 (n : Int) 1 t u v ∧ n ≤ 8 ∧
      (∀ C, s₁.heap.objs.size < C → PairEnv prog w A s₁.heap (compEnvC scope cl C env) x y it1 c elt n met) ∧
      (∀ D h' tk tups e, s₁.heap.get? D = none → h'.get? D = some (listOf (List.toArray (refsOfT tups)) e) → PairsT tups (rowsP met n n) → (∀ q ∈ tups, h'.get? q.1 = some q.2 ∧ s₁.heap.get? q.1 = none) → Sub s₁.heap h' → Q (.ref D) { s₁ with heap := h', toks := tk })) E s)
    (hs : ∀ v, foldedSetIterable it0 env v = pure v := by intro _; rfl) (hs1 : ∀ C v, foldedSetIterable it1 (compEnvC scope cl C env) v = pure v := by intro _ _; rfl) :
    wpAny (model prog w) A (eval (E2 elt x y px py it0 it1 c scope pos) env) Q E s := by
  rw [eval_ListComp]
  refine wpAny_comprehension_free (use := none) rfl hs hclos hkind hnames (wpAny_mono h (fun xv s₁ h₁ => ?_) fun _ _ e => e)
  obtain ⟨r, n, t, u, v, rfl, hr, hn8, hP, hQ⟩ := h₁
  have hsm : Builtin.Range.small 0 (n : Int) 1 = true := small_one (by omega) (by omega) (by omega) (by omega)
  have hrs : Builtin.Range.rangeSize 0 (n : Int) 1 = (n : Int) := by rw [rangeSize_one]; split <;> omega
  refine wpAny_pyIter_range hr hsm ?_
  rw [hrs]
  have hI : (s₁.heap.push { cls := .type "range_iterator", data := .fields #[rawInt 0, rawInt (n : Int), rawInt 1] }).get? s₁.heap.objs.size = some { cls := .type "range_iterator", data := .fields #[rawInt 0, rawInt (n : Int), rawInt 1] } := Heap.get?_push_size _ rfl
  have hz1 : (s₁.heap.push { cls := .type "range_iterator", data := .fields #[rawInt 0, rawInt (n : Int), rawInt 1] }).objs.size = s₁.heap.objs.size + 1 := Heap.size_push ..
  generalize hH1 : s₁.heap.push { cls := .type "range_iterator", data := .fields #[rawInt 0, rawInt (n : Int), rawInt 1] } = H1 at hI hz1 ⊢
  have hk1 : Sub s₁.heap H1 := fun b o e => by rw [← hH1]; exact Heap.get?_push_of_some _ e
  refine wpAny_newObj_type (wpAny_newFunctionEnv hcell (by intro z hz; simp at hz) (fun h₁ hns₁ hsb₁ => ?_) hkind)
  dsimp only at hns₁ hsb₁ ⊢
  have hz2 : (H1.push { cls := .type "list", dict := none, data := .seq ([] : List Value).toArray }).objs.size = s₁.heap.objs.size + 1 + 1 := by rw [Heap.size_push, hz1]
  have hD2 : (H1.push { cls := .type "list", dict := none, data := .seq ([] : List Value).toArray }).get? H1.objs.size = some { cls := .type "list", dict := none, data := .seq ([] : List Value).toArray } := Heap.get?_push_size _ rfl
  generalize hH2 : H1.push { cls := .type "list", dict := none, data := .seq ([] : List Value).toArray } = H2 at hns₁ hsb₁ hz2 hD2 ⊢
  have hk2 : Sub H1 H2 := fun b o e => by rw [← hH2]; exact Heap.get?_push_of_some _ e
  have up : ∀ b o, b < H2.objs.size → H2.get? b = some o → h₁.get? b = some o := fun b o hb e => hsb₁.extBut b o (Nat.ne_of_lt hb) (Heap.get?_push_of_some _ e)
  have hup : Sub H2 h₁ := fun b o e => up b o (Heap.lt_size e) e
  have fresh : ∀ a, s₁.heap.objs.size ≤ a → s₁.heap.get? a = none := fun a ha => by
    cases e : s₁.heap.get? a with
    | none => rfl
    | some o' => exact absurd (Heap.lt_size e) (Nat.not_lt.mpr ha)
  have hst : IsRangeIter h₁ s₁.heap.objs.size ((0 : Int) + ((0 : Nat) : Int) * 1) ((n : Int) - ((0 : Nat) : Int)) 1 := by
    have e1 : (0 : Int) + ((0 : Nat) : Int) * 1 = 0 := by omega
    have e2 : (n : Int) - ((0 : Nat) : Int) = n := by omega
    rw [e1, e2]
    exact hup _ _ (hk2 _ _ hI)
  have hA : AccP s₁.heap H1.objs.size h₁ [] := ⟨[], 0, hup _ _ hD2, .nil, (fun _ hq => nomatch hq), fun b o e => hup _ _ (hk2 _ _ (hk1 _ _ e))⟩
  have hB0 : s₁.heap.get? s₁.heap.objs.size = none := fresh _ (Nat.le_refl _)
  have hBC : s₁.heap.get? H2.objs.size = none := fresh _ (by omega)
  have hBD : s₁.heap.get? H1.objs.size = none := fresh _ (by omega)
  have hle : s₁.heap.objs.size ≤ h₁.objs.size := Nat.le_of_lt (Nat.lt_of_le_of_lt (by omega) hns₁.lt)
  have loop : ∀ s₃ : Shared, s₃ = { s₁ with heap := h₁, toks := s₁.toks + ([] : List (Str × Value)).length } →
      codeAny (model prog w) A (.compLoop (E2 elt x y px py it0 it1 c scope pos) 0 (.ref s₁.heap.objs.size) (.ref H1.objs.size) (compEnvC scope cl H2.objs.size env))
        (compPost (model prog w) A E none Q (.ref H1.objs.size) H2.objs.size) s₃ := by
    rintro s₃ rfl
    refine outer_run (s := { s₁ with heap := h₁, toks := s₁.toks + ([] : List (Str × Value)).length }) (B := s₁.heap) (cenv := compEnvC scope cl H2.objs.size env) met hh rfl (lookup_relabel_local hx) (lookup_relabel_local hy) (by simp [compEnvC, relabel, hkind]) hxy hn8 ⟨hB0, hBC, hBD⟩
      (hP _ (by omega)) hst hA hns₁ hle (fun h' tk m' hA' hn' => ⟨m', hn', fun h'' hs'' => ?_⟩) (hs1 _)
    obtain ⟨oC, es, ep, hoC, hdC, _⟩ := id hn'
    have hDobj : ∃ oD, h'.get? H1.objs.size = some oD ∧ (∃ xs n, oD.data = .seq xs n) := by
      obtain ⟨tups, e, h1, _⟩ := hA'
      exact ⟨_, h1, ⟨_, _, rfl⟩⟩
    obtain ⟨oD, hD1, hD3⟩ := hDobj
    obtain ⟨tups, e, h1, h2, h3, h4⟩ := hA'.move hoC (fun xs n e9 => by rw [hdC] at e9; cases e9) (ns_cls hn' hD1 hD3) hBC (fun b o hb e => hs''.extBut b o hb e)
    exact hQ _ h'' tk tups e hBD h1 h2 h3 h4
  exact codeAny_compStart_list (loop _ rfl) (wpAny_noRaise ((Walks.range (prog := prog) (w := w) hh s₁.heap.objs.size 0 1 n).self 0 _ _ _ hst (loop _ rfl)))
end
end Mine
end
section
namespace Mine
open PySem PySem.W PyProof.Rows PySem.Calls PySem.SeqAt PySem.Spec
def pdata (p : Int × Int) : PyData := .tuple [.int p.1, .int p.2]
theorem reads_pairs {h : Heap} : ∀ {l : List (Addr × Obj)} {ps : List (Int × Int)}, PairsT l ps → (∀ q ∈ l, h.get? q.1 = some q.2) → ReadsAll h (refsOfT l) (ps.map pdata) []
  | _, _, .nil, _ => .nil
  | _, _, .cons (d := d) (a := a) (b := b) ht t, hm => by
    have h0 := hm _ (.head _)
    obtain ⟨ta, tb, n, e⟩ := ht
    subst e
    have r : Reads h (.ref d) (pdata (a, b)) [] := Reads.tuple h0 rfl rfl (.cons (Reads.int a ta) (.cons (Reads.int b tb) .nil))
    have := ReadsAll.cons r (reads_pairs t fun q hq => hm q (.tail _ hq))
    exact this
theorem lay_pairs : ∀ ps : List (Int × Int), PyData.canLayAll0 (ps.map pdata) = true
  | [] => by simp [PyData.canLayAll0]
  | p :: r => by simp [PyData.canLayAll0, PyData.canLay0, pdata, lay_pairs r]
theorem depth_pairs : ∀ ps : List (Int × Int), PyData.depthAll (ps.map pdata) ≤ 3
  | [] => by simp [PyData.depthAll]
  | p :: r => by
    have := depth_pairs r
    have h2 : PyData.depth (pdata p) ≤ 3 := by
      simp only [pdata, PyData.depth, PyData.depthAll]
      omega
    simp only [List.map_cons, PyData.depthAll]
    omega
theorem shaped_pairs (ps : List (Int × Int)) : shaped (.list (ps.map pdata)) = true := by
  have h1 := depth_pairs ps
  have h2 : PyData.depth (.list (ps.map pdata)) ≤ 64 := by simp only [PyData.depth]; omega
  show (PyData.canLay0 (.list (ps.map pdata)) && decide (PyData.depth (.list (ps.map pdata)) ≤ 64)) = true
  rw [Bool.and_eq_true]
  exact ⟨by simp only [PyData.canLay0]; exact lay_pairs ps, decide_eq_true h2⟩
theorem noMix_pairs : ∀ ps qs : List (Int × Int), noMixAll (ps.map pdata) (qs.map pdata) = true
  | [], [] => by simp [noMixAll]
  | [], _ :: _ => by simp [noMixAll]
  | _ :: _, [] => by simp [noMixAll]
  | _ :: r, _ :: q => by simp [noMixAll, noMix, pdata, noMix_pairs r q]
theorem same_pairs : ∀ ps : List (Int × Int), PySem.Spec.sameAll (ps.map pdata) (ps.map pdata) = true
  | [] => by simp [PySem.Spec.sameAll]
  | p :: r => by simp [PySem.Spec.sameAll, PySem.Spec.same, pdata, same_pairs r]
section
variable {prog : Program} {w : World} {A : Around} {E : Value → Shared → Prop} {s : Shared} {h₀ : Heap} {L : Addr} {m : Str → Option Value} {news : List (Addr × Obj)}
/-- two lists of the same pairs are not unequal -/
theorem ne_pairs {a b : Addr} {l l' : List (Addr × Obj)} {ps : List (Int × Int)} {e e' : Nat} {Q : Value → Shared → Prop} (ha : s.heap.get? a = some (listOf (refsOfT l).toArray e)) (hb : s.heap.get? b = some (listOf (refsOfT l').toArray e'))
    (hP : PairsT l ps) (hP' : PairsT l' ps) (hl : ∀ q ∈ l, s.heap.get? q.1 = some q.2) (hl' : ∀ q ∈ l', s.heap.get? q.1 = some q.2) (hu : A.units + 64 < cLine) (h : Q (.bool false) s) :
    wpAny (model prog w) A (compareOp .NotEq (.ref a) (.ref b)) Q E s := by
  have r1 : Reads s.heap (.ref a) (.list (ps.map pdata)) [a] := Reads.list ha rfl rfl (by simpa using reads_pairs hP hl)
  have r2 : Reads s.heap (.ref b) (.list (ps.map pdata)) [b] := Reads.list hb rfl rfl (by simpa using reads_pairs hP' hl')
  refine ne_dataH_same r1 r2 (shaped_pairs ps) (shaped_pairs ps) hu (by simp only [noMix]; exact noMix_pairs ps ps) ?_
  simp only [PySem.Spec.same, same_pairs, Bool.not_true]
  exact h
/-- two lists of the same ints are not unequal -/
theorem ne_same {a b : Addr} {vs us : List Value} {ns : List Int} {Q : Value → Shared → Prop} (hl : s.heap.IsList a vs.toArray) (hi : IntsAre vs ns) (hl' : s.heap.IsList b us.toArray) (hi' : IntsAre us ns) (hu : A.units + 64 < cLine)
    (h : Q (.bool false) s) : wpAny (model prog w) A (compareOp .NotEq (.ref a) (.ref b)) Q E s :=
  ne_intsK hl hi hl' hi' hu (by simpa using h)
end
/-! A loop over a range whose name is a cell's. -/
section
variable {prog : Program} {w : World} {A : Around} {s : Shared} {env : Env} {h₀ : Heap} {L : Addr}
/-- the end of a turn -/
def TurnEnd (h₀ : Heap) (L I : Addr) (it : Obj) (J : (Str → Option Value) → List (Addr × Obj) → Prop) (s₁ s₂ : Shared) : Prop :=
  ∃ h' tk m' news', s₂ = { s₁ with heap := h', toks := tk } ∧ Fr h₀ L h' m' ∧ News h₀ L h' ((I, it) :: news') ∧ (∀ p ∈ news', p.1 ≠ I) ∧ J m' news'
theorem for_rng {x : Str} {px pos : Pos} {iter : Expr} {body : List Stmt} {Q : Flow → Shared → Prop} (J : Nat → (Str → Option Value) → List (Addr × Obj) → Prop) (hh : A.handled = none)
    (h : wpAny (model prog w) A (eval iter env) (fun xv s₁ => ∃ (r : Addr) (n : Nat) (t u v : Tok) (m₀ : Str → Option Value) (news₀ : List (Addr × Obj)), xv = .ref r ∧ IsRange s₁.heap r 0 (n : Int) 1 t u v ∧ n ≤ 1000 ∧ Fr h₀ L s₁.heap m₀ ∧ News h₀ L s₁.heap news₀ ∧ J 0 m₀ news₀ ∧
      (∀ (i : Nat) (I : Addr) (it : Obj) m₁ news₁ h tk tv, i < n → J i m₁ news₁ → Fr h₀ L h m₁ → News h₀ L h ((I, it) :: news₁) → (∀ p ∈ news₁, p.1 ≠ I) → (∃ a b c, it.data = .fields #[rawInt a, rawInt b, rawInt c]) →
        ∀ Qt : Flow → Shared → Prop, (∀ s₂, TurnEnd h₀ L I it (J (i + 1)) { s₁ with heap := h, toks := tk } s₂ → Qt .next s₂) →
        wpAny (model prog w) A (assign (.Name x px) env (.int (i : Int) tv)) (fun _ s₂ => wpAny (model prog w) A (execs body env) Qt (fun _ _ => False) s₂) (fun _ _ => False) { s₁ with heap := h, toks := tk }) ∧
      (∀ m' news' h tk, J n m' news' → Fr h₀ L h m' → News h₀ L h news' → Q .next { s₁ with heap := h, toks := tk })) (fun _ _ => False) s)
    (hs : ∀ v, foldedSetIterable iter env v = pure v := by intro _; rfl) :
    wpAny (model prog w) A (exec (.For (.Name x px) iter body [] pos) env) Q (fun _ _ => False) s := by
  refine wpAny_For (wpAny_mono h (fun xv s₁ h₁ => ?_) fun _ _ e => e) hs
  obtain ⟨r, n, t, u, v, m₀, news₀, rfl, hr, hn, F, N, hJ, turn, done⟩ := h₁
  have hsm : Builtin.Range.small 0 (n : Int) 1 = true := small_one (by omega) (by omega) (by omega) (by omega)
  have hrs : Builtin.Range.rangeSize 0 (n : Int) 1 = (n : Int) := by rw [rangeSize_one]; split <;> omega
  refine wpAny_pyIter_range hr hsm ?_
  rw [hrs]
  have W := Walks.range (prog := prog) (w := w) hh s₁.heap.objs.size 0 1 n
  have hIL : L ≠ s₁.heap.objs.size := Nat.ne_of_lt F.ns.lt
  have hI0 : h₀.get? s₁.heap.objs.size = none := Heap.get?_none_of_le (Nat.le_trans F.above (Nat.le_of_lt F.ns.lt))
  have hst0 : IsRangeIter (s₁.heap.push { cls := .type "range_iterator", data := .fields #[rawInt 0, rawInt (n : Int), rawInt 1] }) s₁.heap.objs.size ((0 : Int) + ((0 : Nat) : Int) * 1) ((n : Int) - ((0 : Nat) : Int)) 1 := by
    have e1 : (0 : Int) + ((0 : Nat) : Int) * 1 = 0 := by omega
    have e2 : (n : Int) - ((0 : Nat) : Int) = n := by omega
    rw [e1, e2]
    exact Heap.get?_push_size _ rfl
  refine codeAny_forLoop (fun k s' => ∃ h' tk m' news' i, s' = { s₁ with heap := h', toks := tk } ∧ IsRangeIter h' s₁.heap.objs.size ((0 : Int) + ((i : Nat) : Int) * 1) ((n : Int) - ((i : Nat) : Int)) 1 ∧ Fr h₀ L h' m' ∧ News h₀ L h' news' ∧ (∀ p ∈ news', p.1 ≠ s₁.heap.objs.size) ∧
    J i m' news' ∧ i ≤ n ∧ k = n + 1 - i) ?_ (n + 1) ⟨_, s₁.toks, m₀, news₀, 0, rfl, hst0, F.push _, fun p hp => ⟨Heap.get?_push_of_some _ (N p hp).1, (N p hp).2⟩, fun p hp => Nat.ne_of_lt (Heap.lt_size (N p hp).1), hJ, Nat.zero_le _, rfl⟩
  rintro k s' ⟨H, tk, m', news', i, rfl, hst, F', N', hoff, hJ', hi, rfl⟩
  refine wpAny_noRaise ?_
  have next : ∀ h₁ : Heap, (∀ b o, b ≠ s₁.heap.objs.size → H.get? b = some o → h₁.get? b = some o) → Fr h₀ L h₁ m' ∧ News h₀ L h₁ news' := fun h₁ hk₁ =>
    ⟨⟨F'.ns.at' fun o e => hk₁ _ o hIL e, fun b o e => hk₁ b o (fun q => by rw [q, hI0] at e; cases e) (F'.keep b o e), F'.above⟩, fun p hp => ⟨hk₁ _ _ (hoff p hp) (N' p hp).1, (N' p hp).2⟩⟩
  by_cases hlt : i < n
  · refine W.item i _ _ _ hlt hst fun v h₁ tk₁ hP hst₁ hk₁ => ?_
    obtain ⟨tv, rfl⟩ := hP
    obtain ⟨F₁, N₁⟩ := next h₁ fun b o hb e => hk₁ b o (by simpa using hb) e
    rw [show (0 : Int) + (i : Int) * 1 = (i : Int) by omega]
    have hst₁' : h₁.get? s₁.heap.objs.size = some { cls := .type "range_iterator", dict := none, data := .fields #[rawInt ((0 : Int) + ((i + 1 : Nat) : Int) * 1), rawInt ((n : Int) - ((i + 1 : Nat) : Int)), rawInt 1], slots := #[] } := hst₁
    have N₁' : News h₀ L h₁ ((s₁.heap.objs.size, { cls := .type "range_iterator", dict := none, data := .fields #[rawInt ((0 : Int) + ((i + 1 : Nat) : Int) * 1), rawInt ((n : Int) - ((i + 1 : Nat) : Int)), rawInt 1], slots := #[] }) :: news') := fun p hp => by
      rcases List.mem_cons.mp hp with rfl | hp
      · exact ⟨hst₁', hIL.symm, hI0⟩
      · exact N₁ p hp
    refine wpAny_mono (turn i s₁.heap.objs.size _ m' news' h₁ tk₁ tv hlt hJ' F₁ N₁' hoff ⟨_, _, _, rfl⟩
      (fun f s₃ => match f with | .next | .cont => ∃ m, m < n + 1 - i ∧ ∃ h' tk m' news' i, s₃ = { s₁ with heap := h', toks := tk } ∧ IsRangeIter h' s₁.heap.objs.size ((0 : Int) + ((i : Nat) : Int) * 1) ((n : Int) - ((i : Nat) : Int)) 1 ∧ Fr h₀ L h' m' ∧ News h₀ L h' news' ∧ (∀ p ∈ news', p.1 ≠ s₁.heap.objs.size) ∧ J i m' news' ∧ i ≤ n ∧ m = n + 1 - i | .brk => Q .next s₃ | .ret v => Q (.ret v) s₃)
      (fun s₂ hT => ?_)) (fun _ s₂ h₂ => wpAny_mono h₂ (fun f s₃ h₃ => ?_) fun _ _ x => x.elim) fun _ _ x => x.elim
    · obtain ⟨h', tk', m₂, news₂, rfl, F₂, N₂, hoff₂, hJ₂⟩ := hT
      exact ⟨n + 1 - (i + 1), by omega, h', tk', m₂, news₂, i + 1, rfl, (N₂ _ (.head _)).1, F₂, fun p hp => N₂ p (.tail _ hp), hoff₂, hJ₂, hlt, rfl⟩
    · cases f <;> exact h₃
  · have hin : i = n := by omega
    subst hin
    refine W.done _ _ _ hst fun h₁ tk₁ hk₁ => wpAny_execs_nil ?_
    obtain ⟨F₁, N₁⟩ := next h₁ fun b o hb e => hk₁ b o (by simpa using hb) e
    exact done m' news' h₁ tk₁ hJ' F₁ N₁
end
end Mine
end
section
namespace Mine
open PySem PySem.W PyProof.Rows PySem.Calls
/-! The parts of comprehensions, in their own frame. -/
section
variable {prog : Program} {w : World} {A : Around} {E : Value → Shared → Prop} {s : Shared} {env : Env} {m mg mb : Str → Option Value} {x y z : Str} {p p1 p2 p3 p4 p5 p6 p7 p8 p9 p10 pos : Pos} {v : Value} {Q : Value → Shared → Prop}
/-- a name's value, whatever is asked of it -/
def NameIs (prog : Program) (w : World) (A : Around) (env : Env) (x : Str) (v : Value) (s : Shared) : Prop := ∀ (p : Pos) (Q E : Value → Shared → Prop), Q v s → wpAny (model prog w) A (eval (.Name x p) env) Q E s
theorem NameIs.loc (hk : env.scope.kind = .function) (hl : env.kindOf x = some .local) (hn : s.heap.Ns env.locals m) (hm : m x = some v) (hd : (x == ("__debug__" : Str)) = false) : NameIs prog w A env x v s :=
  fun _ _ _ h => wpAny_Name (wpAny_loadName_local hk hl hn hm h) hd
theorem NameIs.cel {c : Addr} (hk : env.scope.kind = .function) (hl : env.kindOf x = some .cell) (hc : env.cells.lookup x = some c) (ho : ∃ o, s.heap.get? c = some o ∧ o.data = .cell (some v)) (hd : (x == ("__debug__" : Str)) = false) : NameIs prog w A env x v s :=
  fun _ _ _ h => wpAny_Name (wpAny_loadName_cell hk hl hc ho h) hd
theorem NameIs.glob (hk : env.scope.kind = .function) (hl : env.kindOf x = some .globalImplicit) (hg : s.heap.Ns env.globals mg) (hv : mg x = some v) (hd : (x == ("__debug__" : Str)) = false) : NameIs prog w A env x v s :=
  fun _ _ _ h => Name_function_global hk hl (loadGlobal_global hg hv h) hd
theorem NameIs.boot (hk : env.scope.kind = .function) (hl : env.kindOf x = some .globalImplicit) (hg : s.heap.Ns env.globals mg) (hn : mg x = none) (hb : s.heap.Ns env.builtins mb) (hv : mb x = some v) (hd : (x == ("__debug__" : Str)) = false) : NameIs prog w A env x v s :=
  fun _ _ _ h => Name_function_global hk hl (loadGlobal_builtin hg hn hb hv h) hd
/-- f(x) -/
theorem el_call1 {a : Addr} (hf : NameIs prog w A env x (.ref a) s) (hx : NameIs prog w A env y v s) (hfn : FnAt a s.heap) (h : wpAny (model prog w) A (call (.ref a) [v]) Q E s) :
    wpAny (model prog w) A (eval (.Call (.Name x p1) [.Name y p2] [] pos) env) Q E s :=
  Call_ (hf _ _ _ (callWith_F (first := []) hfn (spliced_more (hx _ _ _ (spliced_none ⟨hfn, h⟩)))))
/-- f(x, y, z) -/
theorem el_call3 {a : Addr} {f : Str} {v1 v2 v3 : Value} (hf : NameIs prog w A env f (.ref a) s) (h1 : NameIs prog w A env x v1 s) (h2 : NameIs prog w A env y v2 s) (h3 : NameIs prog w A env z v3 s) (hfn : FnAt a s.heap) (h : wpAny (model prog w) A (call (.ref a) [v1, v2, v3]) Q E s) :
    wpAny (model prog w) A (eval (.Call (.Name f p) [.Name x p1, .Name y p2, .Name z p3] [] pos) env) Q E s :=
  Call_ (hf _ _ _ (callWith_F (first := []) hfn (spliced_more (h1 _ _ _ (spliced_more (h2 _ _ _ (spliced_more (h3 _ _ _ (spliced_none ⟨hfn, h⟩)))))))))
/-- row[system] -/
theorem el_sub {r : Addr} {its : Array Value} {k : Nat} {t : Tok} (hx : NameIs prog w A env x (.ref r) s) (hy : NameIs prog w A env y (.int (k : Int) t) s) (hl : s.heap.IsList r its) (hk : k < 1000) (hv : its[k]? = some v) (h : Q v s) :
    wpAny (model prog w) A (eval (.Subscript (.Name x p1) (.Name y p2) pos) env) Q E s := by
  refine Subscript_ (hx _ _ _ (hy _ _ _ ?_))
  exact tail_any hl.typeIs slot_list_getitem.lookup (wpAny_getItem_list hl (by omega) (by omega) (by simpa using hv) h) (by with_unfolding_all rfl)
/-- (x, y) -/
theorem el_tup {i j : Int} {ti tj : Tok} {k : Nat} (hx : NameIs prog w A env x (.int i ti) s) (hy : NameIs prog w A env y (.int j tj) s) (h : ∀ T o h', Sub s.heap h' → s.heap.get? T = none → TupP o i j → h'.get? T = some o → Q (.ref T) { s with heap := h' }) :
    wpAny (model prog w) A (eval (.Tuple [.Name x p1, .Name y p2] k pos) env) Q E s := by
  refine Tuple_ (spliced_more (hx _ _ _ (spliced_more (hy _ _ _ (spliced_none ?_)))))
  refine wpAny_newTuple ?_ (by rw [sizeLine_eq]; exact Nat.le_of_ble_eq_true rfl)
  exact h _ _ _ (fun b o e => Heap.get?_push_of_some _ e) (Heap.get?_none_of_le (Nat.le_refl _)) ⟨ti, tj, _, rfl⟩ (Heap.get?_push_size _ rfl)
/-- range(x + 1, y) -/
theorem el_rng {a b : Int} {t u : Tok} {rn : Str} (hf : NameIs prog w A env rn (.type "range") s) (hx : NameIs prog w A env x (.int a t) s)
    (hy : ∀ tk, NameIs prog w A env y (.int b u) { s with toks := tk }) (h : ∀ r t' u' v' h' tk, Sub s.heap h' → IsRange h' r (a + 1) b 1 t' u' v' → Q (.ref r) { s with heap := h', toks := tk }) :
    wpAny (model prog w) A (eval (.Call (.Name rn p1) [.BinOp (.Name x p2) .Add (.Constant (.int 1) 0 p3) p4, .Name y p5] [] pos) env) Q E s := by
  refine Call_ (hf _ _ _ (PyProof.Rows.callWith_type1 (spliced_more (wpAny_BinOp (hx _ _ _ (wpAny_Constant_int (add_int ?_)))))))
  refine spliced_more (hy _ _ _ _ (spliced_none ?_))
  exact call_range_2 (h _ _ _ _ _ _ (fun b o e => Heap.get?_push_of_some _ e) (Heap.get?_push_size _ rfl))
/-- [x % 9, x // 9 % 9, x // 81] -/
theorem el_spot {a : Int} {t : Tok} (hx : ∀ tk, NameIs prog w A env x (.int a t) { s with toks := tk }) (h : ∀ T its h' tk, Sub s.heap h' → s.heap.get? T = none → h'.IsList T its → IntsAre its.toList [red a, green a, blue a] → Q (.ref T) { s with heap := h', toks := tk }) :
    wpAny (model prog w) A (eval (.List [.BinOp (.Name x p1) .Mod (.Constant (.int 9) 0 p2) p3, .BinOp (.BinOp (.Name x p4) .FloorDiv (.Constant (.int 9) 0 p5) p6) .Mod (.Constant (.int 9) 0 p7) p8, .BinOp (.Name x p9) .FloorDiv (.Constant (.int 81) 0 p) p10] pos) env) Q E s := by
  refine List_ (spliced_more (wpAny_BinOp (hx s.toks _ _ _ (wpAny_Constant_int (mod_int (by decide) ?_)))))
  refine spliced_more (wpAny_BinOp (wpAny_BinOp (hx _ _ _ _ (wpAny_Constant_int (fdiv_small (by decide) (wpAny_Constant_int (mod_int (by decide) ?_)))))))
  refine spliced_more (wpAny_BinOp (hx _ _ _ _ (wpAny_Constant_int (fdiv_small (by decide) (spliced_none ?_)))))
  refine wpAny_newList ?_ (by rw [sizeLine_eq]; exact Nat.le_of_ble_eq_true rfl)
  exact h _ _ _ _ (fun b o e => Heap.get?_push_of_some _ e) (Heap.get?_none_of_le (Nat.le_refl _)) ⟨_, Heap.get?_push_size _ rfl, rfl, _, rfl⟩ (.cons _ _ (.cons _ _ (.cons _ _ .nil)))
end
end Mine
end
section
namespace Mine
open PySem PySem.W PyProof.Rows PySem.Calls
/-! Rows: lists of the ledger, one for each number. -/
def RowIs (P : Array Value → Prop) (q : Addr × Obj) : Prop := q.2.cls = .type "list" ∧ ∃ its n, q.2.data = .seq its n ∧ P its
abbrev RowsAre (P : Int → Array Value → Prop) (ns : List Int) (rows : List (Addr × Obj)) : Prop := Paired (fun k q => RowIs (P k) q) ns rows
theorem paired_mem {α β : Type} {R : α → β → Prop} : ∀ {l : List α} {r : List β}, Paired R l r → ∀ b ∈ r, ∃ a ∈ l, R a b
  | _, _, .nil, _, h => by cases h
  | _, _, .cons h t, b, hb => by
    rcases List.mem_cons.mp hb with rfl | hb
    · exact ⟨_, .head _, h⟩
    · obtain ⟨a, ha, hr⟩ := paired_mem t b hb
      exact ⟨a, .tail _ ha, hr⟩
theorem ints_fun : ∀ {vs : List Value} {ns ms : List Int}, IntsAre vs ns → IntsAre vs ms → ns = ms
  | _, _, _, .nil, .nil => rfl
  | _, _, _, .cons _ _ h, .cons _ _ h' => by rw [ints_fun h h']
section
variable {prog : Program} {w : World} {A : Around} {s : Shared} {env : Env} {h₀ : Heap} {L : Addr} {m : Str → Option Value} {news : List (Addr × Obj)}
theorem rows_of {G : Value → Array Value → Prop} {h h' : Heap} (F : Fr h₀ L h m) (N : News h₀ L h news) : ∀ {vs ys : List Value}, Paired (LstIs h G h') vs ys → ∃ rows, ys = refsOfT rows ∧ Paired (fun v q => RowIs (G v) q) vs rows ∧ ∀ q ∈ rows, h'.get? q.1 = some q.2 ∧ q.1 ≠ L ∧ h₀.get? q.1 = none
  | _, _, .nil => ⟨[], rfl, .nil, fun _ hq => nomatch hq⟩
  | _, _, .cons hv t => by
    obtain ⟨rows, e, hp, hq⟩ := rows_of F N t
    obtain ⟨T, its, rfl, hT, ⟨o, ho, hc, n, hd⟩, hG⟩ := hv
    obtain ⟨a, b, _⟩ := fresh_off F N hT
    refine ⟨(T, o) :: rows, by rw [e]; rfl, .cons ⟨hc, its, n, hd, hG⟩ hp, fun q hq' => ?_⟩
    rcases List.mem_cons.mp hq' with rfl | hq'
    · exact ⟨ho, a, b⟩
    · exact hq q hq'
/-- y = [elt for x in z]: each element a new list -/
theorem comp_rows {elt : Expr} {x y z : Str} {px py pz : Pos} {scope : Scope} {cl : List (Str × Addr)} {pos spos : Pos} {l : Addr} {items : Array Value} {Q : Flow → Shared → Prop} (G : Value → Array Value → Prop) (hh : A.handled = none) (hL : env.locals = L)
    (F : Fr h₀ L s.heap m) (N : News h₀ L s.heap news) (hz : NameIs prog w A env z (.ref l) s) (hl : s.heap.IsList l items) (hsz : items.size ≤ 1000)
    (hsw : swapsWith (.ListComp elt [⟨.Name x px, .Name z pz, [], 0⟩] scope pos) (some (.Name y py)) spos.line env = pure true)
    (hclos : closureFor scope env = pure cl) (hcell : ∀ z ∈ scope.names, z.2 ≠ .cell) (hkind : scope.kind = .function)
    (hnames : ∀ z ∈ scope.names, z.2 = .local → scope.names.lookup z.1 = some .local) (hx : scope.names.lookup x = some .local)
    (hy : env.kindOf y = some .local) (hp : (env.scope.kind == .class || (env.scope.kind == .module && env.locals != env.globals)) = false)
    (helt : ∀ C v s₃ m₃, v ∈ items.toList → s.heap.objs.size < C → s₃.heap.Ns C m₃ → m₃ x = some v → Sub s.heap s₃.heap →
      wpAny (model prog w) A (eval elt (compEnvC scope cl C env)) (fun y s₄ => (∃ T its, y = .ref T ∧ s₃.heap.get? T = none ∧ s₄.heap.IsList T its ∧ G v its) ∧ Keeps s₃ s₄) (fun _ _ => False) s₃)
    (h : ∀ D h' tk rows e, Fr h₀ L h' (fun z => if z = y then some (.ref D) else m z) → News h₀ L h' ((D, listOf (List.toArray (refsOfT rows)) e) :: (rows ++ news)) → Paired (fun v q => RowIs (G v) q) items.toList rows → Q .next { s with heap := h', toks := tk })
    (hs : ∀ x, foldedSetIterable (.Name z pz) env x = pure x := by intro _; rfl) :
    wpAny (model prog w) A (exec (.Assign [.Name y py] (.ListComp elt [⟨.Name x px, .Name z pz, [], 0⟩] scope pos) spos) env) Q (fun _ _ => False) s := by
  subst hL
  refine comp_listO G hh hsw hclos hcell hkind hnames hx hy hp (hz _ _ _ ⟨l, items, m, rfl, hl, by rw [sizeLine_eq]; omega, F.ns, helt, fun D h' tk ys hD hpl hP hn hk => ?_⟩) hs
  have hL0 : h₀.get? env.locals = none := Heap.get?_none_of_le F.above
  have F' : Fr h₀ env.locals h' (fun z => if z = y then some (.ref D) else m z) := ⟨hn, fun b o e => hk b o (fun q => by rw [q, hL0] at e; cases e) (F.keep b o e), F.above⟩
  obtain ⟨rows, e, hr, hq⟩ := rows_of F N hP
  obtain ⟨n, hD'⟩ := hpl
  obtain ⟨a, b, _⟩ := fresh_off F N hD
  have ey : ys = List.toArray (refsOfT rows) := by rw [← e]
  refine h D h' tk rows n F' (fun q hq' => ?_) hr
  simp only [List.mem_cons, List.mem_append] at hq'
  rcases hq' with rfl | hq' | hq'
  · exact ⟨by rw [hD', ey], a, b⟩
  · exact hq q hq'
  · exact ⟨hk _ _ (N q hq').2.1 (N q hq').1, (N q hq').2⟩
theorem col_back {rows : List (Addr × Obj)} {k : Nat} {h : Heap} (N : News h₀ L h news) (hrows : ∀ q ∈ rows, q ∈ news) : ∀ {r : List (Addr × Obj)} {ys : List Value}, Paired (fun v u => ∃ q ∈ rows, v = Value.ref q.1 ∧ ∃ its n, q.2.data = .seq its n ∧ its[k]? = some u) (refsOfT r) ys → (∀ q ∈ r, q ∈ rows) →
      Paired (fun q v => ∃ its n, q.2.data = .seq its n ∧ its[k]? = some v) r ys := by
  intro r
  induction r with
  | nil => intro ys hp _; cases hp; exact .nil
  | cons a r ih =>
    intro ys hp hr
    cases hp with
    | cons h1 h2 =>
      obtain ⟨q, hq, e, its, n, hd, hu⟩ := h1
      have ea : a.1 = q.1 := by injection e
      have e1 := (N q (hrows q hq)).1
      have e2 := (N a (hrows a (hr a (.head _)))).1
      rw [ea, e1] at e2
      refine .cons ⟨its, n, ?_, hu⟩ (ih h2 fun q hq => hr q (.tail _ hq))
      rw [← Option.some.inj e2]; exact hd
/-- [row[k] for row in z] -/
theorem comp_col {x y z : Str} {px p1 p2 p3 pz : Pos} {scope : Scope} {cl : List (Str × Addr)} {pos : Pos} {l : Addr} {rows : List (Addr × Obj)} {e k c : Nat} {t : Tok} {Q : Value → Shared → Prop} (hh : A.handled = none)
    (hz : NameIs prog w A env z (.ref l) s) (F : Fr h₀ L s.heap m) (N : News h₀ L s.heap news) (hl : (l, listOf (List.toArray (refsOfT rows)) e) ∈ news) (hrows : ∀ q ∈ rows, q ∈ news) (hlen : rows.length ≤ 1000) (hk : k < 1000)
    (hrow : ∀ q ∈ rows, q.2.cls = .type "list" ∧ ∃ its n v, q.2.data = .seq its n ∧ its[k]? = some v)
    {oc : Obj} (hc : ((c : Addr), oc) ∈ news) (hoc : oc.data = .cell (some (.int (k : Int) t)))
    (hclos : closureFor scope env = pure cl) (hcell : ∀ z ∈ scope.names, z.2 ≠ .cell) (hkind : scope.kind = .function)
    (hnames : ∀ z ∈ scope.names, z.2 = .local → scope.names.lookup z.1 = some .local) (hx : scope.names.lookup x = some .local)
    (hy : ∀ C, (compEnvC scope cl C env).kindOf y = some .cell) (hcl : cl.lookup y = some c) (hdx : (x == ("__debug__" : Str)) = false) (hdy : (y == ("__debug__" : Str)) = false)
    (h : ∀ D h' tk ys e, Fr h₀ L h' m → News h₀ L h' ((D, listOf (List.toArray ys) e) :: news) → (∀ q ∈ news, q.1 ≠ D) → Paired (fun q v => ∃ its n, q.2.data = .seq its n ∧ its[k]? = some v) rows ys → Q (.ref D) { s with heap := h', toks := tk })
    (hs : ∀ x, foldedSetIterable (.Name z pz) env x = pure x := by intro _; rfl) :
    wpAny (model prog w) A (eval (.ListComp (.Subscript (.Name x p1) (.Name y p2) p3) [⟨.Name x px, .Name z pz, [], 0⟩] scope pos) env) Q (fun _ _ => False) s := by
  have hll : s.heap.IsList l (List.toArray (refsOfT rows)) := ⟨_, (N _ hl).1, rfl, _, rfl⟩
  refine comp_list (fun v u => ∃ q ∈ rows, v = .ref q.1 ∧ ∃ its n, q.2.data = .seq its n ∧ its[k]? = some u) hh hclos hcell hkind hnames hx (hz _ _ _ ⟨l, _, rfl, hll, by simp only [List.size_toArray, refsOfT, List.length_map, sizeLine_eq]; omega, ?_, ?_⟩) hs
  · intro C v s₃ m₃ hv hC hn hm hS
    have hv' : v ∈ refsOfT rows := by simpa using hv
    obtain ⟨q, hq, rfl⟩ := List.mem_map.mp hv'
    obtain ⟨hcl1, its, n, u, hd, hu⟩ := hrow q hq
    have hq3 := hS _ _ (N q (hrows q hq)).1
    refine el_sub (k := k) (t := t) (NameIs.loc hkind (lookup_relabel_local hx) hn hm hdx) (NameIs.cel hkind (hy C) hcl ⟨oc, hS _ _ (N _ hc).1, hoc⟩ hdy) ⟨q.2, hq3, hcl1, n, hd⟩ hk hu ?_
    exact ⟨⟨q, hq, rfl, its, n, hd, hu⟩, s₃.heap, s₃.toks, rfl, fun _ _ e => e⟩
  · intro D h' tk ys hD hpl hP hS
    obtain ⟨n, hD'⟩ := hpl
    have hP' : Paired (fun q v => ∃ its n, q.2.data = .seq its n ∧ its[k]? = some v) rows ys.toList := by
      have : Paired (fun v u => ∃ q ∈ rows, v = .ref q.1 ∧ ∃ its n, q.2.data = .seq its n ∧ its[k]? = some u) (refsOfT rows) ys.toList := by simpa using hP
      exact col_back N hrows this fun q hq => hq
    refine h D h' tk ys.toList n (fr_sub F hS) (fun q hq => ?_) (fresh_off F N hD).2.2 hP'
    rcases List.mem_cons.mp hq with rfl | hq
    · obtain ⟨a, b, _⟩ := fresh_off F N hD
      exact ⟨by simpa using hD', a, b⟩
    · exact news_sub N hS q hq
end
end Mine
end
section
namespace Mine
open PySem PySem.W PyProof.Rows PySem.Calls
/-- the numbers of the row -/
structure NumsOk (ns : List Int) : Prop where
  one : 1 ≤ ns.length
  eight : ns.length ≤ 8
  small : ∀ x ∈ ns, 0 ≤ x ∧ x < 729
def spotOf (k : Int) : Int × Int × Int := (red k, green k, blue k)
theorem spot_of {k : Int} (h : 0 ≤ k ∧ k < 729) : Spot (spotOf k) := by
  unfold spotOf Spot red green blue
  have h9 : Int.fmod k 9 = k % 9 := by rw [Int.fmod_eq_emod_of_nonneg _ (by decide)]
  have d9 : Int.fdiv k 9 = k / 9 := by rw [Int.fdiv_eq_ediv_of_nonneg _ (by decide)]
  have d81 : Int.fdiv k 81 = k / 81 := by rw [Int.fdiv_eq_ediv_of_nonneg _ (by decide)]
  have h99 : Int.fmod (k / 9) 9 = k / 9 % 9 := by rw [Int.fmod_eq_emod_of_nonneg _ (by decide)]
  simp only [h9, d9, d81, h99]
  omega
abbrev SpotP (k : Int) (its : Array Value) : Prop := IntsAre its.toList [red k, green k, blue k]
abbrev ToldP (k : Int) (its : Array Value) : Prop := FloatsAre its.toList (toldS (spotOf k))
abbrev WholeP (k : Int) (its : Array Value) : Prop := IntsAre its.toList (wholeS (spotOf k))
/-- what a row made of the row of spots says -/
def MadeOf (rows : List (Addr × Obj)) (T : Int → Array Value → Prop) (v : Value) (its : Array Value) : Prop := ∀ q ∈ rows, v = Value.ref q.1 → ∀ k, RowIs (SpotP k) q → T k its
theorem made_up {rows : List (Addr × Obj)} {T : Int → Array Value → Prop} : ∀ {r rT : List (Addr × Obj)} {ns : List Int}, RowsAre SpotP ns r → Paired (fun v q => RowIs (MadeOf rows T v) q) (refsOfT r) rT → (∀ q ∈ r, q ∈ rows) → RowsAre T ns rT
  | _, _, _, .nil, hp, _ => by cases hp; exact .nil
  | _, _, _, .cons (b := q) h t, hp, hr => by
    cases hp with
    | cons h1 h2 =>
      obtain ⟨hc, its, n, hd, hG⟩ := h1
      exact .cons ⟨hc, its, n, hd, hG q (hr q (.head _)) rfl _ h⟩ (made_up t h2 fun q' hq => hr q' (.tail _ hq))
theorem floats_map {k : Nat} : ∀ {ns : List Int} {rows : List (Addr × Obj)} {ys : List Value}, RowsAre ToldP ns rows → Paired (fun q v => ∃ its n, q.2.data = .seq its n ∧ its[k]? = some v) rows ys → k < 4 → FloatsAre ys (ns.map fun j => (toldS (spotOf j)).getD k 0)
  | _, _, _, .nil, hp, _ => by cases hp; exact .nil
  | _, _, _, .cons (a := a) h t, hp, hk => by
    cases hp with
    | cons h1 h2 =>
      obtain ⟨_, its, n, hd, hF⟩ := h
      obtain ⟨its', n', hd', hv⟩ := h1
      rw [hd] at hd'
      cases hd'
      have hlt : k < (toldS (spotOf a)).length := hk
      obtain ⟨t', e⟩ := hF.get k _ (List.getElem?_eq_getElem hlt)
      rw [Array.getElem?_toList, hv] at e
      cases e
      have e9 : (toldS (spotOf a)).getD k 0 = (toldS (spotOf a))[k] := by rw [List.getD_eq_getElem?_getD, List.getElem?_eq_getElem hlt]; rfl
      rw [List.map_cons, e9]
      exact .cons _ _ (floats_map t h2 hk)
theorem ints_col {k : Nat} : ∀ {ns : List Int} {rows : List (Addr × Obj)} {ys : List Value}, RowsAre WholeP ns rows → Paired (fun q v => ∃ its n, q.2.data = .seq its n ∧ its[k]? = some v) rows ys → k < 4 → IntsAre ys (ns.map fun j => (wholeS (spotOf j)).getD k 0)
  | _, _, _, .nil, hp, _ => by cases hp; exact .nil
  | _, _, _, .cons (a := a) h t, hp, hk => by
    cases hp with
    | cons h1 h2 =>
      obtain ⟨_, its, n, hd, hF⟩ := h
      obtain ⟨its', n', hd', hv⟩ := h1
      rw [hd] at hd'
      cases hd'
      have hlt : k < (wholeS (spotOf a)).length := hk
      obtain ⟨t', e⟩ := hF.get k _ (List.getElem?_eq_getElem hlt)
      rw [Array.getElem?_toList, hv] at e
      cases e
      have e9 : (wholeS (spotOf a)).getD k 0 = (wholeS (spotOf a))[k] := by rw [List.getD_eq_getElem?_getD, List.getElem?_eq_getElem hlt]; rfl
      rw [List.map_cons, e9]
      exact .cons _ _ (ints_col t h2 hk)
theorem row_has {T : Int → Array Value → Prop} {k : Nat} (hT : ∀ j its, T j its → ∃ v, its[k]? = some v) {ns : List Int} {rows : List (Addr × Obj)} (h : RowsAre T ns rows) : ∀ q ∈ rows, q.2.cls = .type "list" ∧ ∃ its n v, q.2.data = .seq its n ∧ its[k]? = some v := fun q hq => by
  obtain ⟨j, _, hc, its, n, hd, ht⟩ := paired_mem h q hq
  obtain ⟨v, hv⟩ := hT j its ht
  exact ⟨hc, its, n, v, hd, hv⟩
theorem told_has {k : Nat} (hk : k < 4) (j : Int) (its : Array Value) (h : ToldP j its) : ∃ v, its[k]? = some v := by
  have hl := h.length
  have h4 : its.size = 4 := by rw [← Array.length_toList, hl]; rfl
  exact ⟨its[k], by rw [Array.getElem?_eq_getElem (by omega)]⟩
theorem whole_has {k : Nat} (hk : k < 4) (j : Int) (its : Array Value) (h : WholeP j its) : ∃ v, its[k]? = some v := by
  have hl := h.length
  have h4 : its.size = 4 := by rw [← Array.length_toList, hl]; rfl
  exact ⟨its[k], by rw [Array.getElem?_eq_getElem (by omega)]⟩
/-! What the law compares, in plain lists. -/
section
variable {ns : List Int} {i : Nat}
/-- the told floats, the whole numbers, of a system -/
def toldX (ns : List Int) (i : Nat) : List UInt64 := ns.map fun j => (toldS (spotOf j)).getD i 0
def oursX (ns : List Int) (i : Nat) : List Int := ns.map fun j => (wholeS (spotOf j)).getD i 0
def oursF (ns : List Int) (i : Nat) (k : Int) : Int := (oursX ns i).getD k.toNat 0
theorem more_less (h : NumsOk ns) (hi : i < 4) {p q : Int} (hp : p ∈ natInts ns.length) (hq : q ∈ natInts ns.length) : moreX (toldX ns i) p q = lessBy (oursF ns i) p q := by
  have hp' := natInts_mem.mp hp
  have hq' := natInts_mem.mp hq
  have lp : p.toNat < ns.length := by omega
  have lq : q.toNat < ns.length := by omega
  have e1 : ∀ j, j < ns.length → (toldX ns i).getD j f0 = (toldS (spotOf (ns.getD j 0))).getD i 0 := fun j hj => by simp [toldX, hj]
  have e2 : ∀ j, j < ns.length → (oursX ns i).getD j 0 = (wholeS (spotOf (ns.getD j 0))).getD i 0 := fun j hj => by simp [oursX, hj]
  have hm : ∀ j, j < ns.length → ns.getD j 0 ∈ ns := fun j hj => by
    rw [List.getD_eq_getElem?_getD, List.getElem?_eq_getElem hj]; exact List.getElem_mem hj
  unfold moreX lessBy oursF
  rw [e1 _ lp, e1 _ lq, e2 _ lp, e2 _ lq]
  exact told_law (spot_of (h.small _ (hm _ lp))) (spot_of (h.small _ (hm _ lq))) i hi
theorem laidF_congr {f g : Int → Int → Bool} {l : List Int} (h : ∀ p ∈ l, ∀ q ∈ l, f p q = g p q) : ∀ (n : Nat) (ps : List Int), (∀ p ∈ ps, p ∈ l) → laidF f n ps = laidF g n ps
  | 0, _, _ => rfl
  | _ + 1, [], _ => rfl
  | n + 1, p :: ps, hs => by
    have e1 : (ps.filter fun q => f p q) = ps.filter fun q => g p q := List.filter_congr fun q hq => by rw [h p (hs p (.head _)) q (hs q (.tail _ hq))]
    have e2 : (ps.filter fun q => !f p q) = ps.filter fun q => !g p q := List.filter_congr fun q hq => by rw [h p (hs p (.head _)) q (hs q (.tail _ hq))]
    simp only [laidF, e1, e2, laidF_congr h n _ fun q hq => hs q (.tail _ (List.mem_filter.mp hq).1)]
theorem natInts_rise (n : Nat) : (natInts n).Pairwise (· < ·) := by
  unfold natInts
  rw [List.pairwise_map]
  exact List.pairwise_lt_range.imp fun h => by omega
/-- the laying is the sorted order -/
theorem laid_sorted (h : NumsOk ns) (hi : i < 4) {ks : List Int} (hp : ks.Perm (natInts ns.length)) (hs : ks.Pairwise (Lx (oursF ns i))) : (laidF (moreX (toldX ns i)) 8 (natInts ns.length)).1 = ks := by
  have hl : (natInts ns.length).length ≤ 8 := by rw [natInts_length]; exact h.eight
  rw [laidF_congr (g := lessBy (oursF ns i)) (fun p hp q hq => more_less h hi hp hq) 8 _ fun p hp => hp]
  refine rising_eq (lt := Lx (oursF ns i)) (fun a h => ?_) (fun a b h1 h2 => ?_) (laidF_sorted 8 _ hl (natInts_rise _)) hs fun x => ?_
  · unfold Lx at h; omega
  · unfold Lx at h1 h2; omega
  · rw [laidF_mem 8 _ hl, hp.mem_iff]
theorem rowP_mem {met : Int → Int → Bool} {i a : Int} {n : Nat} {p : Int × Int} : p ∈ rowP met i a n ↔ p.1 = i ∧ a ≤ p.2 ∧ p.2 < a + n ∧ met i p.2 = true := by
  unfold rowP
  simp only [List.mem_map, List.mem_filter, List.mem_range]
  constructor
  · rintro ⟨k, ⟨⟨t, ht, rfl⟩, hm⟩, rfl⟩
    exact ⟨rfl, by simp; omega, by simp; omega, hm⟩
  · rintro ⟨rfl, h1, h2, h3⟩
    exact ⟨p.2, ⟨⟨(p.2 - a).toNat, by omega, by omega⟩, h3⟩, rfl⟩
theorem rowsP_mem {met : Int → Int → Bool} {n : Nat} {p : Int × Int} : p ∈ rowsP met n n ↔ 0 ≤ p.1 ∧ p.1 < p.2 ∧ p.2 < n ∧ met p.1 p.2 = true := by
  unfold rowsP
  simp only [List.mem_flatMap, List.mem_range, rowP_mem]
  constructor
  · rintro ⟨k, hk, e, h1, h2, h3⟩
    rw [e]
    exact ⟨by omega, by omega, by omega, h3⟩
  · rintro ⟨h0, h1, h2, h3⟩
    refine ⟨p.1.toNat, by omega, by omega, by omega, by omega, ?_⟩
    rw [show ((p.1.toNat : Nat) : Int) = p.1 by omega]
    exact h3
theorem rowP_rise (met : Int → Int → Bool) (i a : Int) (n : Nat) : (rowP met i a n).Pairwise Lp := by
  unfold rowP
  rw [List.pairwise_map]
  refine List.Pairwise.filter _ ?_
  rw [List.pairwise_map]
  exact List.pairwise_lt_range.imp fun {x y} h => .inr ⟨rfl, by show a + (x : Int) < a + (y : Int); omega⟩
theorem rowsP_rise (met : Int → Int → Bool) (n : Nat) : ∀ k, (rowsP met n k).Pairwise Lp ∧ ∀ p ∈ rowsP met n k, p.1 < k
  | 0 => ⟨.nil, fun _ h => nomatch h⟩
  | k + 1 => by
    obtain ⟨h1, h2⟩ := rowsP_rise met n k
    rw [rowsP_succ]
    refine ⟨List.pairwise_append.mpr ⟨h1, rowP_rise _ _ _ _, fun p hp q hq => .inl ?_⟩, fun p hp => ?_⟩
    · have := h2 p hp
      have := (rowP_mem.mp hq).1
      omega
    · rcases List.mem_append.mp hp with hp | hp
      · have := h2 p hp; omega
      · have := (rowP_mem.mp hp).1; omega
/-- what is asked, sorted, is the pairs that meet -/
theorem asked_pairs (h : NumsOk ns) (hi : i < 4) {met : Int → Int → Bool} (hmet : ∀ a b : Int, 0 ≤ a → a < b → b < ns.length → (met a b = true ↔ Met (oursX ns i) a b)) {ps : List (Int × Int)}
    (hp : ps.Perm (laidF (moreX (toldX ns i)) 8 (natInts ns.length)).2) (hs : ps.Pairwise Lp) : ps = rowsP met ns.length ns.length := by
  have hl : (natInts ns.length).length ≤ 8 := by rw [natInts_length]; exact h.eight
  rw [laidF_congr (g := lessBy (oursF ns i)) (fun p hp q hq => more_less h hi hp hq) 8 _ fun p hp => hp] at hp
  refine rising_eq (lt := Lp) (fun a h => ?_) (fun a b h1 h2 => ?_) hs (rowsP_rise met ns.length ns.length).1 fun x => ?_
  · unfold Lp at h; omega
  · unfold Lp at h1 h2; omega
  · rw [hp.mem_iff, rowsP_mem]
    obtain ⟨a, b⟩ := x
    rw [laidF_asked 8 _ hl (natInts_rise _)]
    simp only [natInts_mem]
    constructor
    · rintro ⟨ha, hb, hab, hm⟩
      refine ⟨ha.1, hab, hb.2, (hmet a b ha.1 hab hb.2).mpr fun k h0 h1 => hm k (natInts_mem.mpr ⟨h0, by omega⟩) h1⟩
    · rintro ⟨h0, h1, h2, h3⟩
      exact ⟨⟨h0, by omega⟩, ⟨by omega, h2⟩, h1, fun k hk hka => (hmet a b h0 h1 h2).mp h3 k (natInts_mem.mp hk).1 hka⟩
theorem asked_small (h : NumsOk ns) (hi : i < 4) : (∀ p ∈ (laidF (moreX (toldX ns i)) 8 (natInts ns.length)).2, Small p) ∧ (laidF (moreX (toldX ns i)) 8 (natInts ns.length)).2.Nodup := by
  have hl : (natInts ns.length).length ≤ 8 := by rw [natInts_length]; exact h.eight
  have h8 := h.eight
  rw [laidF_congr (g := lessBy (oursF ns i)) (fun p hp q hq => more_less h hi hp hq) 8 _ fun p hp => hp]
  refine ⟨fun p hp => ?_, laidF_nodup 8 _ hl (natInts_rise _)⟩
  obtain ⟨a, b⟩ := p
  have := ((laidF_asked 8 _ hl (natInts_rise _) a b).mp hp).2.1
  have := natInts_mem.mp this
  exact ⟨this.1, by show b < 1000; omega⟩
end
end Mine
end
section
namespace Mine
open PySem PySem.W PyProof.Rows PySem.Calls
/-- a code table whose code object lies in the base or in the ledger -/
def TabN (pos : Pos) (qual : Str) (h₀ : Heap) (news : List (Addr × Obj)) (ps : Array Value) : Prop :=
  ps = #[] ∨ ∃ (c' : Addr) (oc : Obj) (vs : Array Value) (t : Tok), ps = #[rawInt pos.line, rawInt pos.col, .ref c'] ∧ (h₀.get? c' = some oc ∨ (c', oc) ∈ news) ∧ oc.data = .fields vs ∧ vs[1]? = some (.str qual t)
theorem TabN.mono {pos : Pos} {qual : Str} {h₀ : Heap} {news news' : List (Addr × Obj)} {ps : Array Value} (x : TabN pos qual h₀ news ps) (hs : ∀ q ∈ news, (∃ vs s t, q.2.data = .fields vs ∧ vs[1]? = some (.str s t)) → q ∈ news') : TabN pos qual h₀ news' ps := by
  rcases x with x | ⟨c', oc, vs, t, x, y, z, u⟩
  · exact .inl x
  · exact .inr ⟨c', oc, vs, t, x, y.imp_right fun h => hs _ h ⟨vs, qual, t, z, u⟩, z, u⟩
theorem NameIs.free {prog : Program} {w : World} {A : Around} {env : Env} {x : Str} {v : Value} {s : Shared} {c : Addr} (hk : env.scope.kind = .function) (hl : env.kindOf x = some .free) (hc : env.cells.lookup x = some c) (ho : ∃ o, s.heap.get? c = some o ∧ o.data = .cell (some v)) (hd : (x == ("__debug__" : Str)) = false) (hn : (x == ("__classdict__" : Str)) = false) : NameIs prog w A env x v s :=
  fun _ _ _ h => wpAny_Name (wpAny_loadName_free hk hl hc ho h hn) hd
/-- entries of one heap that differ lie apart -/
theorem apart {h₀ h : Heap} {L : Addr} {news : List (Addr × Obj)} (N : News h₀ L h news) {p q : Addr × Obj} (hp : p ∈ news) (hq : q ∈ news) (hne : p.2 ≠ q.2) : p.1 ≠ q.1 := fun e => by
  have h1 := (N p hp).1
  rw [e, (N q hq).1] at h1
  exact hne (Option.some.inj h1).symm
section
variable {M : Model} {A : Around} {E : Value → Shared → Prop} {s : Shared} {h₀ : Heap} {L a c P : Addr} {m mg mb : Str → Option Value} {cn : Str} {cs : Scope} {ccd : Value} {cl : List (Str × Addr)} {news : List (Addr × Obj)} {g : Obj → List (Addr × Obj)}
  {p : Program} {loose : List Str} {mean : ExcName → Option Value} {name qual : Str} {params : Arguments} {body : Expr} {scope : Scope} {ps : Array Value} {pos : Pos} {firstLine : Nat} {clos : List (Str × Addr)}
theorem lam_any {Q : Value → Shared → Prop} (F : Fr h₀ L s.heap m) (N : News h₀ L s.heap news) (T : Top p loose mean mg mb h₀) (C : CodeHd h₀ c P) (hcd : ccd = .ref c) (U : UpdF P (tabObj ps) news g) {sub : List (Addr × Obj)} (ht : TabN pos qual h₀ sub ps)
    (hcl : closureFor scope (envX cn cs L a ccd cl) = pure clos)
    (h : ∀ f c' oc vs t ctv h' tk cd, Fr h₀ L h' m →
      News h₀ L h' ((f, kla_obj name qual params body scope clos ((mg "__name__").getD .none) c' ctv) :: (g (tabObj #[rawInt pos.line, rawInt pos.col, .ref c']) ++ cd)) →
      oc.data = .fields vs → vs[1]? = some (.str qual t) → (h₀.get? c' = some oc ∨ (c', oc) ∈ sub ∨ (c', oc) ∈ cd) → (∀ q ∈ news, q.1 < f) → (∀ q ∈ cd, q = (c', oc)) → Q (.ref f) { s with heap := h', toks := tk }) :
    wpAny M A (makeFunction name qual params (.expr body) scope (envX cn cs L a ccd cl) [] [] [] pos firstLine) Q E s := by
  obtain ⟨own, rest, e0, hgr, h1, h2⟩ := U.split
  rcases ht with rfl | ⟨c', oc, vs, t, rfl, hc, hdat, hq⟩
  · refine kla_nest F N T C hcd U trivial rfl hcl fun f c' oc vs t ctv h' tk F' N' hdat hq h1 h2 => ?_
    refine h f c' oc vs t ctv h' tk [(c', oc)] F' (fun q hq => N' q ?_) hdat hq (.inr (.inr (.head _))) (fun q hq => Nat.lt_trans (h1 q hq) h2) (fun q hq => List.mem_singleton.mp hq)
    simp only [List.mem_cons, List.mem_append, List.not_mem_nil, or_false] at hq ⊢
    rcases hq with h | h | h
    · exact .inl h
    · exact .inr (.inr h)
    · exact .inr (.inl h)
  · refine kla_hit (c' := c') (ps := #[rawInt pos.line, rawInt pos.col, .ref c']) F N T C hcd (by rw [e0]; simp) (by simp [TriplesOk, rawInt]) (by simp [codeAmong, rawInt]) hcl fun f ctv h' tk F' N' hlt => ?_
    have eg : g (tabObj #[rawInt pos.line, rawInt pos.col, .ref c']) = news := by rw [hgr, ← e0]
    refine h f c' oc vs t ctv h' tk [] F' ?_ hdat hq (hc.imp_right .inl) hlt (fun _ hq => (nomatch hq))
    rw [eg, List.append_nil]
    exact N'
end
section
variable {prog : Program} {w : World} {A : Around} {E : Value → Shared → Prop} {s : Shared}
/-- a call of a lambda -/
theorem lam_call {name qual : Str} {params : Arguments} {body : Expr} {scope : Scope} {cl : List (Str × Addr)} {pm ctv v : Value} {c' f : Addr} {binds : List (Str × Value)} {Q : Value → Shared → Prop}
    (ho : s.heap.get? f = some (kla_obj name qual params body scope cl pm c' ctv)) (hcd : s.heap.CodeRec (.ref c') qual) (hlim : s.heap.NoLimit) (hroom : A.depth < recursionLimit)
    (hbind : bindArgs (kla_fn name qual params body scope cl pm (.ref c') ctv) ⟨[v], []⟩ = pure binds) (hloc : ∀ y ∈ binds, scope.names.lookup y.1 = some .local)
    (h : ∀ h₁ tk, Sub s.heap h₁ → h₁.Ns s.heap.objs.size (fun y => binds.reverse.lookup y) →
      wpAny (model prog w) (A.deeper (envX qual scope s.heap.objs.size f (.ref c') cl)) (eval body (envX qual scope s.heap.objs.size f (.ref c') cl)) Q (fun _ _ => False) { s with heap := h₁, toks := tk })
    (hco : scope.isCoroutine = false) (hgen : scope.isGenerator = false) (hk : scope.kind = .function) (hcell : ∀ x ∈ scope.names, x.2 ≠ .cell) :
    wpAny (model prog w) A (call (.ref f) [v]) Q E s := by
  refine wpAny_call ?_
  refine kla_callFunE hroom ho rfl hco hgen rfl hcd ?_
  rw [hbind]
  refine wpAny_pure (wpAny_newFunctionEnv hcell hloc (fun h₁ hns hsb => ⟨hlim.fresh _ hsb, ?_⟩) hk)
  show codeAny _ _ (.expr body (envX qual scope s.heap.objs.size f (.ref c') cl)) _ _
  have hk₁ : Sub s.heap h₁ := fun b o e => hsb.extBut b o (Nat.ne_of_lt (Heap.lt_size e)) (Heap.get?_push_of_some _ e)
  exact kla_codeExpr (wpAny_mono (h h₁ _ hk₁ hns) (fun v s' hl => hl) fun _ _ x => x.elim)
/-- (ours[place], place) -/
theorem el_key {env : Env} {x y : Str} {p1 p2 p3 p4 pos : Pos} {kk : Nat} {ol : Addr} {ys : List Value} {os : List Int} {k : Int} {t : Tok} {Q : Value → Shared → Prop} (hO : NameIs prog w A env x (.ref ol) s) (hP : NameIs prog w A env y (.int k t) s) (hl : s.heap.IsList ol ys.toArray) (hI : IntsAre ys os) (hk : 0 ≤ k ∧ k < (os.length : Int)) (hz : os.length ≤ 1000)
    (h : ∀ T o h', Sub s.heap h' → s.heap.get? T = none → TupP o (os.getD k.toNat 0) k → h'.get? T = some o → Q (.ref T) { s with heap := h' }) :
    wpAny (model prog w) A (eval (.Tuple [.Subscript (.Name x p1) (.Name y p2) p3, .Name y p4] kk pos) env) Q E s := by
  have hlt : k.toNat < os.length := by omega
  obtain ⟨t1, ht⟩ := hI.get k.toNat _ (List.getElem?_eq_getElem hlt)
  have e1 : os.getD k.toNat 0 = os[k.toNat] := by rw [List.getD_eq_getElem?_getD, List.getElem?_eq_getElem hlt]; rfl
  refine Tuple_ (spliced_more (Subscript_ (hO _ _ _ (hP _ _ _ ?_))))
  refine tail_any hl.typeIs slot_list_getitem.lookup (wpAny_getItem_list hl hk.1 (by omega) (by simpa using ht) ?_) (by with_unfolding_all rfl)
  refine spliced_more (hP _ _ _ (spliced_none ?_))
  refine wpAny_newTuple ?_ (by rw [sizeLine_eq]; exact Nat.le_of_ble_eq_true rfl)
  exact h _ _ _ (fun b o e => Heap.get?_push_of_some _ e) (Heap.get?_none_of_le (Nat.le_refl _)) ⟨t1, t, _, by rw [e1]⟩ (Heap.get?_push_size _ rfl)
theorem fnAt_of {K : Frag} {h : Heap} {q : Addr} (X : K.In h) (e : (match K.lookup q with | some ⟨_, _, .func _, _⟩ => true | _ => false) = true) : FnAt q h := by
  cases hk : K.lookup q with
  | none => rw [hk] at e; cases e
  | some o =>
    obtain ⟨a, b, d, c⟩ := o
    rw [hk] at e
    cases d <;> first | exact ⟨_, _, _, _, X _ _ hk⟩ | cases e
end
section
variable {w : World} {A : Around} {s : Shared} {h₀ : Heap} {L ak pl tl : Addr} {m mg mb : Str → Option Value} {p : Program} {loose : List Str} {mean : ExcName → Option Value} {rest : List (Addr × Obj)} {xs : List UInt64} {ps : Array Value}
/-- _law_laid, as the law calls it -/
theorem laid_L {vs fs : List Value} {e e0 e1 n : Nat} {Q E : Value → Shared → Prop} (F : Fr h₀ L s.heap m) (N : News h₀ L s.heap ((ak, listOf #[] e) :: (56, tabObj ps) :: rest))
    (X : (Mine.hd.heap_39 w.params).In h₀) (T : Top p loose mean mg mb h₀) (C : CodeHd h₀ 60 56) (ht : TabN lpos lqual h₀ rest ps) (hh : A.handled = none) (hd : A.depth + 8 + 8 < recursionLimit) (hu : A.units + 3 * 8 + 300 < cLine)
    (hl : (pl, listOf vs.toArray e0) ∈ rest) (hI : IntsAre vs (natInts n)) (hn : n ≤ 8) (htl : (tl, listOf fs.toArray e1) ∈ rest) (hfs : FloatsAre fs xs) (hx : xs.length = n)
    (off : ∀ q ∈ rest, q.1 ≠ ak) (off2 : ∀ q ∈ rest, q.1 ≠ 56)
    (h : ∀ D us tups e' ps' e2 cd h' tk, Fr h₀ L h' m → News h₀ L h' ((D, listOf (List.toArray us) e2) :: (ak, listOf (refsOfT tups).toArray e') :: (56, tabObj ps') :: (rest ++ (tups ++ cd))) →
      IntsAre us (laidF (moreX xs) 8 (natInts n)).1 → PairsT tups (laidF (moreX xs) 8 (natInts n)).2 → TabN lpos lqual h₀ (rest ++ cd) ps' → (∀ q ∈ cd, ∃ vs s t, q.2.data = .fields vs ∧ vs[1]? = some (.str s t)) → Q (.ref D) { s with heap := h', toks := tk }) :
    wpAny (model PySem.Challenge.rw_mq0090_01.row.prog w) A (call (.ref 61) [.ref pl, .ref tl, .ref ak]) Q E s := by
  have nak := N _ (.head _)
  have n56 := N _ (.tail _ (.head _))
  have hmuts : ∀ q ∈ lmuts ak [] e ps, h₀.get? q.1 = none := fun q hq => by
    rcases List.mem_cons.mp hq with rfl | hq
    · exact nak.2.2
    · rw [List.mem_singleton.mp hq]; exact n56.2.2
  have hsub : Sub h₀ (Hid s.heap (lmuts ak [] e ps)) := sub_hid F.keep hmuts
  have hrest : ∀ q ∈ rest, (Hid s.heap (lmuts ak [] e ps)).get? q.1 = some q.2 := fun q hq => hideAll_get _ (N q (.tail _ (.tail _ hq))).1 (by simpa using ⟨off q hq, off2 q hq⟩)
  have htab : TabOk lpos lqual (Hid s.heap (lmuts ak [] e ps)) ps := by
    rcases ht with x | ⟨c', oc, vs, t, x, y, z, u⟩
    · exact .inl x
    · exact .inr ⟨c', oc, vs, t, x, y.elim (fun y => hsub _ _ y) fun y => hrest _ y, z, u⟩
  have hlen : (natInts n).length = n := natInts_length n
  refine laid_call w xs (by omega) 8 (Nat.le_refl _) p loose mean mg mb A s pl tl ak [] vs fs e ps (natInts n) Q E (X.keeps hsub) (T.keeps hsub) (C.keeps hsub) htab hh hd hu nak.1 n56.1 ⟨_, hrest _ hl, rfl, _, rfl⟩ hI (by omega) (Nat.le_refl _) ⟨_, hrest _ htl, rfl, _, rfl⟩ hfs ?_ ?_ ?_
  · rw [hlen, List.length_nil]
    have : n * n ≤ 8 * 8 := Nat.mul_le_mul hn hn
    omega
  · intro q hq
    have := natInts_mem.mp hq
    omega
  · intro D us e' ps' tups e2 h' tk hx' hD hD0 hus hak hP htu h56 _ htab'
    have hne0 : ∀ b o, h₀.get? b = some o → b ≠ ak ∧ b ≠ 56 := fun b o e9 => ⟨fun q => (by rw [q, nak.2.2] at e9; cases e9), fun q => (by rw [q, n56.2.2] at e9; cases e9)⟩
    have F' : Fr h₀ L h' m := ⟨F.ns.at' fun o e9 => hx' _ o (fun q => nak.2.1 q.symm) (fun q => n56.2.1 q.symm) e9, fun b o e9 => hx' b o (hne0 b o e9).1 (hne0 b o e9).2 (F.keep b o e9), F.above⟩
    have core : News h₀ L h' ((D, listOf (List.toArray us) e2) :: (ak, listOf (refsOfT tups).toArray e') :: (56, tabObj ps') :: (rest ++ tups)) := fun q hq => by
      simp only [List.mem_cons, List.mem_append] at hq
      rcases hq with rfl | rfl | rfl | hq | hq
      · have := fresh_off F N hD0
        exact ⟨hD, this.1, this.2.1⟩
      · exact ⟨by simpa using hak, nak.2⟩
      · exact ⟨h56, n56.2⟩
      · have := N q (.tail _ (.tail _ hq))
        exact ⟨hx' _ _ (off q hq) (off2 q hq) this.1, this.2⟩
      · have h9 := htu q hq
        have := fresh_off F N h9.2
        exact ⟨h9.1, this.1, this.2.1⟩
    rcases htab' with rfl | ⟨c', oc, cvs, t, rfl, y, z, u⟩
    · refine h D us tups e' #[] e2 [] h' tk F' (by simpa using core) hus hP (.inl rfl) (fun _ hq => nomatch hq)
    · have hc' : h'.get? c' = some oc := of_hideAll _ y
      cases hb : h₀.get? c' with
      | some o9 =>
        have := F'.keep _ _ hb
        rw [hc'] at this
        cases this
        exact h D us tups e' _ e2 [] h' tk F' (by simpa using core) hus hP (.inr ⟨c', oc, cvs, t, rfl, .inl hb, z, u⟩) (fun _ hq => nomatch hq)
      | none =>
        have hcL : c' ≠ L := fun e9 => by
          obtain ⟨oL, es, ep, e1, e2, _⟩ := F'.ns
          rw [← e9, hc'] at e1
          rw [← Option.some.inj e1, z] at e2
          cases e2
        refine h D us tups e' _ e2 [(c', oc)] h' tk F' (fun q hq => ?_) hus hP (.inr ⟨c', oc, cvs, t, rfl, .inr (by simp), z, u⟩) (fun q hq => by rw [List.mem_singleton.mp hq]; exact ⟨cvs, _, t, z, u⟩)
        simp only [List.mem_cons, List.mem_append, List.not_mem_nil, or_false] at hq
        rcases hq with hq | hq | hq | hq | hq | hq
        · exact core q (by simp only [List.mem_cons, hq, true_or])
        · exact core q (by simp only [List.mem_cons, hq, true_or, or_true])
        · exact core q (by simp only [List.mem_cons, hq, true_or, or_true])
        · exact core q (by simp only [List.mem_cons, List.mem_append, hq, true_or, or_true])
        · exact core q (by simp only [List.mem_cons, List.mem_append, hq, or_true])
        · rw [hq]; exact ⟨hc', hcL, hb⟩
end
end Mine
end
section
namespace Mine
open PySem PySem.W PyProof.Rows PySem.Calls
section
variable {prog : Program} {w : World} {A : Around} {E : Value → Shared → Prop} {s : Shared} {env : Env} {h₀ : Heap} {L : Addr} {m : Str → Option Value} {news : List (Addr × Obj)} {Q : Value → Shared → Prop}
/-- range(x) -/
theorem el_range1 {rn x : Str} {p1 p2 pos : Pos} {n : Nat} {t : Tok} (hf : NameIs prog w A env rn (.type "range") s) (hx : NameIs prog w A env x (.int (n : Int) t) s)
    (h : ∀ r o t' u' v' h' tk, Sub s.heap h' → s.heap.get? r = none → h'.get? r = some o → IsRange h' r 0 (n : Int) 1 t' u' v' → Q (.ref r) { s with heap := h', toks := tk }) :
    wpAny (model prog w) A (eval (.Call (.Name rn p1) [.Name x p2] [] pos) env) Q E s :=
  Call_ (hf _ _ _ (PyProof.Rows.callWith_type1 (spliced_more (hx _ _ _ (spliced_none (call_range_1 (h _ _ _ _ _ _ _ (fun b o e => Heap.get?_push_of_some _ e) (Heap.get?_none_of_le (Nat.le_refl _)) (Heap.get?_push_size _ rfl) (Heap.get?_push_size _ rfl))))))))
theorem places_ints : ∀ {ns : List Int} {ys : List Value}, Paired (fun k y => ∃ t, y = Value.int k t) ns ys → IntsAre ys ns
  | _, _, .nil => .nil
  | _, _, .cons h t => by
    obtain ⟨u, rfl⟩ := h
    exact .cons _ u (places_ints t)
/-- [x for x in range(size)] -/
theorem comp_places {x rn sz : Str} {p1 p2 p3 p4 px pos : Pos} {n : Nat} {t : Tok} {scope : Scope} {cl : List (Str × Addr)} (hh : A.handled = none) (F : Fr h₀ L s.heap m) (N : News h₀ L s.heap news) (hf : NameIs prog w A env rn (.type "range") s) (hz : NameIs prog w A env sz (.int (n : Int) t) s) (hn : n ≤ 1000)
    (hclos : closureFor scope env = pure cl) (hcell : ∀ y ∈ scope.names, y.2 ≠ .cell) (hkind : scope.kind = .function)
    (hnames : ∀ y ∈ scope.names, y.2 = .local → scope.names.lookup y.1 = some .local) (hx : scope.names.lookup x = some .local) (hdx : (x == ("__debug__" : Str)) = false)
    (h : ∀ D h' tk ys e, Fr h₀ L h' m → News h₀ L h' ((D, listOf (List.toArray ys) e) :: news) → (∀ q ∈ news, q.1 ≠ D) → IntsAre ys (natInts n) → Q (.ref D) { s with heap := h', toks := tk })
    (hs : ∀ v, foldedSetIterable (.Call (.Name rn p2) [.Name sz p3] [] p4) env v = pure v := by intro _; rfl) :
    wpAny (model prog w) A (eval (.ListComp (.Name x p1) [⟨.Name x px, .Call (.Name rn p2) [.Name sz p3] [] p4, [], 0⟩] scope pos) env) Q E s := by
  refine comp_range (fun _ => true) (fun k y => ∃ t, y = Value.int k t) hh hclos hcell hkind hnames hx (el_range1 hf hz fun r o t' u' v' h1 tk1 hS hr0 _ hr => ?_) hs
  refine ⟨r, n, t', u', v', rfl, hr, hn, fun C k tk s₃ m₃ hk hC hns hm hS3 => wpAny_tests_nil ⟨rfl, s₃.heap, s₃.toks, rfl, fun _ _ e => e⟩, fun C k tk s₃ m₃ hk _ hC hns hm hS3 => ?_, fun D h2 tk2 ys hD hpl hP hS2 => ?_⟩
  · exact wpAny_Name (wpAny_loadName_local hkind (lookup_relabel_local hx) hns hm ⟨⟨tk, rfl⟩, s₃.heap, s₃.toks, rfl, fun _ _ e => e⟩) hdx
  · obtain ⟨n9, hD'⟩ := hpl
    have F1 := fr_sub F hS
    have N1 := news_sub N hS
    rw [filter_all] at hP
    refine h D h2 tk2 ys.toList n9 (fr_sub F1 hS2) (fun q hq => ?_) (fresh_off F1 N1 hD).2.2 (places_ints hP)
    rcases List.mem_cons.mp hq with rfl | hq
    · obtain ⟨a, b, _⟩ := fresh_off F1 N1 hD
      exact ⟨by simpa using hD', a, b⟩
    · exact news_sub N1 hS2 q hq
end
end Mine
end
section
open PySem PySem.W PyProof.Rows
namespace Mine
theorem roomD (e : Env) : (callerA.deeper e).depth + 40 < recursionLimit := by simp only [depth_deeper, depth_caller]; decide
theorem roomU (e : Env) : (callerA.deeper e).units + 400 < cLine := by
  show callerA.units + _ + 400 < cLine
  decide
theorem roomD16 (e : Env) : (callerA.deeper e).depth + 8 + 8 < recursionLimit := by have := roomD e; omega
theorem roomU24 (e : Env) : (callerA.deeper e).units + 3 * 8 + 300 < cLine := by have := roomU e; omega
theorem roomD3 (e : Env) : (callerA.deeper e).depth + 3 < recursionLimit := by have := roomD e; omega
theorem roomU64 (e : Env) : (callerA.deeper e).units + 64 < cLine := by have := roomU e; omega
theorem roomU200 (e : Env) : (callerA.deeper e).units + 200 < cLine := by have := roomU e; omega
theorem roomK (e : Env) : (callerA.deeper e).in1.in1.depth < recursionLimit := by simp only [depth_in1, depth_deeper, depth_caller]; decide
end Mine
end
section
open PySem PySem.W PyProof.Rows
namespace Mine
theorem hid_nil (h : Heap) : Hid h [] = h := rfl
theorem meet_L (w : World) (p : Program) (loose : List Str) (mean : ExcName → Option Value) (mg mb : Str → Option Value)
    (e : Env) (s : Shared) (wl : Addr) (i j : Int) (ti tj : Tok) (ns : List Int) (Q E : Value → Shared → Prop) (vs : List Value) (X : (Mine.hd.heap_39 w.params).In s.heap) (T : Top p loose mean mg mb s.heap) (hl : s.heap.IsList wl vs.toArray) (hI : IntsAre vs ns)
    (h0 : 0 ≤ i) (h1 : i < ns.length) (h2 : 0 ≤ j) (h3 : j < ns.length) (h8 : ns.length ≤ 8) (h : ∀ b h' tk, Sub s.heap h' → (b = true ↔ Met ns i j) → Q (.bool b) { s with heap := h', toks := tk }) :
    wpAny (model PySem.Challenge.rw_mq0090_01.row.prog w) (callerA.deeper e) (call (.ref 66) [.ref wl, .int i ti, .int j tj]) Q E s := by
  have X' : (Mine.hd.heap_39 w.params).In (Hid s.heap []) := by rw [hid_nil]; exact X
  have T' : Top p loose mean mg mb (Hid s.heap []) := by rw [hid_nil]; exact T
  exact meet_call w p loose mean mg mb _ s wl i j ti tj ns Q E vs X' T' rfl (roomD3 e) (roomU200 e) hl hI h0 h1 h2 h3 h8 h
theorem meet_P (w : World) (p : Program) (loose : List Str) (mean : ExcName → Option Value) (mg mb : Str → Option Value)
    (e : Env) (s : Shared) (wl : Addr) (a b n : Nat) (ti tj : Tok) (ns : List Int) (Q E : Value → Shared → Prop) (vs : List Value) (k : Nat) (X : (Mine.hd.heap_39 w.params).In s.heap) (T : Top p loose mean mg mb s.heap) (hl : s.heap.get? wl = some (listOf (List.toArray vs) k)) (hI : IntsAre vs ns)
    (hn : ns.length = n) (ha : a < n) (hb : a + 1 + b < n) (h8 : n ≤ 8) (h : ∀ b' h' tk, Sub s.heap h' → (b' = true ↔ Met ns (a : Int) ((a : Int) + 1 + (b : Int))) → Q (.bool b') { s with heap := h', toks := tk }) :
    wpAny (model PySem.Challenge.rw_mq0090_01.row.prog w) (callerA.deeper e) (call (.ref 66) [.ref wl, .int (a : Int) ti, .int ((a : Int) + 1 + (b : Int)) tj]) Q E s := by
  subst hn
  exact meet_L w p loose mean mg mb e s wl (a : Int) ((a : Int) + 1 + (b : Int)) ti tj ns Q E vs X T ⟨_, hl, rfl, _, rfl⟩ hI (by omega) (by omega) (by omega) (by omega) h8 h
end Mine
end
namespace Mine
open PySem PySem.W PyProof.Rows in
/-- one step with the library's lines alone -/
theorem clear_mqlaw4 {prog : Program} {w : World} {A : Around} {E : Value → Shared → Prop} {Q : Flow → Shared → Prop} {env : Env} {s : Shared} (h : Q .next s) :
    wpAny (model prog w) A (execs [] env) Q E s := by
  w_top off
  walk1
  exact h
end Mine
section
open PySem PySem.W PyProof.Rows
namespace Mine
theorem spots_up {G : Value → Array Value → Prop} (hG : ∀ k t its, G (Value.int k t) its → SpotP k its) : ∀ {vs : List Value} {ns : List Int} {rows : List (Addr × Obj)}, IntsAre vs ns → Paired (fun v q => RowIs (G v) q) vs rows → RowsAre SpotP ns rows
  | _, _, _, .nil, hp => by cases hp; exact .nil
  | _, _, _, .cons k t h, hp => by
    cases hp with
    | cons h1 h2 =>
      obtain ⟨hc, its, n, hd, hg⟩ := h1
      exact .cons ⟨hc, its, n, hd, hG _ _ _ hg⟩ (spots_up hG h h2)
theorem nums_mod {script : List Int} (h : script ≠ []) : NumsOk ((script.take 8).map fun k => k.fmod 729) := by
  refine ⟨?_, ?_, fun x hx => ?_⟩
  · rw [List.length_map, List.length_take]
    have : 0 < script.length := List.length_pos_iff.mpr h
    omega
  · rw [List.length_map, List.length_take]; omega
  · obtain ⟨k, _, rfl⟩ := List.mem_map.mp hx
    rw [Int.fmod_eq_emod_of_nonneg _ (by decide)]
    omega
/-- what the first statement leaves -/
def MidN (h₀ : Heap) (L : Addr) (m : Str → Option Value) (news : List (Addr × Obj)) (s : Shared) (f : Flow) (s' : Shared) : Prop :=
  f = .next ∧ ∃ h' tk D vs e ns, s' = { s with heap := h', toks := tk } ∧ Fr h₀ L h' (fun y => if y = Str.ofString "numbers" then some (.ref D) else m y) ∧ News h₀ L h' ((D, listOf (List.toArray vs) e) :: news) ∧ IntsAre vs ns ∧ NumsOk ns
theorem MidN.mk' {h₀ h' : Heap} {L D : Addr} {m : Str → Option Value} {news rest : List (Addr × Obj)} {s : Shared} {tk e : Nat} {vs : List Value} {ns : List Int} (F : Fr h₀ L h' (fun y => if y = Str.ofString "numbers" then some (.ref D) else m y)) (N : News h₀ L h' ((D, listOf (List.toArray vs) e) :: rest)) (hs : ∀ q ∈ news, q ∈ rest) (hI : IntsAre vs ns) (hN : NumsOk ns) :
    MidN h₀ L m news s .next { s with heap := h', toks := tk } :=
  ⟨rfl, h', tk, D, vs, e, ns, rfl, F, fun q hq => (List.mem_cons.mp hq).elim (fun h => N q (by rw [h]; exact .head _)) fun h => N q (.tail _ (hs q h)), hI, hN⟩
theorem refs_size (rows : List (Addr × Obj)) : (List.toArray (refsOfT rows)).size = rows.length := by simp [refsOfT]
theorem spot_same {h₀ h : Heap} {L : Addr} {news rows : List (Addr × Obj)} (N : News h₀ L h news) (hr : ∀ q ∈ rows, q ∈ news) {q q' : Addr × Obj} (hq : q ∈ rows) (hq' : q' ∈ rows) (e : Value.ref q.1 = Value.ref q'.1) {k k' : Int} (h1 : RowIs (SpotP k) q) (h2 : RowIs (SpotP k') q') : spotOf k = spotOf k' := by
  have e0 : q.1 = q'.1 := by injection e
  have e1 := (N q (hr q hq)).1
  have e2 := (N q' (hr q' hq')).1
  rw [e0, e2] at e1
  obtain ⟨_, its, n, hd, hi⟩ := h1
  obtain ⟨_, its', n', hd', hi'⟩ := h2
  rw [← Option.some.inj e1, hd'] at hd
  cases hd
  have := ints_fun hi hi'
  simp only [List.cons.injEq, and_true] at this
  obtain ⟨a, b, c⟩ := this
  unfold spotOf
  rw [a, b, c]
theorem paired_len {α β : Type} {R : α → β → Prop} {l : List α} {r : List β} (h : Paired R l r) : r.length = l.length := h.length.symm
/-- no cell -/
def NoCell (o : Obj) : Prop := ∀ v, o.data ≠ .cell v
/-- what lies at the ledger's end: rows, tuples, lists, code objects -/
def Kd (o : Obj) : Prop := (∃ xs n, o.data = .seq xs n) ∨ (∃ vs s t, o.data = .fields vs ∧ vs[1]? = some (.str s t))
theorem Kd.noCell {o : Obj} (h : Kd o) : NoCell o := fun v e => by
  rcases h with ⟨xs, n, h⟩ | ⟨vs, s, t, h, _⟩ <;> rw [h] at e <;> cases e
theorem cell_ne {o o' : Obj} {v : Option Value} (h : NoCell o) (h' : o'.data = .cell v) : o ≠ o' := fun e => h v (by rw [e]; exact h')
theorem row_kd {P : Array Value → Prop} {q : Addr × Obj} (h : RowIs P q) : Kd q.2 := by
  obtain ⟨_, its, n, hd, _⟩ := h
  exact .inl ⟨its, n, hd⟩
theorem tab_noCell (ps : Array Value) : NoCell (tabObj ps) := fun v e => by cases e
theorem list_noCell (xs : Array Value) (n : Nat) : NoCell (listOf xs n) := fun v e => by cases e
theorem seq_tab {xs : Array Value} {n : Nat} {o : Obj} (h : o.data = .seq xs n) (ps : Array Value) : o ≠ tabObj ps := fun e => by rw [e] at h; cases h
theorem TabN.shape {pos : Pos} {qual : Str} {h₀ : Heap} {news : List (Addr × Obj)} {ps : Array Value} (x : TabN pos qual h₀ news ps) : ∀ v, ps[1]? = some v → ∃ k t, v = .int k t := by
  rcases x with rfl | ⟨c', oc, vs, t, rfl, _⟩
  · intro v hv; simp at hv
  · intro v hv
    have : v = rawInt pos.col := by simpa using hv.symm
    exact ⟨_, _, this⟩
theorem kd_fields {o o' : Obj} {fs : Array Value} (h : Kd o) (h' : o'.data = .fields fs) (hf : ∀ v, fs[1]? = some v → ∃ k t, v = .int k t) : o ≠ o' := fun e => by
  subst e
  rcases h with ⟨xs, n, h⟩ | ⟨vs, s, t, h, hv⟩
  · rw [h] at h'; cases h'
  · rw [h] at h'
    cases h'
    obtain ⟨k, u, e⟩ := hf _ hv
    cases e
theorem it_shape {it : Obj} (h : ∃ a b c, it.data = .fields #[rawInt a, rawInt b, rawInt c]) : ∃ fs, it.data = .fields fs ∧ ∀ v, fs[1]? = some v → ∃ k t, v = .int k t := by
  obtain ⟨a, b, c, h⟩ := h
  exact ⟨_, h, fun v hv => ⟨b, 0, by simpa [rawInt] using hv.symm⟩⟩
theorem tup_kd {l : List (Addr × Obj)} {ps : List (Int × Int)} (h : PairsT l ps) : ∀ q ∈ l, Kd q.2 := fun q hq => by
  obtain ⟨a, b, ta, tb, n, e⟩ := h.mem hq
  exact .inl ⟨_, n, by rw [e]⟩
theorem list_kd (xs : Array Value) (n : Nat) : Kd (listOf xs n) := .inl ⟨xs, n, rfl⟩
theorem new_list_N {M : Model} {A : Around} {E : Value → Shared → Prop} {s : Shared} {h₀ : Heap} {L : Addr} {m : Str → Option Value} {news : List (Addr × Obj)} {Q : Value → Shared → Prop} (F : Fr h₀ L s.heap m) (N : News h₀ L s.heap news)
    (h : ∀ D h', Fr h₀ L h' m → News h₀ L h' ((D, listOf #[] 0) :: news) → (∀ q ∈ news, q.1 ≠ D) → Q (.ref D) { s with heap := h' }) : wpAny M A (newList []) Q E s :=
  wpAny_newList (h _ _ (F.push _) (N.push F _) fun q hq => Nat.ne_of_lt (Heap.lt_size (N q hq).1)) (by rw [sizeLine_eq]; exact Nat.zero_le _)
/-- the ledger ahead of the laying, sorted -/
theorem laid_sub {AK D9 D12 D13 I L TL WL : Addr} {o9 o12 o13 it oO oS oZ oT oW o56 o68 oA : Obj} {tl : List (Addr × Obj)} : ∀ q ∈ (AK, oA) :: ((56 : Addr), o56) :: (D13, o13) :: (D12, o12) :: (D9, o9) :: (I, it) :: (L + 1 + 1 + 1, oO) :: (L + 1 + 1, oS) :: (L + 1, oZ) :: ((68 : Addr), o68) :: (TL, oT) :: (WL, oW) :: tl,
    q ∈ (D13, o13) :: (D12, o12) :: (AK, oA) :: (D9, o9) :: (I, it) :: (L + 1 + 1 + 1, oO) :: (L + 1 + 1, oS) :: (L + 1, oZ) :: ((56 : Addr), o56) :: ((68 : Addr), o68) :: (TL, oT) :: (WL, oW) :: tl := fun q hq => by
  simp only [List.mem_cons] at hq ⊢
  rcases hq with h | h | h | h | h | h | h | h | h | h | h | h | h <;> simp only [h, true_or, or_true]
/-- what is left of the ledger behind the laying -/
theorem left_sub {AK Dl D9 D12 D13 I L TL WL : Addr} {ol o9 o12 o13 it oO oS oZ oT oW o56 o68 oA : Obj} {tl tups cd : List (Addr × Obj)} : ∀ q ∈ ((68 : Addr), o68) :: ((56 : Addr), o56) :: (I, it) :: (L + 1 + 1 + 1, oO) :: (L + 1 + 1, oS) :: (L + 1, oZ) :: (Dl, ol) :: (AK, oA) :: (D9, o9) :: (TL, oT) :: (WL, oW) :: (tl ++ (tups ++ cd)),
    q ∈ (Dl, ol) :: (AK, oA) :: ((56 : Addr), o56) :: (((D13, o13) :: (D12, o12) :: (D9, o9) :: (I, it) :: (L + 1 + 1 + 1, oO) :: (L + 1 + 1, oS) :: (L + 1, oZ) :: ((68 : Addr), o68) :: (TL, oT) :: (WL, oW) :: tl) ++ (tups ++ cd)) := fun q hq => by
  simp only [List.mem_cons, List.mem_append, List.cons_append] at hq ⊢
  rcases hq with h | h | h | h | h | h | h | h | h | h | h | h | h | h <;> simp only [h, true_or, or_true]
abbrev kpos : Pos := { line := 100, col := 43, endLine := 100, endCol := 77 }
abbrev kqual : Str := Str.ofString "law" ++ Str.ofString ".<locals>." ++ Str.ofString "<lambda>"
theorem fields_ne {o o' : Obj} {fs : Array Value} {v : Option Value} (h : o.data = .fields fs) (h' : o'.data = .cell v) : o ≠ o' := fun e => by rw [e, h'] at h; cases h
/-- what is left, with the range on top -/
theorem swap_sub {r a : Addr} {o oa : Obj} {l : List (Addr × Obj)} : ∀ q ∈ (a, oa) :: (r, o) :: l, q ∈ (r, o) :: (a, oa) :: l := fun q hq => by
  simp only [List.mem_cons] at hq ⊢
  rcases hq with h | h | h <;> simp only [h, true_or, or_true]
theorem asked_lt {ns : List Int} (h : NumsOk ns) (more : Int → Int → Bool) : (laidF more 8 (natInts ns.length)).2.length < 64 := by
  have h8 := h.eight
  have h1 := h.one
  have hz := natInts_length ns.length
  cases hn : natInts ns.length with
  | nil => rw [hn] at hz; simp at hz; omega
  | cons p r =>
    rw [hn] at hz
    simp only [List.length_cons] at hz
    have hr : r.length ≤ 7 := by omega
    have l1 := List.length_filter_le (fun q => more p q) r
    have l2 := List.length_filter_le (fun q => !more p q) r
    have a1 := laidF_asked_len more 7 _ (Nat.le_trans l1 hr)
    have a2 := laidF_asked_len more 7 _ (Nat.le_trans l2 hr)
    have hs := filter_two (fun q => more p q) r
    have e := Room.sq (r.filter fun q => more p q).length (r.filter fun q => !more p q).length
    rw [hs] at e
    have e7 : (r.length + 1) * (r.length + 1) ≤ 8 * 8 := Nat.mul_le_mul (by omega) (by omega)
    simp only [laidF, List.length_append, List.length_map]
    omega
/-- whether two places meet -/
noncomputable def metC (os : List Int) (a b : Int) : Bool := @decide (Met os a b) (Classical.propDecidable _)
theorem metC_iff {os : List Int} {a b : Int} : metC os a b = true ↔ Met os a b := by
  unfold metC
  exact @decide_eq_true_iff _ (Classical.propDecidable _)
theorem last_sub {Ds f r AK Dl D9 I L TL WL : Addr} {os' of' or' ol o9 it oO oS oZ oT oW o56 o68 oA : Obj} {tt cd2 : List (Addr × Obj)} : ∀ q ∈ ((68 : Addr), o68) :: ((56 : Addr), o56) :: (I, it) :: (L + 1 + 1 + 1, oO) :: (L + 1 + 1, oS) :: (L + 1, oZ) :: (Dl, ol) :: (AK, oA) :: (D9, o9) :: (TL, oT) :: (WL, oW) :: (tt ++ cd2),
    q ∈ (Ds, os') :: (f, of') :: ((((68 : Addr), o68) :: (r, or') :: ((56 : Addr), o56) :: (I, it) :: (L + 1 + 1 + 1, oO) :: (L + 1 + 1, oS) :: (L + 1, oZ) :: (Dl, ol) :: (AK, oA) :: (D9, o9) :: (TL, oT) :: (WL, oW) :: tt) ++ cd2) := fun q hq => by
  simp only [List.mem_cons, List.mem_append, List.cons_append] at hq ⊢
  rcases hq with h | h | h | h | h | h | h | h | h | h | h | h | h <;> simp only [h, true_or, or_true]
theorem end_sub {AK Dl D9 I L TL WL : Addr} {ol o9 it oO oS oZ oT oW o56 o68 oA : Obj} {tl tups cd cd2 : List (Addr × Obj)} : ∀ q ∈ (I, it) :: (L + 1 + 1 + 1, oO) :: (L + 1 + 1, oS) :: (L + 1, oZ) :: ((56 : Addr), o56) :: ((68 : Addr), o68) :: (TL, oT) :: (WL, oW) :: (tl ++ (cd ++ cd2)),
    q ∈ ((68 : Addr), o68) :: ((56 : Addr), o56) :: (I, it) :: (L + 1 + 1 + 1, oO) :: (L + 1 + 1, oS) :: (L + 1, oZ) :: (Dl, ol) :: (AK, oA) :: (D9, o9) :: (TL, oT) :: (WL, oW) :: ((tl ++ (tups ++ cd)) ++ cd2) := fun q hq => by
  simp only [List.mem_cons, List.mem_append] at hq ⊢
  rcases hq with h | h | h | h | h | h | h | h | h | h | h <;> simp only [h, true_or, or_true]
/-- what holds between the loop's turns -/
def LoopJ (h₀ : Heap) (L TL WL : Addr) (eT eW : Nat) (oZ : Obj) (rowsT rowsW : List (Addr × Obj)) (_i : Nat) (m : Str → Option Value) (nx : List (Addr × Obj)) : Prop :=
  ∃ oO oS t56 t68 tl, nx = (L + 1 + 1 + 1, oO) :: (L + 1 + 1, oS) :: (L + 1, oZ) :: (56, tabObj t56) :: (68, tabObj t68) :: (TL, listOf (List.toArray (refsOfT rowsT)) eT) :: (WL, listOf (List.toArray (refsOfT rowsW)) eW) :: tl ∧
    (∃ v, oO.data = .cell v) ∧ (∃ v, oS.data = .cell v) ∧ TabN lpos lqual h₀ tl t56 ∧ TabN kpos kqual h₀ tl t68 ∧ m (Str.ofString "told") = some (.ref TL) ∧ m (Str.ofString "whole") = some (.ref WL) ∧
    (∀ q ∈ rowsT, q ∈ tl) ∧ (∀ q ∈ rowsW, q ∈ tl) ∧ (∀ q ∈ tl, Kd q.2)
end Mine
open Mine
set_option maxRecDepth 100000 in
set_option maxHeartbeats 8000000 in
theorem Mine.law_main : PySem.Challenge.rw_mq0090_01.Holds := Mine.hd (by
  w_strict k_go0
  rename_i w s0 s1 mg mb G Y fa o pm doc ho hg X V T B TE TW hcd script hs hlay0 hL1 hr1 hl2 w7 w6 sl svs w3 hL ra w1' r0 hI hr hc1 hc2 hD h1 tk1 oO oS oZ dO dS dZ X0 X' T' K' F' C60 N' l0
  obtain ⟨l56, l68⟩ := l0
  have hlen : script.length ≤ 63 := by omega
  have F1 : Fr (ghostOf s1.heap [(60, 56), (70, 68)]) s1.heap.objs.size h1 (fun y => if y = Str.ofString "script" then some (.ref sl) else none) := F'
  refine wpAny_execs_cons (wpAny_noRaise ?_)
  refine wpAny_mono (E := fun _ _ => False) (Q := MidN (ghostOf s1.heap [(60, 56), (70, 68)]) s1.heap.objs.size (fun y => if y = Str.ofString "script" then some (.ref sl) else none)
    [(s1.heap.objs.size + 1 + 1 + 1, oO), (s1.heap.objs.size + 1 + 1, oS), (s1.heap.objs.size + 1, oZ), (56, tabObj #[]), (68, tabObj #[])] { heap := h1, gens := s1.gens, drawn := s1.drawn, toks := tk1, os := s1.os }) ?_ ?_ (fun _ _ x => x)
  · clear F' dO dS dZ X0 ra w1' r0 hL1 hr1 hl2 hs hlay0 hr hcd Y B TE TW V X T hT8 hT9 hL
    w_strict k_steps
    · rename_i F9 N9
      exact MidN.mk' F9 N9 (fun q hq => .tail _ hq) (.cons _ _ (.cons _ _ (.cons _ _ (.cons _ _ (.cons _ _ (.cons _ _ (.cons _ _ (.cons _ _ .nil)))))))) ⟨by decide, by decide, by decide⟩
    · rename_i hne _ _ _ _ _ _ _ _ _ _ hI9 _ _ _ _ _ _ F9 N9
      exact MidN.mk' F9 N9 (fun q hq => .tail _ (.tail _ hq)) hI9 (nums_mod (by simpa using hne))
  · rintro f s' ⟨rfl, h2, tk2, D2, vs2, e2, ns, rfl, F2, N2, hI2, hN⟩
    show wpAny _ _ (execs _ _) _ _ _
    have l2 : vs2.length = ns.length := hI2.length
    have h8 := hN.eight
    have hD2 := (N2 _ (.head _)).1
    obtain ⟨n2, hn2⟩ : ∃ n2 : List (Addr × Obj), n2 = (D2, listOf (List.toArray vs2) e2) :: [(s1.heap.objs.size + 1 + 1 + 1, oO), (s1.heap.objs.size + 1 + 1, oS), (s1.heap.objs.size + 1, oZ), (56, tabObj #[]), (68, tabObj #[])] := ⟨_, rfl⟩
    rw [← hn2] at N2
    -- spots
    refine wpAny_execs_cons (wpAny_noRaise ?_)
    refine comp_rows (fun v its => ∀ k t, v = Value.int k t → SpotP k its) rfl rfl F2 N2 (NameIs.loc rfl rfl F2.ns rfl rfl) ⟨_, hD2, rfl, _, rfl⟩ ?sz rfl rfl (by decide) rfl (by decide) rfl rfl rfl ?elt ?_
    case sz => rw [List.size_toArray]; omega
    case elt =>
      intro C v s₃ m₃ hv hC hn hm hS
      obtain ⟨k, t, rfl, hk⟩ := ints_mem hI2 v (by simpa using hv)
      refine el_spot (fun tk => NameIs.loc (s := { s₃ with toks := tk }) rfl (lookup_relabel_local rfl) hn hm rfl) fun T9 its h' tk hS' hT0 hl hi => ?_
      exact ⟨⟨T9, its, rfl, hT0, hl, fun k' t' e => by cases e; exact hi⟩, h', tk, rfl, hS'⟩
    intro D3 h3 tk3 rowsS e3 F3 N3 hP3
    have hS3 : RowsAre SpotP ns rowsS := spots_up (G := fun v its => ∀ k t, v = Value.int k t → SpotP k its) (fun k t its h => h k t rfl) hI2 (by simpa using hP3)
    have l3 : rowsS.length = ns.length := paired_len hS3
    show wpAny _ _ (execs _ _) _ _ _
    have inS : ∀ q ∈ rowsS, q ∈ (D3, listOf (List.toArray (refsOfT rowsS)) e3) :: (rowsS ++ n2) := fun q hq => .tail _ (List.mem_append_left _ hq)
    -- told
    refine wpAny_execs_cons (wpAny_noRaise ?_)
    refine comp_rows (MadeOf rowsS ToldP) rfl rfl F3 N3 (NameIs.loc rfl rfl F3.ns rfl rfl) ⟨_, (N3 _ (.head _)).1, rfl, _, rfl⟩ ?sz rfl rfl (by decide) rfl (by decide) rfl rfl rfl ?elt ?_
    case sz => rw [refs_size]; omega
    case elt =>
      intro C v s₃ m₃ hv hC hn hm hS
      obtain ⟨q, hq, rfl⟩ := List.mem_map.mp (show v ∈ refsOfT rowsS by simpa using hv)
      obtain ⟨k, hkn, hrow⟩ := paired_mem hS3 q hq
      obtain ⟨hc, its, n9, hd, hi⟩ := id hrow
      have X9 := X'.keeps fun b o e => hS b o (F3.keep b o e)
      have T9 := T'.keeps fun b o e => hS b o (F3.keep b o e)
      have hq3 := hS _ _ (N3 q (inS q hq)).1
      have sp := spot_of (hN.small k hkn)
      have rD := roomD (envOfC (Str.ofString "law") default s1.heap.objs.size fa (Value.ref 70))
      refine el_call1 (NameIs.glob rfl rfl T9.g (mg_of X' T'.g (by k_is)) rfl) (NameIs.loc rfl (lookup_relabel_local rfl) hn hm rfl) (fnAt_of X9 (by first | rfl | k_is)) ?_
      refine told_call w _ _ _ _ _ _ s₃ q.1 (red k) (green k) (blue k) _ _ its.toList X9 T9 rfl (Nat.lt_of_le_of_lt (Nat.add_le_add_left (by decide) _) (roomD _)) ⟨q.2, hq3, hc, n9, by simpa using hd⟩ hi sp.1 sp.2.1 sp.2.2 fun D h' tk hS' hD0 hL => ?_
      obtain ⟨us, n8, hD, hf⟩ := hL
      refine ⟨⟨D, us.toArray, rfl, hD0, ⟨_, hD, rfl, _, rfl⟩, fun q' hq' e k' hr => ?_⟩, h', tk, rfl, hS'⟩
      show FloatsAre us (toldS (spotOf k'))
      rw [← spot_same N3 inS hq hq' e hrow hr]
      exact hf
    intro D4 h4 tk4 rowsT e4 F4 N4 hP4
    have hT4 : RowsAre ToldP ns rowsT := made_up hS3 (by simpa using hP4) fun q hq => hq
    have l4 : rowsT.length = ns.length := paired_len hT4
    show wpAny _ _ (execs _ _) _ _ _
    -- whole
    have N4' : News (ghostOf s1.heap [(60, 56), (70, 68)]) s1.heap.objs.size h4 ((D3, listOf (List.toArray (refsOfT rowsS)) e3) :: (D4, listOf (List.toArray (refsOfT rowsT)) e4) :: (rowsS ++ (rowsT ++ n2))) := fun q hq => N4 q (by
      simp only [List.mem_cons, List.mem_append] at hq ⊢
      rcases hq with h | h | h | h | h
      · exact .inr (.inr (.inl h))
      · exact .inl h
      · exact .inr (.inr (.inr (.inl h)))
      · exact .inr (.inl h)
      · exact .inr (.inr (.inr (.inr h))))
    have inS4 : ∀ q ∈ rowsS, q ∈ (D3, listOf (List.toArray (refsOfT rowsS)) e3) :: (D4, listOf (List.toArray (refsOfT rowsT)) e4) :: (rowsS ++ (rowsT ++ n2)) := fun q hq => .tail _ (.tail _ (List.mem_append_left _ hq))
    refine wpAny_execs_cons (wpAny_noRaise ?_)
    refine comp_rows (MadeOf rowsS WholeP) rfl rfl F4 N4' (NameIs.loc rfl rfl F4.ns rfl rfl) ⟨_, (N4' _ (.head _)).1, rfl, _, rfl⟩ ?sz rfl rfl (by decide) rfl (by decide) rfl rfl rfl ?elt ?_
    case sz => rw [refs_size]; omega
    case elt =>
      intro C v s₃ m₃ hv hC hn hm hS
      obtain ⟨q, hq, rfl⟩ := List.mem_map.mp (show v ∈ refsOfT rowsS by simpa using hv)
      obtain ⟨k, hkn, hrow⟩ := paired_mem hS3 q hq
      obtain ⟨hc, its, n9, hd, hi⟩ := id hrow
      have X9 := X'.keeps fun b o e => hS b o (F4.keep b o e)
      have T9 := T'.keeps fun b o e => hS b o (F4.keep b o e)
      have hq3 := hS _ _ (N4' q (inS4 q hq)).1
      have sp := spot_of (hN.small k hkn)
      refine el_call1 (NameIs.glob rfl rfl T9.g (mg_of X' T'.g (by k_is)) rfl) (NameIs.loc rfl (lookup_relabel_local rfl) hn hm rfl) (fnAt_of X9 (by first | rfl | k_is)) ?_
      refine whole_call w _ _ _ _ _ _ s₃ q.1 (red k) (green k) (blue k) _ _ its.toList X9 T9 rfl (Nat.lt_of_le_of_lt (Nat.add_le_add_left (by decide) _) (roomD _)) (Nat.lt_of_le_of_lt (Nat.add_le_add_left (by decide) _) (roomU _)) ⟨q.2, hq3, hc, n9, by simpa using hd⟩ hi sp.1 sp.2.1 sp.2.2 fun D h' tk hS' hD0 hL => ?_
      obtain ⟨us, n8, hD, hf⟩ := hL
      refine ⟨⟨D, us.toArray, rfl, hD0, ⟨_, hD, rfl, _, rfl⟩, fun q' hq' e k' hr => ?_⟩, h', tk, rfl, hS'⟩
      show IntsAre us (wholeS (spotOf k'))
      rw [← spot_same N4' inS4 hq hq' e hrow hr]
      exact hf
    intro D5 h5 tk5 rowsW e5 F5 N5 hP5
    have hW5 : RowsAre WholeP ns rowsW := made_up hS3 (by simpa using hP5) fun q hq => hq
    have l5 : rowsW.length = ns.length := paired_len hW5
    show wpAny _ _ (execs _ _) _ _ _
    -- size
    have nb : ∀ q ∈ [(s1.heap.objs.size + 1 + 1 + 1, oO), (s1.heap.objs.size + 1 + 1, oS), (s1.heap.objs.size + 1, oZ), (56, tabObj #[]), (68, tabObj #[])], q ∈ n2 := fun q hq => by rw [hn2]; exact .tail _ hq
    have N5a : News (ghostOf s1.heap [(60, 56), (70, 68)]) s1.heap.objs.size h5 ((s1.heap.objs.size + 1, oZ) :: (s1.heap.objs.size + 1 + 1 + 1, oO) :: (s1.heap.objs.size + 1 + 1, oS) :: (56, tabObj #[]) :: (68, tabObj #[]) :: (D4, listOf (List.toArray (refsOfT rowsT)) e4) :: (D5, listOf (List.toArray (refsOfT rowsW)) e5) :: (D3, listOf (List.toArray (refsOfT rowsS)) e3) :: (rowsT ++ rowsW)) := fun q hq => N5 q (by
      simp only [List.mem_cons, List.mem_append] at hq ⊢
      rcases hq with h | h | h | h | h | h | h | h | h | h
      · exact .inr (.inr (.inr (.inr (.inr (.inr (nb q (by simp only [List.mem_cons, h, true_or, or_true])))))))
      · exact .inr (.inr (.inr (.inr (.inr (.inr (nb q (by simp only [List.mem_cons, h, true_or, or_true])))))))
      · exact .inr (.inr (.inr (.inr (.inr (.inr (nb q (by simp only [List.mem_cons, h, true_or, or_true])))))))
      · exact .inr (.inr (.inr (.inr (.inr (.inr (nb q (by simp only [List.mem_cons, h, true_or, or_true])))))))
      · exact .inr (.inr (.inr (.inr (.inr (.inr (nb q (by simp only [List.mem_cons, h, true_or, or_true])))))))
      · exact .inr (.inr (.inr (.inl h)))
      · exact .inl h
      · exact .inr (.inr (.inl h))
      · exact .inr (.inr (.inr (.inr (.inr (.inl h)))))
      · exact .inr (.inl h))
    have kT : ∀ q ∈ rowsT ++ rowsW, Kd q.2 := fun q hq => by
      rcases List.mem_append.mp hq with hq | hq
      · obtain ⟨k, _, hr⟩ := paired_mem hT4 q hq
        exact row_kd hr
      · obtain ⟨k, _, hr⟩ := paired_mem hW5 q hq
        exact row_kd hr
    have U5 : UpdF (s1.heap.objs.size + 1) oZ ((s1.heap.objs.size + 1, oZ) :: (s1.heap.objs.size + 1 + 1 + 1, oO) :: (s1.heap.objs.size + 1 + 1, oS) :: (56, tabObj #[]) :: (68, tabObj #[]) :: (D4, listOf (List.toArray (refsOfT rowsT)) e4) :: (D5, listOf (List.toArray (refsOfT rowsW)) e5) :: (D3, listOf (List.toArray (refsOfT rowsS)) e3) :: (rowsT ++ rowsW)) (fun o' => (s1.heap.objs.size + 1, o') :: (s1.heap.objs.size + 1 + 1 + 1, oO) :: (s1.heap.objs.size + 1 + 1, oS) :: (56, tabObj #[]) :: (68, tabObj #[]) :: (D4, listOf (List.toArray (refsOfT rowsT)) e4) :: (D5, listOf (List.toArray (refsOfT rowsW)) e5) :: (D3, listOf (List.toArray (refsOfT rowsS)) e3) :: (rowsT ++ rowsW)) := by
      refine .head fun q hq => ?_
      have hq0 := hq
      simp only [List.mem_cons] at hq
      rcases hq with rfl | rfl | rfl | rfl | rfl | rfl | rfl | hq
      · exact neN (by omega)
      · exact neN (by omega)
      · exact apart N5a (.tail _ hq0) (.head _) (cell_ne (tab_noCell _) dZ)
      · exact apart N5a (.tail _ hq0) (.head _) (cell_ne (tab_noCell _) dZ)
      · exact apart N5a (.tail _ hq0) (.head _) (cell_ne (list_noCell _ _) dZ)
      · exact apart N5a (.tail _ hq0) (.head _) (cell_ne (list_noCell _ _) dZ)
      · exact apart N5a (.tail _ hq0) (.head _) (cell_ne (list_noCell _ _) dZ)
      · exact apart N5a (.tail _ hq0) (.head _) (cell_ne (kT q hq).noCell dZ)
    have hD3 := (N5a (D3, listOf (List.toArray (refsOfT rowsS)) e3) (by simp)).1
    refine wpAny_execs_cons (wpAny_noRaise (wpAny_Assign_Name ?_))
    refine Call_ ((NameIs.boot rfl rfl (T'.g.keeps F5.keep) (mg_none_of X' T'.g (by k_is)) (T'.b.keeps F5.keep) ((T'.builtins _ (by decide)).trans (by boot_by_name)) (by decide)) _ _ _ (PyProof.Rows.callWith_builtin1 (spliced_more ((NameIs.loc rfl rfl F5.ns rfl rfl) _ _ _ (spliced_none (len_list ⟨_, hD3, rfl, _, rfl⟩ ?fit ?_))))))
    case fit => rw [refs_size]; omega
    have e9 : ((List.toArray (refsOfT rowsS)).size : Int) = (ns.length : Int) := by rw [refs_size, l3]
    rw [e9]
    refine storeX_C F5 N5a rfl U5 dZ fun h6 oZ' F6 N6 dZ6 => ?_
    show wpAny _ _ (execs _ _) _ _ _
    refine wpAny_execs_cons (wpAny_noRaise ?_)
    refine for_rng (h₀ := ghostOf s1.heap [(60, 56), (70, 68)]) (L := s1.heap.objs.size) (LoopJ (ghostOf s1.heap [(60, 56), (70, 68)]) s1.heap.objs.size D4 D5 e4 e5 oZ' rowsT rowsW) rfl ?_
    refine Call_ ((NameIs.boot rfl rfl (T'.g.keeps F6.keep) (mg_none_of X' T'.g (by k_is)) (T'.b.keeps F6.keep) ((T'.builtins _ (by decide)).trans (by boot_by_name)) (by decide)) _ _ _ (PyProof.Rows.callWith_type1 (spliced_more (wpAny_Constant_int (spliced_none (call_range_1 ?_))))))
    refine ⟨_, 4, _, _, _, _, (s1.heap.objs.size + 1 + 1 + 1, oO) :: (s1.heap.objs.size + 1 + 1, oS) :: (s1.heap.objs.size + 1, oZ') :: (56, tabObj #[]) :: (68, tabObj #[]) :: (D4, listOf (List.toArray (refsOfT rowsT)) e4) :: (D5, listOf (List.toArray (refsOfT rowsW)) e5) :: (rowsT ++ rowsW), rfl, Heap.get?_push_size _ rfl, by decide, F6.push _, ?nw, ⟨oO, oS, #[], #[], _, rfl, ⟨_, dO⟩, ⟨_, dS⟩, .inl rfl, .inl rfl, rfl, rfl, fun q hq => List.mem_append_left _ hq, fun q hq => List.mem_append_right _ hq, kT⟩, ?turn, ?done⟩
    case nw =>
      intro q hq
      have h9 := N6 q (by
        simp only [List.mem_cons, List.mem_append] at hq ⊢
        rcases hq with h | h | h | h | h | h | h | h | h <;> simp only [h, true_or, or_true])
      exact ⟨Heap.get?_push_of_some _ h9.1, h9.2⟩
    case turn =>
      rintro i I it m₁ nx h tk tv hi ⟨oO', oS', t56, t68, tl, rfl, ⟨vO, dO'⟩, ⟨vS, dS'⟩, tab56, tab68, mT, mW, inT, inW, kd⟩ F7 N7 hoff hit Qt hQt
      clear F6 N6 F5 N5 N5a F4 N4 N4' F3 N3 F2 N2 U5 hP3 hP4 hP5 F1 N' hD2 hn2 nb hD3 F' X0
      -- system
      have offS : ∀ q ∈ (s1.heap.objs.size + 1, oZ') :: (56, tabObj t56) :: (68, tabObj t68) :: (D4, listOf (List.toArray (refsOfT rowsT)) e4) :: (D5, listOf (List.toArray (refsOfT rowsW)) e5) :: tl, q.1 ≠ s1.heap.objs.size + 1 + 1 := by
        intro q hq
        have hq0 := hq
        simp only [List.mem_cons] at hq
        rcases hq with rfl | rfl | rfl | rfl | rfl | hq
        · exact neN (by omega)
        · exact neN (by omega)
        · exact neN (by omega)
        · exact apart N7 (.tail _ (.tail _ (.tail _ hq0))) (.tail _ (.tail _ (.head _))) (cell_ne (list_noCell _ _) dS')
        · exact apart N7 (.tail _ (.tail _ (.tail _ hq0))) (.tail _ (.tail _ (.head _))) (cell_ne (list_noCell _ _) dS')
        · exact apart N7 (.tail _ (.tail _ (.tail _ hq0))) (.tail _ (.tail _ (.head _))) (cell_ne (kd q hq).noCell dS')
      refine wpAny_assign_Name (storeX_C F7 N7 rfl (.tail (hoff _ (.tail _ (.head _))).symm (.tail (neN (by omega)) (.head offS))) dS' fun h8 oS8 F8 N8 dS8 => ?_)
      show wpAny _ _ (execs _ _) _ _ _
      -- ours
      have h4 : i < 4 := hi
      have hW : ∀ q ∈ rowsW, q ∈ (I, it) :: (s1.heap.objs.size + 1 + 1 + 1, oO') :: (s1.heap.objs.size + 1 + 1, oS8) :: (s1.heap.objs.size + 1, oZ') :: (56, tabObj t56) :: (68, tabObj t68) :: (D4, listOf (List.toArray (refsOfT rowsT)) e4) :: (D5, listOf (List.toArray (refsOfT rowsW)) e5) :: tl := fun q hq => by simp only [List.mem_cons, inW q hq, or_true]
      refine wpAny_execs_cons (wpAny_Assign_Name (comp_col (k := i) rfl (NameIs.loc rfl rfl F8.ns mW rfl) F8 N8 (l := D5) (e := e5) (rows := rowsW) (.tail _ (.tail _ (.tail _ (.tail _ (.tail _ (.tail _ (.tail _ (.head _)))))))) hW (by omega) (by omega) (row_has (whole_has h4) hW5) (.tail _ (.tail _ (.head _))) dS8 rfl (by decide) rfl (by decide) rfl (fun C => rfl) rfl rfl rfl fun D9 h9 tk9 ys9 e9 F9 N9 hne9 hP9 => ?_))
      have hI9 : IntsAre ys9 (oursX ns i) := ints_col hW5 hP9 h4
      have offO : ∀ q ∈ (s1.heap.objs.size + 1 + 1, oS8) :: (s1.heap.objs.size + 1, oZ') :: (56, tabObj t56) :: (68, tabObj t68) :: (D4, listOf (List.toArray (refsOfT rowsT)) e4) :: (D5, listOf (List.toArray (refsOfT rowsW)) e5) :: tl, q.1 ≠ s1.heap.objs.size + 1 + 1 + 1 := by
        intro q hq
        have hq0 := hq
        simp only [List.mem_cons] at hq
        rcases hq with rfl | rfl | rfl | rfl | rfl | rfl | hq
        · exact neN (by omega)
        · exact neN (by omega)
        · exact neN (by omega)
        · exact neN (by omega)
        · exact apart N9 (.tail _ (.tail _ (.tail _ hq0))) (.tail _ (.tail _ (.head _))) (cell_ne (list_noCell _ _) dO')
        · exact apart N9 (.tail _ (.tail _ (.tail _ hq0))) (.tail _ (.tail _ (.head _))) (cell_ne (list_noCell _ _) dO')
        · exact apart N9 (.tail _ (.tail _ (.tail _ hq0))) (.tail _ (.tail _ (.head _))) (cell_ne (kd q hq).noCell dO')
      have hIO : I ≠ s1.heap.objs.size + 1 + 1 + 1 := (hoff _ (.head _)).symm
      refine storeX_C F9 N9 rfl (.tail (apart N9 (.head _) (.tail _ (.tail _ (.head _))) (cell_ne (list_noCell _ _) dO')) (.tail hIO (.head offO))) dO' fun h10 oO10 F10 N10 dO10 => ?_
      show wpAny _ _ (execs _ _) _ _ _
      clear F9 N9 F8 N8 F7 N7 offO offS hW
      -- asked
      refine wpAny_execs_cons (wpAny_Assign_Name (List_ (spliced_none (new_list_N F10 N10 fun AK h10a F10a N10a hAK => storeX_L F10a N10a (fun h11 F11 N11 => ?_) rfl rfl))))
      show wpAny _ _ (execs _ _) _ _ _
      -- laid
      have gX := X'.keeps F11.keep
      have gg := T'.g.keeps F11.keep
      have gb := T'.b.keeps F11.keep
      have zc : (s1.heap.objs.size + 1, oZ') ∈ (AK, listOf #[] 0) :: (D9, listOf (List.toArray ys9) e9) :: (I, it) :: (s1.heap.objs.size + 1 + 1 + 1, oO10) :: (s1.heap.objs.size + 1 + 1, oS8) :: (s1.heap.objs.size + 1, oZ') :: (56, tabObj t56) :: (68, tabObj t68) :: (D4, listOf (List.toArray (refsOfT rowsT)) e4) :: (D5, listOf (List.toArray (refsOfT rowsW)) e5) :: tl := .tail _ (.tail _ (.tail _ (.tail _ (.tail _ (.head _)))))
      refine wpAny_execs_cons (wpAny_Assign_Name (Call_ ((NameIs.glob rfl rfl gg (mg_of X' T'.g (by k_is)) rfl) _ _ _ (callWith_F (first := []) (fnAt_of gX (by first | rfl | k_is)) (spliced_more (comp_places rfl F11 N11 (NameIs.boot rfl rfl gg (mg_none_of X' T'.g (by k_is)) gb ((T'.builtins _ (by decide)).trans (by boot_by_name)) (by decide)) (NameIs.cel rfl rfl rfl ⟨oZ', (N11 _ zc).1, dZ6⟩ rfl) (by omega) rfl (by decide) rfl (by decide) rfl (by decide) fun D12 h12 tk12 ys12 e12 F12 N12 hne12 hI12 => ?_))))))
      have hTin : ∀ q ∈ rowsT, q ∈ (D12, listOf (List.toArray ys12) e12) :: (AK, listOf #[] 0) :: (D9, listOf (List.toArray ys9) e9) :: (I, it) :: (s1.heap.objs.size + 1 + 1 + 1, oO10) :: (s1.heap.objs.size + 1 + 1, oS8) :: (s1.heap.objs.size + 1, oZ') :: (56, tabObj t56) :: (68, tabObj t68) :: (D4, listOf (List.toArray (refsOfT rowsT)) e4) :: (D5, listOf (List.toArray (refsOfT rowsW)) e5) :: tl := fun q hq => by simp only [List.mem_cons, inT q hq, or_true]
      refine spliced_more (comp_col (k := i) rfl (NameIs.loc rfl rfl F12.ns mT rfl) F12 N12 (l := D4) (e := e4) (rows := rowsT) (.tail _ (.tail _ (.tail _ (.tail _ (.tail _ (.tail _ (.tail _ (.tail _ (.tail _ (.head _)))))))))) hTin (by omega) (by omega) (row_has (told_has h4) hT4) (c := s1.heap.objs.size + 1 + 1) (oc := oS8) (.tail _ (.tail _ (.tail _ (.tail _ (.tail _ (.head _)))))) dS8 rfl (by decide) rfl (by decide) rfl (fun C => rfl) rfl rfl rfl fun D13 h13 tk13 ys13 e13 F13 N13 hne13 hP13 => ?_)
      have hF13 : FloatsAre ys13 (toldX ns i) := floats_map hT4 hP13 h4
      refine spliced_more ((NameIs.loc rfl rfl F13.ns rfl rfl) _ _ _ (spliced_none ⟨fnAt_of (X'.keeps F13.keep) (by first | rfl | k_is), ?_⟩))
      have N13' := fun q hq => N13 q (laid_sub q hq)
      have offK : ∀ q ∈ (D13, listOf (List.toArray ys13) e13) :: (D12, listOf (List.toArray ys12) e12) :: (D9, listOf (List.toArray ys9) e9) :: (I, it) :: (s1.heap.objs.size + 1 + 1 + 1, oO10) :: (s1.heap.objs.size + 1 + 1, oS8) :: (s1.heap.objs.size + 1, oZ') :: (68, tabObj t68) :: (D4, listOf (List.toArray (refsOfT rowsT)) e4) :: (D5, listOf (List.toArray (refsOfT rowsW)) e5) :: tl, q.1 ≠ AK := by
        intro q hq
        simp only [List.mem_cons] at hq
        rcases hq with rfl | rfl | hq
        · exact (hne13 (AK, listOf #[] 0) (.tail _ (.head _))).symm
        · exact (hne12 (AK, listOf #[] 0) (.head _)).symm
        · refine hAK q ?_
          simp only [List.mem_cons]
          rcases hq with h | h | h | h | h | h | h | h | h <;> simp only [h, true_or, or_true]
      have t56s := tab56.shape
      have off56 : ∀ q ∈ (D13, listOf (List.toArray ys13) e13) :: (D12, listOf (List.toArray ys12) e12) :: (D9, listOf (List.toArray ys9) e9) :: (I, it) :: (s1.heap.objs.size + 1 + 1 + 1, oO10) :: (s1.heap.objs.size + 1 + 1, oS8) :: (s1.heap.objs.size + 1, oZ') :: (68, tabObj t68) :: (D4, listOf (List.toArray (refsOfT rowsT)) e4) :: (D5, listOf (List.toArray (refsOfT rowsW)) e5) :: tl, q.1 ≠ 56 := by
        intro q hq
        have hq0 := hq
        simp only [List.mem_cons] at hq
        rcases hq with rfl | rfl | rfl | rfl | rfl | rfl | rfl | rfl | rfl | rfl | hq
        · exact apart N13' (.tail _ (.tail _ hq0)) (.tail _ (.head _)) (seq_tab rfl _)
        · exact apart N13' (.tail _ (.tail _ hq0)) (.tail _ (.head _)) (seq_tab rfl _)
        · exact apart N13' (.tail _ (.tail _ hq0)) (.tail _ (.head _)) (seq_tab rfl _)
        · exact (hoff (56, tabObj t56) (.tail _ (.tail _ (.tail _ (.head _))))).symm
        · exact neN (by omega)
        · exact neN (by omega)
        · exact neN (by omega)
        · exact fun e9 => absurd (show (68 : Nat) = 56 from e9) (by decide)
        · exact apart N13' (.tail _ (.tail _ hq0)) (.tail _ (.head _)) (seq_tab rfl _)
        · exact apart N13' (.tail _ (.tail _ hq0)) (.tail _ (.head _)) (seq_tab rfl _)
        · exact apart N13' (.tail _ (.tail _ hq0)) (.tail _ (.head _)) (kd_fields (kd q hq) rfl t56s)
      refine laid_L (n := ns.length) (xs := toldX ns i) F13 N13' X' T' C60 (tab56.mono fun q hq _ => by simp only [List.mem_cons, hq, or_true]) rfl (roomD16 _) (roomU24 _) (.tail _ (.head _)) hI12 hN.eight (.head _) hF13 (by simp [toldX]) offK off56 fun Dl us tups e' ps' e2 cd h14 tk14 F14 N14 hus hPt tab14 hcd => ?_
      refine storeX_L F14 N14 (fun h15 F15 N15a => ?_) rfl rfl
      have N15 : News (ghostOf s1.heap [(60, 56), (70, 68)]) s1.heap.objs.size h15 ((68, tabObj t68) :: (56, tabObj ps') :: (I, it) :: (s1.heap.objs.size + 1 + 1 + 1, oO10) :: (s1.heap.objs.size + 1 + 1, oS8) :: (s1.heap.objs.size + 1, oZ') :: (Dl, listOf (List.toArray us) e2) :: (AK, listOf (List.toArray (refsOfT tups)) e') :: (D9, listOf (List.toArray ys9) e9) :: (D4, listOf (List.toArray (refsOfT rowsT)) e4) :: (D5, listOf (List.toArray (refsOfT rowsW)) e5) :: (tl ++ (tups ++ cd))) := fun q hq => N15a q (left_sub q hq)
      clear N15a F14 N14 F13 N13 N13' F12 N12 F11 N11 F10 N10 offK off56 hTin hne9 hne12 hne13 hI12 hF13
      show wpAny _ _ (execs _ _) _ _ _
      have kdR : ∀ q ∈ (Dl, listOf (List.toArray us) e2) :: (AK, listOf (List.toArray (refsOfT tups)) e') :: (D9, listOf (List.toArray ys9) e9) :: (D4, listOf (List.toArray (refsOfT rowsT)) e4) :: (D5, listOf (List.toArray (refsOfT rowsW)) e5) :: (tl ++ (tups ++ cd)), Kd q.2 := by
        intro q hq
        simp only [List.mem_cons, List.mem_append] at hq
        rcases hq with rfl | rfl | rfl | rfl | rfl | hq | hq | hq
        · exact list_kd _ _
        · exact list_kd _ _
        · exact list_kd _ _
        · exact list_kd _ _
        · exact list_kd _ _
        · exact kd q hq
        · exact tup_kd hPt q hq
        · exact .inr (hcd q hq)
      have t68s := tab68.shape
      -- laid != sorted(range(size), key=..)
      have gg15 := T'.g.keeps F15.keep
      have gb15 := T'.b.keeps F15.keep
      refine wpAny_execs_cons (wpAny_If (wpAny_isTrue_Compare1 ((NameIs.loc rfl rfl F15.ns rfl rfl) _ _ _ (wpAny_Call_Name_kw ((NameIs.boot rfl rfl gg15 (mg_none_of X' T'.g (by k_is)) gb15 ((T'.builtins _ (by decide)).trans (by boot_by_name)) (by decide)) _ _ _ (callWith_kw (spliced_more (el_range1 (NameIs.boot rfl rfl gg15 (mg_none_of X' T'.g (by k_is)) gb15 ((T'.builtins _ (by decide)).trans (by boot_by_name)) (by decide)) (NameIs.cel rfl rfl rfl ⟨oZ', (N15 _ (.tail _ (.tail _ (.tail _ (.tail _ (.tail _ (.head _))))))).1, dZ6⟩ rfl) fun r or t' u' v' h16 tk16 hS16 hr0 hor hr16 => spliced_none (kws_cons ?_)))))))))
      have F16 := fr_sub F15 hS16
      have nr := fresh_off F15 N15 hr0
      have N16a := news_cons F15 (news_sub N15 hS16) hr0 hor
      have N16 := fun q hq => N16a q (swap_sub q hq)
      have off68 : ∀ q ∈ (r, or) :: (56, tabObj ps') :: (I, it) :: (s1.heap.objs.size + 1 + 1 + 1, oO10) :: (s1.heap.objs.size + 1 + 1, oS8) :: (s1.heap.objs.size + 1, oZ') :: (Dl, listOf (List.toArray us) e2) :: (AK, listOf (List.toArray (refsOfT tups)) e') :: (D9, listOf (List.toArray ys9) e9) :: (D4, listOf (List.toArray (refsOfT rowsT)) e4) :: (D5, listOf (List.toArray (refsOfT rowsW)) e5) :: (tl ++ (tups ++ cd)), q.1 ≠ 68 := by
        intro q hq
        have hq0 := hq
        rcases List.mem_cons.mp hq with rfl | hq
        · exact (nr.2.2 _ (.head _)).symm
        rcases List.mem_cons.mp hq with rfl | hq
        · exact fun e9 => absurd (show (56 : Nat) = 68 from e9) (by decide)
        rcases List.mem_cons.mp hq with rfl | hq
        · exact (hoff (68, tabObj t68) (.tail _ (.tail _ (.tail _ (.tail _ (.head _)))))).symm
        rcases List.mem_cons.mp hq with rfl | hq
        · exact neN (by omega)
        rcases List.mem_cons.mp hq with rfl | hq
        · exact neN (by omega)
        rcases List.mem_cons.mp hq with rfl | hq
        · exact neN (by omega)
        exact apart N15 (.tail _ (.tail _ (.tail _ (.tail _ (.tail _ (.tail _ hq)))))) (.head _) (kd_fields (kdR q hq) rfl t68s)
      refine kla_eval rfl (lam_any (P := 68) F16 N16 T' codeHd rfl (.head off68) (sub := tl) tab68 rfl fun f c' oc cvs tq ctv h17 tk17 cd2 F17 N17 hd17 hv17 hc17 hlt17 hcd17 => kws_nil ?_)
      show wpAny _ _ (call (.builtin "sorted") [.ref r] [(Str.ofString "key", .ref f)]) _ _ _
      have hD9m : ∀ o', (D9, listOf (List.toArray ys9) e9) ∈ (f, o') :: (((68, tabObj #[rawInt kpos.line, rawInt kpos.col, .ref c']) :: (r, or) :: (56, tabObj ps') :: (I, it) :: (s1.heap.objs.size + 1 + 1 + 1, oO10) :: (s1.heap.objs.size + 1 + 1, oS8) :: (s1.heap.objs.size + 1, oZ') :: (Dl, listOf (List.toArray us) e2) :: (AK, listOf (List.toArray (refsOfT tups)) e') :: (D9, listOf (List.toArray ys9) e9) :: (D4, listOf (List.toArray (refsOfT rowsT)) e4) :: (D5, listOf (List.toArray (refsOfT rowsW)) e5) :: (tl ++ (tups ++ cd))) ++ cd2) := fun o' => by simp only [List.mem_cons, List.cons_append, true_or, or_true]
      have hOm : ∀ o', (s1.heap.objs.size + 1 + 1 + 1, oO10) ∈ (f, o') :: (((68, tabObj #[rawInt kpos.line, rawInt kpos.col, .ref c']) :: (r, or) :: (56, tabObj ps') :: (I, it) :: (s1.heap.objs.size + 1 + 1 + 1, oO10) :: (s1.heap.objs.size + 1 + 1, oS8) :: (s1.heap.objs.size + 1, oZ') :: (Dl, listOf (List.toArray us) e2) :: (AK, listOf (List.toArray (refsOfT tups)) e') :: (D9, listOf (List.toArray ys9) e9) :: (D4, listOf (List.toArray (refsOfT rowsT)) e4) :: (D5, listOf (List.toArray (refsOfT rowsW)) e5) :: (tl ++ (tups ++ cd))) ++ cd2) := fun o' => .tail _ (.tail _ (.tail _ (.tail _ (.tail _ (.head _)))))
      have htlm : ∀ o' q, q ∈ tl ∨ q ∈ cd2 → q ∈ (f, o') :: (((68, tabObj #[rawInt kpos.line, rawInt kpos.col, .ref c']) :: (r, or) :: (56, tabObj ps') :: (I, it) :: (s1.heap.objs.size + 1 + 1 + 1, oO10) :: (s1.heap.objs.size + 1 + 1, oS8) :: (s1.heap.objs.size + 1, oZ') :: (Dl, listOf (List.toArray us) e2) :: (AK, listOf (List.toArray (refsOfT tups)) e') :: (D9, listOf (List.toArray ys9) e9) :: (D4, listOf (List.toArray (refsOfT rowsT)) e4) :: (D5, listOf (List.toArray (refsOfT rowsW)) e5) :: (tl ++ (tups ++ cd))) ++ cd2) := fun o' q hq => by
        simp only [List.mem_cons, List.mem_append, List.cons_append]
        rcases hq with h | h <;> simp only [h, true_or, or_true]
      have hlo : (oursX ns i).length = ns.length := by simp [oursX]
      refine sorted_keyed (g := oursF ns i) (n := ns.length) rfl ?key F17 N17 ((N17 (r, or) (.tail _ (.tail _ (.head _)))).1.trans (hor.symm.trans hr16)) hN.one (Nat.lt_of_le_of_lt hN.eight (by decide)) fun Ds h18 tk18 out ks e18 F18 N18 hlt18 hIo hPo hSo => ?_
      case key =>
        intro s' k t Q' Fk Nk hk0 hk1 hQ'
        refine lam_call (Nk _ (.head _)).1 ⟨c', oc, cvs, tq, rfl, ?get, hd17, hv17⟩ (T'.nolimit.keeps Fk.keep) (roomK _) rfl (locs rfl) (fun h₁ tk hS hns => ?_) rfl rfl rfl (by decide)
        case get =>
          rcases hc17 with h | h | h
          · exact Fk.keep _ _ h
          · exact (Nk _ (htlm _ _ (.inl h))).1
          · exact (Nk _ (htlm _ _ (.inr h))).1
        refine el_key (ol := D9) (ys := ys9) (os := oursX ns i) (NameIs.free rfl rfl rfl ⟨oO10, hS _ _ (Nk _ (hOm _)).1, dO10⟩ rfl rfl) (NameIs.loc rfl rfl hns rfl rfl) ⟨_, hS _ _ (Nk _ (hD9m _)).1, rfl, _, rfl⟩ hI9 ⟨hk0, by rw [hlo]; exact hk1⟩ (by rw [hlo]; omega) fun T9 o9 h9' hS' hT0 hTP hT => ?_
        refine hQ' T9 o9 h9' _ (hS.trans' hS') ?_ hTP hT
        cases e9 : s'.heap.get? T9 with
        | none => rfl
        | some o8 => rw [hS _ _ e9] at hT0; cases hT0
      have hks := laid_sorted hN h4 hPo hSo
      rw [hks] at hus
      have hDl := (N18 (Dl, listOf (List.toArray us) e2) (by simp only [List.mem_cons, List.cons_append, true_or, or_true])).1
      refine ne_same ⟨_, hDl, rfl, _, rfl⟩ hus ⟨_, (N18 _ (.head _)).1, rfl, _, rfl⟩ hIo (roomU64 _) (wpAny_truthy_bool ?_)
      rw [if_neg (by simp)]
      refine wpAny_execs_nil ?_
      show wpAny _ _ (execs _ _) _ _ _
      have N19 : News (ghostOf s1.heap [(60, 56), (70, 68)]) s1.heap.objs.size h18 ((68, tabObj #[rawInt kpos.line, rawInt kpos.col, .ref c']) :: (56, tabObj ps') :: (I, it) :: (s1.heap.objs.size + 1 + 1 + 1, oO10) :: (s1.heap.objs.size + 1 + 1, oS8) :: (s1.heap.objs.size + 1, oZ') :: (Dl, listOf (List.toArray us) e2) :: (AK, listOf (List.toArray (refsOfT tups)) e') :: (D9, listOf (List.toArray ys9) e9) :: (D4, listOf (List.toArray (refsOfT rowsT)) e4) :: (D5, listOf (List.toArray (refsOfT rowsW)) e5) :: ((tl ++ (tups ++ cd)) ++ cd2)) := fun q hq => N18 q (last_sub q hq)
      clear N18 N17 F17 N16 N16a F16 N15 F15 hD9m hOm htlm hDl off68 nr
      have gg18 := T'.g.keeps F18.keep
      have gb18 := T'.b.keeps F18.keep
      have as0 := @asked_small ns i hN h4
      have hAKm : (AK, listOf (List.toArray (refsOfT tups)) e') ∈ (68, tabObj #[rawInt kpos.line, rawInt kpos.col, .ref c']) :: (56, tabObj ps') :: (I, it) :: (s1.heap.objs.size + 1 + 1 + 1, oO10) :: (s1.heap.objs.size + 1 + 1, oS8) :: (s1.heap.objs.size + 1, oZ') :: (Dl, listOf (List.toArray us) e2) :: (AK, listOf (List.toArray (refsOfT tups)) e') :: (D9, listOf (List.toArray ys9) e9) :: (D4, listOf (List.toArray (refsOfT rowsT)) e4) :: (D5, listOf (List.toArray (refsOfT rowsW)) e5) :: ((tl ++ (tups ++ cd)) ++ cd2) := .tail _ (.tail _ (.tail _ (.tail _ (.tail _ (.tail _ (.tail _ (.head _)))))))
      have htm : ∀ q ∈ tups, q ∈ (68, tabObj #[rawInt kpos.line, rawInt kpos.col, .ref c']) :: (56, tabObj ps') :: (I, it) :: (s1.heap.objs.size + 1 + 1 + 1, oO10) :: (s1.heap.objs.size + 1 + 1, oS8) :: (s1.heap.objs.size + 1, oZ') :: (Dl, listOf (List.toArray us) e2) :: (AK, listOf (List.toArray (refsOfT tups)) e') :: (D9, listOf (List.toArray ys9) e9) :: (D4, listOf (List.toArray (refsOfT rowsT)) e4) :: (D5, listOf (List.toArray (refsOfT rowsW)) e5) :: ((tl ++ (tups ++ cd)) ++ cd2) := fun q hq => .tail _ (.tail _ (.tail _ (.tail _ (.tail _ (.tail _ (.tail _ (.tail _ (.tail _ (.tail _ (.tail _ (List.mem_append_left _ (List.mem_append_right _ (List.mem_append_left _ hq)))))))))))))
      refine wpAny_execs_cons (wpAny_If (wpAny_isTrue_Compare1 (Call_ ((NameIs.boot rfl rfl gg18 (mg_none_of X' T'.g (by k_is)) gb18 ((T'.builtins _ (by decide)).trans (by boot_by_name)) (by decide)) _ _ _ (PyProof.Rows.callWith_builtin1 (spliced_more ((NameIs.loc rfl rfl F18.ns rfl rfl) _ _ _ (spliced_none (sorted_pairs F18 N19 hAKm hPt as0.1 as0.2 (asked_lt hN _) htm fun Da h20 l' ps20 c20 F20 N20 hlt20 hP20 hl20 hperm hpw => ?_)))))))))
      have gg20 := T'.g.keeps F20.keep
      have gb20 := T'.b.keeps F20.keep
      have hqs := asked_pairs hN h4 (met := metC (oursX ns i)) (fun a b _ _ _ => metC_iff) hperm hpw
      have hDa := (N20 _ (.head _)).1
      have N21 : News (ghostOf s1.heap [(60, 56), (70, 68)]) s1.heap.objs.size h20 ((68, tabObj #[rawInt kpos.line, rawInt kpos.col, .ref c']) :: (56, tabObj ps') :: (I, it) :: (s1.heap.objs.size + 1 + 1 + 1, oO10) :: (s1.heap.objs.size + 1 + 1, oS8) :: (s1.heap.objs.size + 1, oZ') :: (Dl, listOf (List.toArray us) e2) :: (AK, listOf (List.toArray (refsOfT tups)) e') :: (D9, listOf (List.toArray ys9) e9) :: (D4, listOf (List.toArray (refsOfT rowsT)) e4) :: (D5, listOf (List.toArray (refsOfT rowsW)) e5) :: ((tl ++ (tups ++ cd)) ++ cd2)) := fun q hq => N20 q (.tail _ hq)
      have zm := (N21 _ (.tail _ (.tail _ (.tail _ (.tail _ (.tail _ (.head _))))))).1
      have om := (N21 _ (.tail _ (.tail _ (.tail _ (.head _))))).1
      have d9m := (N21 _ (.tail _ (.tail _ (.tail _ (.tail _ (.tail _ (.tail _ (.tail _ (.tail _ (.head _)))))))))).1
      have hl20h : ∀ q ∈ l', h20.get? q.1 = some q.2 := fun q hq => (N21 q (htm q (hl20 q hq))).1
      have hlo2 : (oursX ns i).length = ns.length := by simp [oursX]
      have X20 := X'.keeps F20.keep
      have T20 := T'.keeps F20.keep
      clear N20
      refine comp_pairs (metC (oursX ns i)) rfl rfl (by decide) rfl (by decide) rfl rfl (by decide) (el_range1 (NameIs.boot rfl rfl gg20 (mg_none_of X' T'.g (by k_is)) gb20 ((T'.builtins _ (by decide)).trans (by boot_by_name)) (by decide)) (NameIs.cel rfl rfl rfl ⟨oZ', zm, dZ6⟩ rfl) fun r2 or2 t2' u2' v2' h21 tk21 hS21 hr20 hor2 hr2 => ⟨r2, ns.length, _, _, _, rfl, hr2, hN.eight, fun C hC => ⟨?src, ?test, ?elt⟩, fun D22 h22 tk22 tups22 e22 hD22 hD22l hP22 hin22 hS22 => ?_⟩)
      case src =>
        intro a ta s₃ m₃ ha hn hm hS
        have g3 := T20.g.keeps fun b o e => hS b o (hS21 b o e)
        have b3 := T20.b.keeps fun b o e => hS b o (hS21 b o e)
        refine el_rng (NameIs.boot rfl rfl g3 (mg_none_of X' T'.g (by k_is)) b3 ((T'.builtins _ (by decide)).trans (by boot_by_name)) (by decide)) (NameIs.loc rfl rfl hn hm rfl) (fun tk => NameIs.cel (s := { s₃ with toks := tk }) rfl rfl rfl ⟨oZ', hS _ _ (hS21 _ _ zm), dZ6⟩ rfl) fun r3 t3 u3 v3 h23 tk23 hS23 hr3 => ?_
        exact ⟨⟨r3, t3, u3, v3, rfl, hr3⟩, h23, tk23, rfl, hS23⟩
      case test =>
        intro a b ta tb s₃ m₃ ha hb hn hm hm' hS
        have X3 := X20.keeps fun b o e => hS b o (hS21 b o e)
        have T3 := T20.keeps fun b o e => hS b o (hS21 b o e)
        refine isTrue_plain (el_call3 (NameIs.glob rfl rfl T3.g (mg_of X' T'.g (by k_is)) rfl) (NameIs.cel rfl rfl rfl ⟨oO10, hS _ _ (hS21 _ _ om), dO10⟩ rfl) (NameIs.loc rfl rfl hn hm rfl) (NameIs.loc rfl rfl hn hm' rfl) (fnAt_of X3 (by first | rfl | k_is)) ?_)
        have d9m3 := hS _ _ (hS21 _ _ d9m)
        refine meet_P w _ _ _ _ _ _ s₃ D9 a b ns.length _ _ (oursX ns i) _ _ ys9 e9 X3 T3 d9m3 hI9 hlo2 ha hb hN.eight fun bb h23 tk23 hS23 hbb => ?_
        refine wpAny_truthy_bool ⟨?_, h23, tk23, rfl, hS23⟩
        exact Bool.eq_iff_iff.mpr (hbb.trans metC_iff.symm)
      case elt =>
        intro a b ta tb s₃ m₃ ha hb hn hm hm' hS
        refine el_tup (NameIs.loc rfl rfl hn hm rfl) (NameIs.loc rfl rfl hn hm' rfl) fun T9 o9 h23 hS23 hT0 hTP hT => ?_
        exact ⟨⟨T9, o9, rfl, hT0, hTP, hT⟩, h23, _, rfl, hS23⟩
      have k22 : Sub h20 h22 := hS21.trans' hS22
      rw [hqs] at hP20
      refine ne_pairs (k22 _ _ hDa) hD22l hP20 hP22 (fun q hq => k22 _ _ (hl20h q hq)) (fun q hq => (hin22 q hq).1) (roomU64 _) (wpAny_truthy_bool ?_)
      rw [if_neg (by simp)]
      refine wpAny_execs_nil ?_
      show wpAny _ _ (execs _ _) _ _ _
      refine wpAny_execs_nil (hQt _ ?_)
      have N22 : News (ghostOf s1.heap [(60, 56), (70, 68)]) s1.heap.objs.size h22 ((I, it) :: (s1.heap.objs.size + 1 + 1 + 1, oO10) :: (s1.heap.objs.size + 1 + 1, oS8) :: (s1.heap.objs.size + 1, oZ') :: (56, tabObj ps') :: (68, tabObj #[rawInt kpos.line, rawInt kpos.col, .ref c']) :: (D4, listOf (List.toArray (refsOfT rowsT)) e4) :: (D5, listOf (List.toArray (refsOfT rowsW)) e5) :: (tl ++ (cd ++ cd2))) := fun q hq => news_sub N21 k22 q (end_sub q hq)
      have hit0 := it_shape hit
      obtain ⟨its, hit1, hit2⟩ := hit0
      have kd22 : ∀ q ∈ tl ++ (cd ++ cd2), Kd q.2 := by
        intro q hq
        simp only [List.mem_append] at hq
        rcases hq with hq | hq | hq
        · exact kd q hq
        · exact .inr (hcd q hq)
        · rw [hcd17 q hq]; exact .inr ⟨cvs, _, tq, hd17, hv17⟩
      have offI : ∀ q ∈ (s1.heap.objs.size + 1 + 1 + 1, oO10) :: (s1.heap.objs.size + 1 + 1, oS8) :: (s1.heap.objs.size + 1, oZ') :: (56, tabObj ps') :: (68, tabObj #[rawInt kpos.line, rawInt kpos.col, .ref c']) :: (D4, listOf (List.toArray (refsOfT rowsT)) e4) :: (D5, listOf (List.toArray (refsOfT rowsW)) e5) :: (tl ++ (cd ++ cd2)), q.1 ≠ I := by
        intro q hq
        have hq0 := hq
        simp only [List.mem_cons] at hq
        rcases hq with rfl | rfl | rfl | rfl | rfl | rfl | rfl | hq
        · exact hIO.symm
        · exact hoff (_, oS') (.tail _ (.head _))
        · exact hoff (_, oZ') (.tail _ (.tail _ (.head _)))
        · exact hoff (56, tabObj t56) (.tail _ (.tail _ (.tail _ (.head _))))
        · exact hoff (68, tabObj t68) (.tail _ (.tail _ (.tail _ (.tail _ (.head _)))))
        · exact hoff _ (.tail _ (.tail _ (.tail _ (.tail _ (.tail _ (.head _))))))
        · exact hoff _ (.tail _ (.tail _ (.tail _ (.tail _ (.tail _ (.tail _ (.head _)))))))
        · exact apart N22 (.tail _ hq0) (.head _) (kd_fields (kd22 q hq) hit1 hit2)
      have tabL : TabN lpos lqual (ghostOf s1.heap [(60, 56), (70, 68)]) (tl ++ (cd ++ cd2)) ps' := by
        refine tab14.mono fun q hq hst => ?_
        obtain ⟨vs9, s9, t9, hd9, hv9⟩ := hst
        simp only [List.mem_cons, List.mem_append, List.cons_append] at hq ⊢
        rcases hq with rfl | rfl | rfl | rfl | rfl | rfl | rfl | rfl | rfl | rfl | hq | hq
        · cases hd9
        · cases hd9
        · cases hd9
        · rw [hit1] at hd9
          cases hd9
          exact ((hit2 _ hv9).elim fun k9 h => h.elim fun u9 e => by cases e)
        · rw [dO10] at hd9; cases hd9
        · rw [dS8] at hd9; cases hd9
        · rw [dZ6] at hd9; cases hd9
        · cases hd9
          exact ((t68s _ hv9).elim fun k9 h => h.elim fun u9 e => by cases e)
        · cases hd9
        · cases hd9
        · exact .inl hq
        · exact .inr (.inl hq)
      have tabK : TabN kpos kqual (ghostOf s1.heap [(60, 56), (70, 68)]) (tl ++ (cd ++ cd2)) #[rawInt kpos.line, rawInt kpos.col, .ref c'] := by
        refine .inr ⟨c', oc, cvs, tq, rfl, hc17.imp_right fun h => ?_, hd17, hv17⟩
        simp only [List.mem_append]
        rcases h with h | h
        · exact .inl h
        · exact .inr (.inr h)
      exact ⟨h22, tk22, _, _, rfl, fr_sub F20 k22, N22, offI, oO10, oS8, ps', _, _, rfl, ⟨_, dO10⟩, ⟨_, dS8⟩, tabL, tabK, mT, mW, fun q hq => List.mem_append_left _ (inT q hq), fun q hq => List.mem_append_left _ (inW q hq), kd22⟩
    case done =>
      rintro m' nx h tk ⟨oO', oS', t56, t68, tl, rfl, _, _, _, _, _, _, _, _, _⟩ F9 N9
      show wpAny _ _ (execs _ _) _ _ _
      clear F6 N6 F5 N5 N5a F4 N4 N4' F3 N3 F2 N2 U5 hP3 hP4 hP5 hS3 hT4 hW5
      w_strict k_steps)
end
set_option maxRecDepth 100000 in
set_option maxHeartbeats 8000000 in
theorem PySem.Challenge.cw_mq0090_01_holds : PySem.Challenge.rw_mq0090_01.Holds := by
  exact Mine.law_main
