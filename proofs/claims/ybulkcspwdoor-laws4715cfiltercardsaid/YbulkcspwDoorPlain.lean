/- Plain functions of the law 'LawS4715CFilter': no Go in sight. -/
namespace Go.Proofs.YbulkcspwDoor.P

def sRequest : List UInt8 := [114, 101, 113, 117, 101, 115, 116]
def sResponse : List UInt8 := [114, 101, 115, 112, 111, 110, 115, 101]
def sMetadata : List UInt8 := [109, 101, 116, 97, 100, 97, 116, 97]

/-- What 'zzs4715ckey' gives for a member of selector s and key k. -/
def keyB (s : Int) (k : ByteArray) : ByteArray :=
  if s % 7 = 0 then ⟨#[114, 101, 113, 117, 101, 115, 116]⟩
  else if s % 7 = 1 then ⟨#[114, 101, 115, 112, 111, 110, 115, 101]⟩
  else if s % 7 = 2 then ⟨#[109, 101, 116, 97, 100, 97, 116, 97]⟩
  else if s % 7 = 3 then ⟨#[112, 114, 111, 116, 111, 80, 97, 121, 108, 111, 97, 100]⟩
  else if s % 7 = 4 then ⟨#[115, 112, 108, 105, 116]⟩
  else if s % 7 = 5 then ⟨#[114, 101, 113, 117, 101, 115, 116, 88]⟩
  else k

/-- What 'zzs4715cspread' answers. -/
def spreadB (k : ByteArray) : Bool :=
  k.toList == [114, 101, 113, 117, 101, 115, 116] || k.toList == [114, 101, 115, 112, 111, 110, 115, 101] || k.toList == [109, 101, 116, 97, 100, 97, 116, 97]
theorem spreadB_of1 {k : ByteArray} (h : (k.toList == [114, 101, 113, 117, 101, 115, 116]) = true) : spreadB k = true := by simp [spreadB, h]
theorem spreadB_of2 {k : ByteArray} (h : (k.toList == [114, 101, 115, 112, 111, 110, 115, 101]) = true) : spreadB k = true := by simp [spreadB, h]
theorem spreadB_of3 {k : ByteArray} (h : (k.toList == [109, 101, 116, 97, 100, 97, 116, 97]) = true) : spreadB k = true := by simp [spreadB, h]
theorem spreadB_not {k : ByteArray} (h1 : (k.toList == [114, 101, 113, 117, 101, 115, 116]) = false) (h2 : (k.toList == [114, 101, 115, 112, 111, 110, 115, 101]) = false) (h3 : (k.toList == [109, 101, 116, 97, 100, 97, 116, 97]) = false) : spreadB k = false := by simp [spreadB, h1, h2, h3]
theorem spread_cases (k : ByteArray) : (k.toList == [114, 101, 113, 117, 101, 115, 116]) = true ∨
    ((k.toList == [114, 101, 113, 117, 101, 115, 116]) = false ∧ (k.toList == [114, 101, 115, 112, 111, 110, 115, 101]) = true) ∨
    ((k.toList == [114, 101, 113, 117, 101, 115, 116]) = false ∧ (k.toList == [114, 101, 115, 112, 111, 110, 115, 101]) = false ∧ (k.toList == [109, 101, 116, 97, 100, 97, 116, 97]) = true) ∨
    ((k.toList == [114, 101, 113, 117, 101, 115, 116]) = false ∧ (k.toList == [114, 101, 115, 112, 111, 110, 115, 101]) = false ∧ (k.toList == [109, 101, 116, 97, 100, 97, 116, 97]) = false) := by
  cases (k.toList == [114, 101, 113, 117, 101, 115, 116]) <;> cases (k.toList == [114, 101, 115, 112, 111, 110, 115, 101]) <;> cases (k.toList == [109, 101, 116, 97, 100, 97, 116, 97]) <;> simp

/-- What 'zzs4715ckind' gives. -/
def kindB (k : Int) : ByteArray :=
  if k % 3 = 0 then ⟨#[111, 98, 106, 101, 99, 116]⟩ else if k % 3 = 1 then ⟨#[110, 117, 108, 108]⟩ else ⟨#[97, 114, 114, 97, 121]⟩

end Go.Proofs.YbulkcspwDoor.P
